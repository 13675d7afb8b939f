import PyProof.Rows.All
import Wide.All
import OpenK.AllK
import Wide.FinOn
import PySem.Challenge.RW_uy0025_01
set_option Elab.async false
set_option genSizeOf false
set_option tactic.hygienic false
set_option maxRecDepth 100000
set_option genCtorIdx false
set_option compiler.extract_closed false
set_option backward.match.sparseCases false
set_option bootstrap.genMatcherCode false
set_option genInjectivity false
set_option maxHeartbeats 4000000
set_option linter.all false
set_option linter.unusedVariables false
noncomputable section
open Option renaming some → aa, none → aB, isSome_iff_exists → bT, map_eq_some_iff → cR, bind_eq_some_iff → iM, bind_some → lY, isNone_iff_eq_none → mD
open PySem renaming wpAny_bind → aj, wpAny_pure → aA, Value → aD, Expr → aG, Str → aJ, wpAny → aP, Addr → aV, Shared → aW, wpAny_mono → bH, wpAny_holding → bJ, Heap → bM, Around → bO, mainGlobals → bY, builtinsNs → dJ, wpAny_standAt → dM, cellsFrom → dX, sliceBounds → eU, wpAny_Name → eX, Builtin → fB, wpAny_newObj_type → fH, Env → fP, wpAny_field → fQ, wpAny_of_eq → gj, wpAny_loadName_local → gB, builtinKind → gJ, sizeLine_eq → gV, codeAny → iw, isSubtype_type → iy, model → iG, builtinLookup_eq_fast → iI, DictEntry → iK, wpAny_call_entry → iQ, FuncData → jA, Scope → jK, ExceptHandler → jO, seqIndex? → jP, NameKind → jR, isInstance → kh, rawInt → kW, wpAny_loadPart → kY, wpAny_rule → lG, Stmt → lM, wpAny_specialOf → lN, letOwnedTupleGo → lQ, typeLookup_type → lR, compareOp → lV, attributeBase → lZ, recursionLimit → mW, binaryOp → mX, wpAny_call → mZ, wpAny_seqItems → nq, newFunctionEnv → nC, checkBoundCall → nF, standAt → nJ, TriplesOk → nM, wpAny_handleBy_builtin_as → nR, Obj → ou, Program → oK, wpAny_execs_nil → oN, call_meets → oV, slot_listiter_next → ph, wpAny_callSpecial?_slot → pF, keywordEach → pG, isSubtype → pI, Stmt → pK, starEach → pQ, holding → pR, wpAny_setField → pX, foldedSetIterable → pY, wpAny_Call_ofName → pZ, wpAny_storeName_local → qt, wpAt_of_wpAny → qw, assignEach → qF, wpAny_execs_cons → qG, assignInOrder → qM, swappedStores → qN, wpAny_loadPart' → rF, Arguments → rW, getMethod → rZ, swapsWith → sy, sizeLine → sJ, wpAny_pyIter_tuple → sO, Pos → sZ, wpAny_assign_Name → ud, backToKw → uR, wpAny_isInstance → uT, typeIs_str → vm, truthy → vo, typeOf → vp, pyIter → vy, methodCall → vz, World → vK, cLine → vL, wpAny_updateSeq → vM, codeAny_call_function → vY, PyData → wK, wpAny_letTemporaryGo → wN, IsPart → wQ, assign → wU, bindArgs → wV, Keyword → xg, splitId → xm, setItem → xn, ks_wpAny_isType_cls → xR, builtinType_eq_fast → xU, wpAny_attempt → yj, typeIs_int → yJ, argsOk → yK, ks_wpAt_execs_cons → yL, preSum → yN, GenState → zB, entryFor → zE, slot_list_getitem → zF, wpAny_typeOf → zG, codeAny_mono → zH, wpAny_Return_some → zJ, callWith → zK, getMethod_builtin → zN, backTo → Ay, checkBuiltinCall → Az, Result → Ba, pyNext → Bb, entryFor_of_tree → Bc, codeAmong → Be, Model → Br, unpackItems → Bt, rule → Du, codeAny_of_tree → Dw, codeAny_builtin → Dy, getItem → Em, getAttr → En, Operator → Hu, sliceRange → Hw, wpAny_listPart → Hz, wpAny_load → HF, methodCallForm → HJ, typeLookup → HN, wpAny_fieldsOf → HR, closureFor → HS, wpAny_release → QQ, Tok → RG, wpAny_listSubscript_int → RL, strValues → RW, wpAny_mkText → adu, exec → adw, cStatics → aoh, loadName → aok, codeAny_call_builtin → aol, subscripted → aom, wpAny_letGo → aoo, execs → aop, interactive → aoq, wpAny_newFunctionEnv → aor, wpAny_mkInt → aos, wpAny_alloc → aot, strIterType → aov, bindName → aow, unbindBehindTheSuite → aox, handleBy → aoy, wpAny_loadName_free → auq, entry_listiter_next → auw, wpAny_Assign_stores → auy
open Option.some renaming inj → ak
open Nat renaming le_trans → aq, add_le_add_right → aK, lt_of_lt_of_le → aM, le_refl → aN, le_add_right → bh, le_of_lt → bz, add_lt_add_right → bA, lt_of_le_of_lt → bB, add_le_add_left → bG, zero_le → bR, not_lt_of_le → bZ, le_add_left → cL, le_of_eq → cN, le_of_not_lt → cV, ne_of_lt → cW, le_of_lt_succ → cZ, add_le_add → dg, mul_le_mul_right → dh, le_of_succ_le → dB, lt_trans → dG, add_comm → dH, succ_le_succ → dK, lt_irrefl → dW, lt_succ_self → eE, lt_of_le_of_ne → eV, le_succ → eY, add_lt_add_left → fc, succ_pos → fO, add_right_comm → gq, mod_lt → gA, lt_of_not_le → gR, add_assoc → iH, le_succ_of_le → iT, add_sub_cancel_left → iV, zero_add → jd, lt_of_lt_of_eq → jo, le_antisymm → jC, succ_le_of_lt → jF, lt_succ_of_lt → jG, lt_add_of_pos_right → kj, min_eq_left → lz, add_right_cancel → mF, add_left_cancel → nG, add_lt_add_iff_right → nO, exists_eq_add_of_le → oA, ne_of_gt → pq, sub_self → pA, pos_of_ne_zero → rJ, succ → tK, min_le_right → tM, not_le_of_lt → tR, sub_zero → ur, not_lt_zero → uA, le_of_sub_eq_zero → uN, lt_of_sub_eq_succ → uU, not_succ_le_self → vA, add_zero → xT, lt_succ_of_le → xV, succ_ne_self → yO, succ_ne_zero → yQ, succ_add_eq_add_succ → Dz, sub_eq_zero_of_le → Li, le_of_ble_eq_true → Lj, mul_le_mul_left → RJ, add_sub_cancel' → RX, mod_two_ne_zero → Sq, not_lt → ady, sub_le → aeb, sub_add_cancel → aed, add_sub_of_le → afh, min_eq_right → aou, mod_eq_of_lt → apb, min_le_left → aus, le_max_left → auz
open Bool renaming true → au, false → aC, false_ne_true → aR, or_eq_false_iff → dI, eq_false_iff → eF, and_eq_true → fX, or_eq_true_iff → fY, and_false → gY, or_false → jL, or_eq_true → lr, and_true → qb, true_and → rY, eq_iff_iff → uq, and_eq_false_iff → uC, false_and → vd, not_eq_true' → xF, and_eq_true_iff → Lq, false_eq_true → RN, and_assoc → avc
open List renaming length_append → az, length_map → aF, mem_singleton → aH, getElem?_eq_some_iff → aL, append_assoc → aQ, mem_cons → bc, append_nil → bf, all_eq_true → bj, map_append → bu, filter_cons_of_neg → bw, filter_cons_of_pos → bD, map_map → bF, mem_append → bI, getElem?_eq_getElem → bU, mem_of_getElem? → bV, isEmpty_iff → cj, mem_map → cC, map_cons → cF, mem_filter → cG, contains_iff_mem → cJ, mem_flatten → cM, filterMap_cons_some → cO, mem_range → cP, length_set → cY, replicate → dj, range → dm, filterMap_cons_none → dq, getElem?_append_right → dN, length_filter_le → dO, length_cons → dZ, filter_append → fJ, mem_append_right → fZ, getElem?_set_ne → gk, nodup_cons → gw, getElem?_append_left → gC, getElem?_map → gF, forIn_cons → gK, getElem?_set_self → gW, getD_eq_getElem?_getD → gZ, nil_append → iU, filter_nil → iW, replicate_succ → iZ, length_replicate → jm, flatten_cons → jD, filter_eq_self → jU, any_eq_true → jW, length_range → lH, mem_of_find?_eq_some → mJ, extract_eq_take_drop → mK, flatten_append → mV, sum_cons → nH, lookup → nY, mapM_cons → oM, find?_cons_of_pos → oO, find?_cons_of_neg → oR, filter_eq_nil_iff → oU, drop_length → pO, eq_nil_of_length_eq_zero → qd, mem_append_left → qe, length_nil → qx, map_congr_left → qH, set_set → qO, drop_zero → qU, contains_cons → qW, takeWhile_cons_of_neg → qY, takeWhile_cons_of_pos → qZ, drop_eq_getElem_cons → rN, length_take → tu, take_length → tB, all_toArray → tC, range_succ → ux, getElem?_eq_none → uB, take_append_drop → uD, set_append_right → uF, mem_of_mem_take → uZ, map_take → wg, map_drop → wi, mem_filterMap → wz, filterMap_nil → wC, filter_filter → wF, size_toArray → xq, reverse_cons → xu, filter_congr → xG, mk_mem_zipIdx_iff_getElem? → xY, lookup_cons → yh, length_drop → ym, getElem?_concat_length → zP, take_zero → zY, any_cons → Bv, getElem?_take_of_lt → Bw, length_filterMap_le → Bx, eq_of_mem_replicate → BJ, mem_singleton_self → DG, take_of_length_le → Eo, drop_of_length_le → Et, length → Lh, mem_cons_of_mem → Lk, length_take_le' → Lp, contains_append → Lr, length_reverse → QW, length_take_le → QX, foldl → RK, zip_nil_right → RQ, lookup_append → RT, getElem?_drop → Sd, nodup_append → adq, ext_getElem? → adx, contains_nil → aec, head?_filter → aee, range'_succ → afm, cons_append → afn, foldl_cons → aoj, find?_some → aon, foldr_cons → aoz, take_left' → apa, take_left → auv, drop_left → avd
open PySem.Heap renaming get?_push_of_some → aZ, get?_push_size → bx, lt_size → gf, get?_none_of_le → gQ, get?_update_self → jl, SameBut → jE, get?_update_other → kI, size_push → mj, Ns → qL, IsCell → uY, ExtBut → yM
open PySem.PyData renaming strOk → bC, eqv → km, str → pJ, depth → qp, eqvAll → rO, tuple → wD, canLay0 → yV, int → yZ, canLayAll0 → QK, depthAll → adt
open List.cons renaming inj → bL
open PySem.Txt renaming lower → bQ, isspace → kE, split → pP, join → qj, strip → qT
open Array renaming getElem?_toList → cz, toList_append → dC, length_toList → dR, getElem?_eq_getElem → fG, toList_inj → jc, append_empty → jg, toList_push → lD, getElem?_eq_some_iff → lO, toList_eraseIdxIfInBounds → pg, size → pL, toList_extract → pU, toArray_toList → uO, extract → vN, size_append → wM, getElem_eq_getD → Ep, mem_toList_iff → HQ, append_assoc → QH, empty_append → QJ, size_extract → QR, any_toList → adv, size_push → afk
open Int renaming natCast_nonneg → cA, le_trans → dF, ofNat_le → fM, not_lt → ig, ofNat_lt → je, lt_of_le_of_lt → jj, natCast_add → lA, toNat_natCast → lK, toNat → mQ, max_eq_right → mR, le_of_eq → oX, mul_le_mul_of_nonneg_left → qm, toNat_of_nonneg → qK, not_le → rD, lt_of_lt_of_le → rE, add_sub_cancel → rI, toNat_le → uv, toNat_lt → xP, le_of_lt → xQ, ofNat_nonneg → yP, fdiv_eq_ediv_of_nonneg → Bg, ediv_one → HH, add_comm → HW, add_lt_add_right → QS, sub_nonneg_of_le → QT, sub_nonpos_of_le → QV, toNat_of_nonpos → RP, sub_add_cancel → adz, ofNat_eq_zero → afo, le_max_left → aut, min_eq_left → avb
open PySem.Unicode renaming isSpace → dw
open PySem.Obj renaming mapSeq → dY, data_mapFields → kZ, isFreed_of_fields → uQ, putName → vq, cls_mapFields → afi
open PySem.NameKind renaming free → eG, cell → gU
open PySem.Builtin.List renaming listFitsIndex → eQ, listSubscript? → iJ, listTooLong → xj
open PySem.W renaming looks_findIn → fD, hideAll → fW, findIn → gn, emptyDict → gG, dictOf → iD, of_hideAll → iR, hideAll_get → jT, Looks → lC, tabObj → nW, looks_nsIn → oW, callWith_of → pH, hideAll_none → pW, looks_mroIn → qP, typeIn → sI, looks_clsIn → wR, specialIn → wZ, makesIn → zy, stepT → zA, lookIn_dict → Bs, SharedT → El, WellAll → Eu, clsIn → Hv, noSeq → Hx, keepIn → Hy, getL → QM, mroIn → RD, hasDictIn → RM, nsIn → ado, takesIn → adp, Frag → aog, openEnds → aoi
open PySem.Value renaming type → jh, none → tQ, ref → Bu
open ForInStep renaming yield → ji
open PySem.Calls renaming spliced_cons → jk, spliced_nil → mY, evalArgs_plain → nu
open PySem.Manifest renaming canonical → jV, signature? → lW, find? → RV
open PySem.Builtin.Range renaming rangeFitsLong → jX, small → lu
open PySem.Str renaming ofString → kO, cps_append → vB, length → wL, ext' → xW, join → xX, empty → yI
open Prod.mk renaming inj → lJ
open PyProof.Rows renaming subscriptTail → lX, tail_any → HD, loadName_read → QL, AllBare → aea
open PySem.F renaming ks_slot_super_ga → mO, slot_str_split → oh, args_str_split_2 → rH, entry_str_split → rU, type_list_pop → tV, slot_str_join → tY, type_str_join → tZ, slot_tuple_iterator_next → vZ, excStr_ValueError → yX, excStr_TypeError → zL, slot_list_insert → zM, type_list_append → zO, slot_dict_items → zX, entry_list_pop → Bf, slot_list_pop → By, slot_str_mod → Dv
open PySem.W.Looks renaming of_pure → nA, ld → uP
open Nat.succ renaming inj → nQ
open PySem.P renaming str_of_exc_one → nZ, len_str → RZ
open PySem.Sre renaming Seen → oY
open PySem.Heap.SameBut renaming update → oZ
open Exists renaming elim → pN
open PySem.WalksT renaming enumerateD → rG
open And renaming elim → tL
open PUnit renaming unit → tU
open PySem.Builtin.Str renaming strKind → tW, strSliceIndices → wu, occurrences → yg
open PySem.Around renaming frames_deeper → uE, under_plainId → Er
open PySem.ScopeKind renaming function → uV
open PySem.Challenge renaming rw_uy0025_01 → uW
open PySem.Code renaming quiet_builtin → wA
open PySem.Heap.IsSliceOf renaming new → yW
open Decidable renaming not_not → Es
open Int.ofNat renaming inj → Sg
open PySem.Builtin.SmallTypes renaming nextOf → afj
open Array.mk renaming inj → afl
open PySem.Bind renaming checkArgs → aur
open PySem.AutoIntOps renaming iadd_0 → auu
open Prod renaming fst → ava
section
namespace Mine.Internal
def bN {c:Prop}{h:Decidable c}(k:c){α:Sort _}{t e:α}:ite c t e=t:=if_pos k
def bk {c:Prop}{h:Decidable c}(k:¬c){α:Sort _}{t e:α}:ite c t e=e:=if_neg k
def gH {p:Prop}[i:Decidable p](h:decide p=au):p:=of_decide_eq_true h
def gO {p:Prop}[i:Decidable p](h:p):decide p=au:=decide_eq_true h
def gM {α:Type _}[BEq α][LawfulBEq α]{a b:α}(h:(a==b)=au):a=b:=eq_of_beq h
@[elab_as_elim] theorem aO {α:Sort _} {a b:α} {motive:∀J:α,Prop} (h:a=b) (p:motive b):motive a:=h▸p
@[elab_as_elim] theorem wj {α:Sort _} {a b:α} {motive:∀J:α,Prop} (h:a=b) (p:motive a):motive b:=h▸p
def rz {α:Type _}{l:List α}{a:α}(i:Nat)(h:l[i]?=aa a):a∈l:=bV h
def iz {α:Type _}{a:α}{C:Prop}(h:aB=aa a):C:=by cases h
def nxS {α:Type _}{a:α}{C:Prop}(h:aa a=aB):C:=iz h.symm
def nxC {α:Type _}{a:α}{l:List α}{C:Prop}(h: []=a::l):C:=by cases h
def nxD {α:Type _}{a:α}{l:List α}{C:Prop}(h:a::l= []):C:=nxC h.symm
def zZ {α:Type _}{a:α}{C:Prop}(h:a∈([]:List α)):C:=absurd h List.not_mem_nil
def qI {C:Prop}(h:aC=au):C:=by cases h
def Ss {C:Prop}(h:au=aC):C:=qI h.symm
def nxZ {n:Nat}{C:Prop}(h:0=n+1):C:=by cases h
def nxY {n:Nat}{C:Prop}(h:n+1=0):C:=nxZ h.symm
def nxL {n:Nat}{C:Prop}(h:n<0):C:=absurd h (uA n)
def uG {P:Prop}(f:∀G:Prop,∀J:(∀J:P,G),G):P:=f P λx=>x
def oG {α:Sort _}{p q:∀J:α,Prop}{b:Prop}(h:∃x,p x∧q x)(f:∀x,∀J:p x,∀J:q x,b):b:=h.elim λx h=>f x h.1 h.2
def Su {α:Sort _}{p q r:∀J:α,Prop}{b:Prop}(h:∃x,p x∧q x∧r x)(f:∀x,∀J:p x,∀J:q x,∀J:r x,b):b:=h.elim λx h=>f x h.1 h.2.1 h.2.2
def exX {α β:Sort _}{p:∀J:α,∀J:β,Prop}{b:Prop}(h:∃x,∃y,p x y)(f:∀x y,∀J:p x y,b):b:=h.elim λx h=>h.elim λy h=>f x y h
def exY {α β:Sort _}{p q:∀J:α,∀J:β,Prop}{b:Prop}(h:∃x,∃y,p x y∧q x y)(f:∀x y,∀J:p x y,∀J:q x y,b):b:=h.elim λx h=>h.elim λy h=>f x y h.1 h.2
def HY {p q r b:Prop}(h:p∧q∧r)(f:∀J:p,∀J:q,∀J:r,b):b:=f h.1 h.2.1 h.2.2
def anB {p q r s b:Prop}(h:p∧q∧r∧s)(f:∀J:p,∀J:q,∀J:r,∀J:s,b):b:=f h.1 h.2.1 h.2.2.1 h.2.2.2
abbrev PQ (β:Type):Type:=∀J:β,∀J:PySem.Shared,Prop
open PySem
def pM {α:Type}{M:Br}{A:bO}{t t':Sem α}{Q:PQ α}{E:PQ aD}{s:aW}(h:t=t')(k:aP M A t' Q E s):aP M A t Q E s:=h▸k
set_option genCtorIdx true in
inductive V where
 | none | bool (b:Bool) | int (i:Int) | str (s:aJ) | tup (l:List V) | ref (i:Nat) | gl (v:aD)
 | exc (cls:String) (msg:aJ) | BK (k:aG) | mat | QZ (i:Nat)
inductive j0 where
 | bad | cst (v:V) | loc (x:aJ) | cX (x:aJ) | jq (x:aJ)
 | yR (o:BoolOp) (l:List j0) | bin (o:Hu) (a b:j0) | not (a:j0) | neg (a:j0)
 | ite (t a b:j0) | tup (l:List j0) | lst (l:List j0) | cmp (o:CmpOp) (a b:j0)
 | call (f:j0) (args:List j0) (kn:List aJ) (Ia:List j0) | bW (o:j0) (n:aJ) (args:List j0) (kn:List aJ) (Ia:List j0)
 | star (o:j0) (n:aJ) (a:j0) | sup (n:aJ)
 | attr (o:j0) (n:aJ) | sub (o i:j0) | vC (o a b c:j0)
 | comp (elt t it:j0) (ifs:List j0) (uz:List aJ) | lam (k:aG)
 | Bh (l:List j0) | za (e:j0)
structure DK where
 cls:aJ
 x:aJ
 app:Bool
 to:aJ
inductive t6 where
 | bad | expr (e:j0) | ret (e:j0) | asg (t e:j0) | afq (a i:j0) (o:Hu) (e:j0)
 | del (o i:j0) | ite (t:j0) (a b:List t6) | whl (t:j0) (b:List t6) | rA (t it:j0) (b o:List t6)
 | raise (cls:String) (msg:aJ) | Ew (b:List t6) (hs:List DK) | pass | brk | cont
abbrev j7:=List (aJ×V)
set_option genCtorIdx true in
inductive m6 where
 | list (l:List V) | inst (c:aV) (d:j7) | acc (c:aV) (d:j7) (l:List V) | vD
abbrev Hp:=List m6
set_option genCtorIdx true in
inductive Res (α:Type) where
 | ok (a:α) | exc (cls:String) (msg:aJ)
abbrev Out (α:Type):=Option (Res α×Hp)
noncomputable def jf {α β:Type}(r:Out α)(f:α->Hp->Out β):Out β:=match r with
 | some (.ok a,H)=>f a H
 | some (.exc c m,H)=>aa (.exc c m,H)
 | none=>aB
noncomputable abbrev ok {α:Type}(a:α)(H:Hp):Out α:=aa (.ok a,H)
noncomputable def opt {α β:Type}(o:Option α)(f:α->Option β):Option β:=match o with
 | some a=>f a
 | none=>aB
noncomputable def fu {β:Type}(b:Bool)(r:Option β):Option β:=if b=au then r else aB
section
open PySem.W PyProof.Rows
def at8 (K:aog)(C:aV):Bool:=(opt (K.lookup C) λo=>opt (Hv K C) λcd=>fu (!cd.abstract&& !cd.hasDel&&(o.slots.toList[4]?).join==aa (.builtin "list.__new__")&& !cd.mro.isEmpty&&cd.mro.contains (.ref C)&&cd.mro.contains (.type "list")&&
   wZ K (.ref C) "__call__"==aa (aa (.builtin "type.__call__"))&&instIn K (.ref C) (.type "type")==aa au) (aa au)).isSome
end
structure Fm where
 loc:j7
 cX:j7
 lk:List Nat
structure St where
 loc:j7
 cX:j7
 hp:Hp
abbrev G5 (α:Type):=Option (Res α×St)
noncomputable def Q5 {α β:Type}(r:G5 α)(f:α->St->G5 β):G5 β:=match r with
 | some (.ok a,σ)=>f a σ
 | some (.exc c m,σ)=>aa (.exc c m,σ)
 | none=>aB
noncomputable abbrev eO {α:Type}(a:α)(σ:St):G5 α:=aa (.ok a,σ)
noncomputable def St.fm (σ:St)(lk:List Nat):Fm:=⟨σ.loc,σ.cX,lk⟩
noncomputable def lq {α:Type}(σ:St)(r:Out α):G5 α:=match r with
 | some (a,H)=>aa (a,{σ with hp:=H})
 | none=>aB
noncomputable def upd (e:j7)(x:aJ)(v:V):j7:=match e with
 | []=> [(x,v)]
 | (y,u)::r=>if y=x then(x,v)::r else(y,u)::upd r x v
def Sv {x y:aJ}{u v:V}{r:j7}:upd ((y,u)::r) x v=if y=x then(x,v)::r else(y,u)::upd r x v:=rfl
noncomputable def del (e:j7)(x:aJ):j7:=e.filter λp=>p.1≠x
def alloc (H:Hp)(o:m6):Out V:=ok (.ref H.length) (H++ [o])
def put {α:Type}(lk:List Nat)(H:Hp)(i:Nat)(o:m6)(a:α):Out α:=fu (!lk.contains i) (ok a (H.set i o))
set_option genCtorIdx true in
inductive Fl where
 | next | brk | cont | ret (v:V)
structure Fn where
 params:List aJ
 dflt:j7
 eN:List aJ
 kwarg:Option aJ
 cells:List aJ
 body:List t6
 shapes:List (Nat×List aJ)
structure Gl where
 glob:aJ->Option V
 fn:aV->Option Fn
 bW:aV->aJ->Option aV
 gh:aV
 re:aV->Option (Nat->Bool)
 lam:aG->Option (List aJ×j0)
noncomputable def room (n:Nat):Bool:=decide (n≤16777216)
noncomputable def small (i:Int):Bool:=decide (-9223372036854775808≤i)&&decide (i<9223372036854775808)
noncomputable def mid (i:Int):Bool:=decide (-1000000000000000≤i)&&decide (i≤1000000000000000)
noncomputable def intOf:V->Option Int
 | .int i=>aa i
 | _=>aB
noncomputable def strOf:V->Option aJ
 | .str s=>aa s
 | _=>aB
noncomputable def yo:V->Option (List V)
 | .tup l=>aa l
 | _=>aB
noncomputable def refOf:V->Option Nat
 | .ref i=>aa i
 | _=>aB
noncomputable def boolOf:V->Option Bool
 | .bool b=>aa b
 | _=>aB
noncomputable def lst:m6->Option (List V)
 | .list l=>aa l
 | _=>aB
noncomputable def ins:m6->Option (aV×j7)
 | .inst c d=>aa (c,d)
 | _=>aB
noncomputable def a6h:m6->Option (aV×j7×List V)
 | .acc c d l=>aa (c,d,l)
 | _=>aB
def listAt (H:Hp)(v:V):Option (Nat×List V):=opt (refOf v) λi=>opt H[i]? λo=>opt (lst o) λl=>aa (i,l)
def lE (H:Hp)(v:V):Option (Nat×aV×j7):=opt (refOf v) λi=>opt H[i]? λo=>opt (ins o) λp=>aa (i,p)
def sS (H:Hp)(v:V):Option (Nat×aV×j7×List V):=opt (refOf v) λi=>opt H[i]? λo=>opt (a6h o) λp=>aa (i,p)
def itemsOf (H:Hp)(v:V):Option (List V):=match v with
 | .tup l=>aa l
 | v=>opt (listAt H v) λp=>aa p.2
noncomputable def BL:List V->Option (List aJ)
 | []=>aa []
 | v::r=>opt (strOf v) λs=>opt (BL r) λl=>aa (s::l)
noncomputable def BP:List V->Option (List Int)
 | []=>aa []
 | v::r=>opt (intOf v) λs=>opt (BP r) λl=>aa (s::l)
def Ex (H:Hp)(v:V):Option (List Int):=opt (listAt H v) λp=>BP p.2
def mkS (s:aJ):Option V:=fu (room s.length) (aa (.str s))
def Ra (H:Hp)(v:V):Option (List V):=match v with
 | .tup l=>aa l
 | .str s=>aa (s.cps.toList.map λc=> .str ⟨#[c]⟩)
 | .QZ i=>opt H[i]? λo=>match o with
  | .vD=>aa []
  | _=>aB
 | .ref i=>opt H[i]? lst
 | _=>aB
noncomputable def ag1:V->List Nat
 | .ref i=> [i]
 | .QZ i=> [i]
 | _=> []
noncomputable def O6 {α β:Type}(f:α->Hp->Out β):List α->Hp->Out (List β)
 | [],H=>ok [] H
 | e::r,H=>jf (f e H) λv H=>jf (O6 f r H) λvs H=>ok (v::vs) H
noncomputable def R4 (H:Hp):Nat->V->Option wK
 | 0,_=>aB
 | n+1,v=>match v with
  | .none=>aa .none
  | .bool b=>aa (.bool b)
  | .int i=>aa (.int i)
  | .str s=>fu (bC s) (aa (.str s))
  | .tup l=>(l.mapM (R4 H n)).map .tuple
  | .ref i=>opt H[i]? λo=>opt (lst o) λl=>(l.mapM (R4 H n)).map .list
  | _=>aB
def eqP (H:Hp)(a b:V):Option Bool:=opt (R4 H 8 a) λx=>opt (R4 H 8 b) λy=>aa (km x y)
noncomputable def Sw:∀J:wK,Option (List wK)
 | .list l=>aa l
 | _=>aB
def SJ (H:Hp)(a b:V):Option Bool:=opt (R4 H 8 b) λy=>opt (Sw y) λds=>opt (R4 H 8 a) λd=>aa (!(ds.any λy=>km y d))
noncomputable def idx {α:Type}(l:List α)(i:Int):Option α:=if 0≤i then l[i.toNat]? else if 0≤i+l.length then l[(i+l.length).toNat]? else aB
noncomputable def Y7:V->Option (Option Int)
 | .none=>aa aB
 | .int i=>aa (aa i)
 | _=>aB
noncomputable def picks (lo hi st:Option Int)(n:Nat):List Nat:=Hw (eU lo hi st n).1 (eU lo hi st n).2.1 (eU lo hi st n).2.2
def jM {α:Type}(l:List α)(lo hi st:Option Int):List α:=(picks lo hi st l.length).filterMap (l[·]?)
def Ib (s:aJ)(lo hi st:Option Int):aJ:=if st.getD 1==1&&(picks lo hi st s.length).length==s.length then s else⟨(jM s.cps.toList lo hi st).toArray⟩
def avh {β:Type}(a b c:V)(f:Option Int->Option Int->Option Int->Option β):Option β:=opt (Y7 a) λlo=>opt (Y7 b) λhi=>opt (Y7 c) λst=>if st=aa 0 then aB else f lo hi st
noncomputable def toS (l:List Nat):aJ:=⟨l.toArray⟩
def pairOf (v:V):Option (aJ×aJ):=opt (yo v) λl=>match l with
 | [a,b]=>opt (strOf a) λx=>opt (strOf b) λy=>aa (x,y)
 | _=>aB
noncomputable def pairs:List V->Option (List (aJ×aJ))
 | []=>aa []
 | v::r=>opt (pairOf v) λp=>opt (pairs r) λl=>aa (p::l)
noncomputable def G6 (l:List (aJ×aJ)):Nat:=(l.map λp=>p.1.length+p.2.length).sum
noncomputable def G3 (l:List (aJ×aJ)):aJ:=l.foldr (λp s=>(p.1.append p.2).append s) yI
def Ie (d:j7)(l:List V):Option (Int×List (aJ×aJ)):=opt (d.lookup ("_initial_size":aJ)) λv=>opt (intOf v) λn=>opt (pairs l) λps=>
 fu (mid n&&room (G6 ps)&&decide (l.length≤1000000)) (aa (n,ps))
def ag2 (d:j7)(l:List V):Option Int:=opt (Ie d l) λp=>fu (decide (0≤p.1+(G6 p.2:Int))) (aa (p.1+(G6 p.2:Int)))
def a6j:m6->Option Bool
 | .list l=>aa (!l.isEmpty)
 | .acc _ d l=>opt (ag2 d l) λk=>aa (k !=0)
 | _=>aB
def U5 (H:Hp)(v:V):Option Bool:=match v with
 | .none=>aa aC
 | .bool b=>aa b
 | .int i=>aa (i !=0)
 | .str s=>fu (room s.length) (aa (s.length !=0))
 | .mat=>aa au
 | .ref i=>opt H[i]? λo=>match o with
  | .list l=>aa (!l.isEmpty)
  | .acc _ d l=>opt (ag2 d l) λk=>aa (k !=0)
  | _=>aB
 | _=>aB
def tru (H:Hp)(v:V):Out Bool:=opt (U5 H v) λb=>ok b H
noncomputable def rep {α:Type}(l:List α)(n:Int):List α:=(dj n.toNat l).flatten
noncomputable def few (n:Int):Bool:=decide (0≤n)&&decide (n≤1000000)
def a6k (H:Hp)(a b:V):Out V:=match a with
 | .int x=>opt (intOf b) λy=>ok (.int (x+y)) H
 | .str x=>opt (strOf b) λy=>opt (mkS (x.append y)) λv=>ok v H
 | .ref i=>opt (listAt H (.ref i)) λp=>opt (listAt H b) λq=>fu (room (p.2.length+q.2.length)) (alloc H (.list (p.2++q.2)))
 | _=>aB
def a6l (H:Hp)(a b:V):Out V:=match a with
 | .int x=>opt (intOf b) λy=>fu (small x&&small y) (ok (.int (x*y)) H)
 | .str x=>opt (intOf b) λn=>fu (few n&&room (x.length*n.toNat)) (ok (.str (toS (rep x.cps.toList n))) H)
 | .ref i=>opt (listAt H (.ref i)) λp=>opt (intOf b) λn=>fu (few n&&room (p.2.length*n.toNat)) (alloc H (.list (rep p.2 n)))
 | _=>aB
def a6m (H:Hp)(a b:V):Out V:=match a with
 | .int x=>opt (intOf b) λy=>fu (decide (0<y)) (ok (.int (x.fmod y)) H)
 | .str f=>opt (pairOf b) λp=>fu (decide (f=("%s: %s":aJ))&&decide (p.1.length≤1000000)&&decide (p.2.length≤1000000)) (ok (.str ((p.1++(": ":aJ))++p.2)) H)
 | _=>aB
def V0 (H:Hp)(o:Hu)(a b:V):Out V:=match o with
 | .Add=>a6k H a b
 | .Mult=>a6l H a b
 | .Sub=>opt (intOf a) λx=>opt (intOf b) λy=>ok (.int (x-y)) H
 | .FloorDiv=>opt (intOf a) λx=>opt (intOf b) λy=>fu (decide (0<y)&&decide (y<1073741824)) (ok (.int (x.fdiv y)) H)
 | .Mod=>a6m H a b
 | _=>aB
noncomputable def Ey:V->Option aD
 | .gl v=>aa v
 | _=>aB
noncomputable def avi:aD->Option String
 | .type t=>aa t
 | _=>aB
def apf (a b:V):Option Bool:=opt (Ey a) λu=>opt (avi u) λx=>opt (Ey b) λw=>opt (avi w) λy=>aa (decide (x=y))
noncomputable def aIr:aD->Bool
 | .ref _=>au
 | _=>aC
def isNone:V->Option Bool
 | .none=>aa au
 | .gl v=>fu (aIr v) (aa aC)
 | _=>aa aC
def isP (a b:V):Option Bool:=match b with
 | .none=>isNone a
 | b=>apf a b
def ltP (a b:V):Option Bool:=opt (intOf a) λx=>opt (intOf b) λy=>aa (decide (x<y))
def leP (a b:V):Option Bool:=opt (intOf a) λx=>opt (intOf b) λy=>aa (decide (x≤y))
def apg (v:V):Option Nat:=opt (strOf v) λs=>match s.cps.toList with
 | [c]=>aa c
 | _=>aB
def inP (a b:V):Option Bool:=opt (apg a) λc=>opt (strOf b) λs=>aa (s.cps.toList.contains c)
def K7 (H:Hp)(o:CmpOp)(x y:V):Option Bool:=match o with
 | .Lt=>ltP x y
 | .LtE=>leP x y
 | .Gt=>ltP y x
 | .In=>inP x y
 | .Eq=>eqP H x y
 | .NotEq=>(eqP H x y).map (!·)
 | .Is=>isP x y
 | .IsNot=>(isP x y).map (!·)
 | .NotIn=>SJ H x y
 | _=>aB
def BW (k:Int):m6->Option V
 | .list l=>idx l k
 | .acc _ _ l=>idx l k
 | _=>aB
def Z5 (H:Hp)(o i:V):Option V:=opt (intOf i) λk=>fu (small k) (match o with
 | .tup l=>idx l k
 | .str s=>opt (idx s.cps.toList k) λc=>aa (.str ⟨#[c]⟩)
 | .ref j=>opt H[j]? (BW k)
 | _=>aB)
def a6n (H:Hp)(lo hi st:Option Int):m6->Out V
 | .list l=>alloc H (.list (jM l lo hi st))
 | .acc _ _ l=>alloc H (.list (jM l lo hi st))
 | _=>aB
def Ez (H:Hp)(o a b c:V):Out V:=avh a b c λlo hi st=>match o with
 | .str s=>opt (mkS (Ib s lo hi st)) λv=>ok v H
 | .ref i=>opt H[i]? (a6n H lo hi st)
 | _=>aB
noncomputable def setAt {α:Type}(l:List α)(k:Int)(v:α):Option (List α):=if 0≤k then(if k<l.length then aa (l.set k.toNat v) else aB) else if 0≤k+l.length then aa (l.set (k+l.length).toNat v) else aB
noncomputable def G7:List aJ:= ["_headers","_maxlen","_continuation_ws","_continuation_ws_len","_splitchars","_lines","_current_line","_initial_size"]
noncomputable def SM:V->Bool
 | .gl _=>aC
 | _=>au
noncomputable def aI6:m6->Option j7
 | .inst _ d=>aa d
 | .acc _ d _=>aa d
 | _=>aB
def Ls (H:Hp)(o:V)(n:aJ):Option V:=fu (G7.contains n) (opt (refOf o) λi=>opt H[i]? λx=>opt (aI6 x) λd=>opt (d.lookup n) λv=>fu (SM v) (aa v))
def SN (lk:List Nat)(H:Hp)(i:Nat)(n:aJ)(v:V):m6->Out Unit
 | .inst c d=>fu (decide (d.length<100)) (put lk H i (.inst c (upd d n v)) ())
 | .acc c d l=>fu (decide (d.length<100)) (put lk H i (.acc c (upd d n v) l) ())
 | _=>aB
def X4 (lk:List Nat)(H:Hp)(o:V)(n:aJ)(v:V):Out Unit:=fu (G7.contains n) (opt (refOf o) λi=>opt H[i]? (SN lk H i n v))
noncomputable def Y8 (l new:List V)(lo hi:Option Int):List V:=l.take (eU lo hi aB l.length).1.toNat++new++l.drop (max (eU lo hi aB l.length).1 (eU lo hi aB l.length).2.1).toNat
def aft (lk:List Nat)(H:Hp)(i:Nat)(new:List V)(lo hi:Option Int):m6->Out Unit
 | .list l=>fu (room (l.length+new.length)) (put lk H i (.list (Y8 l new lo hi)) ())
 | .acc c d l=>fu (room (l.length+new.length)) (put lk H i (.acc c d (Y8 l new lo hi)) ())
 | _=>aB
def ar0 (lk:List Nat)(H:Hp)(o x y v:V):Out Unit:=opt (listAt H v) λnew=>opt (Y7 x) λlo=>opt (Y7 y) λhi=>opt (refOf o) λi=>opt H[i]? (aft lk H i new.2 lo hi)
def aIv (H:Hp):m6->Out V
 | .list l=>ok (.int l.length) H
 | .acc _ d l=>opt (ag2 d l) λk=>ok (.int k) H
 | _=>aB
def a6p (H:Hp)(v:V):Out V:=match v with
 | .str s=>fu (room s.length) (ok (.int s.length) H)
 | .tup l=>fu (room l.length) (ok (.int l.length) H)
 | .ref i=>opt H[i]? (aIv H)
 | _=>aB
def O7 (H:Hp)(b:String)(v:V):Out V:=
 if b="len" then a6p H v
 else if b="sum" then opt (Ex H v) λns=>fu (decide (ns.length≤1000)&&ns.all mid) (ok (.int ns.sum) H)
 else if b="chr" then opt (intOf v) λi=>fu (decide (0≤i)&&decide (i<128)) (ok (.str (toS [i.toNat])) H)
 else aB
def a6q (H:Hp)(v:V):Out V:=match v with
 | .str s=>ok (.str s) H
 | .exc _ m=>ok (.str m) H
 | .ref i=>opt (sS H (.ref i)) λp=>opt (pairs p.2.2.2) λps=>opt (mkS (G3 ps)) λv=>ok v H
 | _=>aB
def a6r (H:Hp)(v:V):Out V:=match v with
 | .str _=>ok (.gl (.type "str")) H
 | .tup _=>ok (.gl (.type "tuple")) H
 | .ref i=>opt (listAt H (.ref i)) λU=>ok (.gl (.type "list")) H
 | _=>aB
def Lw (H:Hp)(t:String)(v:V):Out V:=
 if t="str" then a6q H v
 else if t="list" then opt (listAt H v) λp=>alloc H (.list p.2)
 else if t="type" then a6r H v
 else aB
noncomputable def partsOf (s t:aJ):List aJ:=Builtin.Str.partsBetween s (yg s t 0 s.length (s.length+1)) t.length
noncomputable def one:List V->Option V
 | [v]=>aa v
 | _=>aB
def Ig (H:Hp)(s:aJ)(n:aJ)(vs:List V):Out V:=
 if n=("lower":aJ) then fu (vs.isEmpty&&room (bQ s).length) (ok (.str (bQ s)) H)
 else if n=("strip":aJ) then fu (vs.isEmpty&&room s.length) (ok (.str (qT s)) H)
 else if n=("isspace":aJ) then fu vs.isEmpty (ok (.bool (kE s)) H)
 else opt (one vs) λv=>
  if n=("join":aJ) then opt (listAt H v) λl=>opt (BL l.2) λxs=>fu (room ((xs.map (·.length)).sum+xs.length*s.length)) (ok (.str (qj s xs)) H)
  else if n=("split":aJ) then opt (strOf v) λt=>fu (t.length !=0&&room s.length&&room (partsOf s t).length) (alloc H (.list ((pP s t).map .str)))
  else aB
noncomputable def two:List V->Option (V×V)
 | [a,b]=>aa (a,b)
 | _=>aB
def EY (lk:List Nat)(H:Hp)(i:Nat)(l:List V)(n:aJ)(vs:List V):Out V:=
 if n=("append":aJ) then opt (one vs) λv=>fu (room (l.length+1)) (put lk H i (.list (l++ [v])) .none)
 else if n=("pop":aJ) then opt (one vs) λv=>opt (intOf v) λk=>fu (decide (k=0)) (opt l.head? λx=>put lk H i (.list l.tail) x)
 else if n=("insert":aJ) then opt (two vs) λp=>opt (intOf p.1) λk=>fu (decide (0≤k)&&decide (k≤l.length)&&room (l.length+1)) (put lk H i (.list (l.take k.toNat++p.2::l.drop k.toNat)) .none)
 else aB
def Lx (lk:List Nat)(H:Hp)(i:Nat)(c:aV)(d:j7)(l:List V)(n:aJ):Out V:=
 if n=("__init__":aJ) then put lk H i (.acc c d []) .none
 else if n=("__len__":aJ) then ok (.int l.length) H
 else if n=("pop":aJ) then opt l.getLast? λx=>put lk H i (.acc c d l.dropLast) x
 else aB
noncomputable def asks {α:Type}(f:aJ->Option α):List aJ->Option (List (aJ×α))
 | []=>aa []
 | x::r=>opt (f x) λv=>opt (asks f r) λq=>aa ((x,v)::q)
noncomputable def given {α:Type}(kn:List aJ)(ks:List α)(df:List (aJ×α))(x:aJ):Option α:=((kn.zip ks).lookup x).or (df.lookup x)
def binds (f:Fn)(vs:List V)(kn:List aJ)(ks:List V)(H:Hp):Option (j7×Hp):=
 fu (f.shapes.contains (vs.length,kn)&&(ks.length==kn.length)) (
  opt (asks (given kn ks f.dflt) (f.params.drop vs.length++f.eN)) λr=>match f.kwarg with
   | some k=>aa (f.params.zip vs++r++ [(k,.ref H.length)],H++ [.vD])
   | none=>aa (f.params.zip vs++r,H))
noncomputable def zb (l:List V):List V:=l.zipIdx.map λp=> .tup [.int p.2,p.1]
noncomputable def upV (a b:Int):List V:=(dm (b-a).toNat).map λ(i:Nat)=> .int (a+i)
noncomputable def BX (a b:Int):List V:=(dm (a-b).toNat).map λ(i:Nat)=> .int (a-i)
def a6s:List Int->Option (List V)
 | [n]=>aa (upV 0 n)
 | [a,b]=>aa (upV a b)
 | [a,b,c]=>fu (decide (c= -1)) (aa (BX a b))
 | _=>aB
mutual
noncomputable def V.lt (m:Nat):V->Bool
 | .tup l=>V.jN m l
 | .ref i=>decide (i<m)
 | .QZ i=>decide (i<m)
 | _=>au
noncomputable def V.jN (m:Nat):List V->Bool
 | []=>au
 | v::l=>V.lt m v&&V.jN m l
end
noncomputable def W6 (m:Nat):j7->Bool
 | []=>au
 | p::d=>p.2.lt m&&W6 m d
def O3 (m:Nat):m6->Bool
 | .list l=>V.jN m l
 | .inst _ d=>W6 m d
 | .acc _ d l=>W6 m d&&V.jN m l
 | .vD=>au
noncomputable def H9 (m:Nat):Hp->Bool
 | []=>au
 | o::H=>O3 m o&&H9 m H
def Rb (k:Nat)(r:Out V):Out V:=match r with
 | some (.ok v,H)=>if H.length=k then aa (.ok v,H) else if (v.lt k&&H9 k (H.take k))=au then aa (.ok v,H.take k) else aa (.ok v,H)
 | r=>r
noncomputable def z8 (f:t6->St->G5 Fl):List t6->St->G5 Fl
 | [],σ=>eO .next σ
 | s::r,σ=>Q5 (f s σ) λfl σ=>match fl with
  | .next=>z8 f r σ
  | fl=>eO fl σ
noncomputable def Ly (step:V->St->G5 Fl)(fin:St->G5 Fl):List V->St->G5 Fl
 | [],σ=>fin σ
 | v::r,σ=>Q5 (step v σ) λfl σ=>match fl with
  | .next | .cont=>Ly step fin r σ
  | .brk=>eO .next σ
  | .ret v=>eO (.ret v) σ
noncomputable def BZ (test:St->G5 Bool)(body:St->G5 Fl):Nat->St->G5 Fl
 | 0,_=>aB
 | n+1,σ=>Q5 (test σ) λb σ=>if b then Q5 (body σ) λfl σ=>(match fl with
   | .next | .cont=>BZ test body n σ
   | .brk=>eO .next σ
   | .ret v=>eO (.ret v) σ) else eO .next σ
noncomputable def ap8 (step:V->St->G5 Unit):List V->St->G5 Unit
 | [],σ=>eO () σ
 | v::r,σ=>Q5 (step v σ) λU σ=>ap8 step r σ
noncomputable def allB (f:j0->Hp->Out Bool):List j0->Hp->Out Bool
 | [],H=>ok au H
 | e::r,H=>jf (f e H) λb H=>if b then allB f r H else ok aC H
noncomputable def a6t (f:j0->Hp->Out V)(o:BoolOp):List j0->Hp->Out V
 | [],_=>aB
 | [e],H=>f e H
 | e::r,H=>jf (f e H) λv H=>jf (tru H v) λt H=>if t==(o== .Or) then ok v H else a6t f o r H
noncomputable def a6u (f:j0->Hp->Out Bool)(o:BoolOp):List j0->Hp->Out Bool
 | [],H=>ok (o== .And) H
 | e::r,H=>jf (f e H) λt H=>if t==(o== .Or) then ok t H else a6u f o r H
def a6v (H:Hp)(o:Hu)(a b:V):Out V:=match o with
 | .Add=>(match a with
  | .int x=>opt (intOf b) λy=>ok (.int (x+y)) H
  | .str x=>opt (strOf b) λy=>opt (mkS (x.append y)) λv=>ok v H
  | _=>aB)
 | _=>aB
def api (H:Hp)(o i:V):Option V:=opt (listAt H o) λp=>opt (intOf i) λk=>fu (small k) (idx p.2 k)
def hnd (lk:List Nat)(h:DK)(m:aJ)(σ:St):G5 Fl:=if h.app=au then opt (σ.loc.lookup h.to) λv=>opt (listAt σ.hp v) λp=>
 fu (room (p.2.length+1)) (Q5 (lq σ (put lk σ.hp p.1 (.list (p.2++ [.str m])) ())) λU σ=>eO .next {σ with loc:=del σ.loc h.x})
 else eO .next {σ with loc:=del (upd σ.loc h.to (.str m)) h.x}
noncomputable def SQ (f:j0->V->St->G5 Unit):List j0->List V->St->G5 Unit
 | [], [],σ=>eO () σ
 | t::ts,v::vs,σ=>Q5 (f t v σ) λU σ=>SQ f ts vs σ
 | _,_,_=>aB
structure Rec where
 e:Fm->j0->Hp->Out V
 b:Fm->j0->Hp->Out Bool
 t:List Nat->j0->V->St->G5 Unit
 f:List Nat->aV->List V->List aJ->List V->Hp->Out V
 s:List Nat->t6->St->G5 Fl
section
variable (G:Gl)(r:Rec)
noncomputable def T9 (c:aV)(d:j7)(m:aJ):Option aV:=match d.lookup m with
 | some _=>aB
 | none=>G.bW c m
def Ca (lk:List Nat)(ov iv v:V)(H:Hp):Out Unit:=match iv with
 | .int k=>opt (listAt H ov) λp=>fu (small k) (opt (setAt p.2 k v) λm=>put lk H p.1 (.list m) ())
 | .str s=>opt (lE H ov) λp=>opt (G.bW p.2.1 ("__setitem__":aJ)) λf=>jf (r.f lk f [ov,.str s,v] [] [] H) λU H=>ok () H
 | _=>aB
def afv (lk:List Nat)(ov iv:V)(H:Hp):Out Unit:=match iv with
 | .int k=>opt (listAt H ov) λp=>fu (decide (0≤k)&&decide (k<p.2.length)) (put lk H p.1 (.list (p.2.eraseIdx k.toNat)) ())
 | .str s=>opt (lE H ov) λp=>opt (G.bW p.2.1 ("__delitem__":aJ)) λf=>jf (r.f lk f [ov,.str s] [] [] H) λU H=>ok () H
 | _=>aB
def V1 (H:Hp)(v:V)(m:aJ):Option aV:=opt (lE H v) λp=>G.bW p.2.1 m
def wG (lk:List Nat)(b:String)(v:V)(H:Hp):Out V:=match fu (b=="len") (V1 G H v ("__len__":aJ)) with
 | some f=>jf (r.f lk f [v] [] [] H) λu H=>opt (intOf u) λk=>fu (decide (0≤k)&&mid k) (ok (.int k) H)
 | none=>O7 H b v
def Fb (lk:List Nat)(t:String)(v:V)(H:Hp):Out V:=match fu (t=="str") (V1 G H v ("__str__":aJ)) with
 | some f=>jf (r.f lk f [v] [] [] H) λu H=>opt (strOf u) λs=>ok (.str s) H
 | none=>Lw H t v
def afw (lk:List Nat)(o:CmpOp)(x y:V)(H:Hp):Out V:=match fu (o== .In) (V1 G H y ("__contains__":aJ)) with
 | some f=>jf (r.f lk f [y,x] [] [] H) λu H=>opt (boolOf u) λb=>ok (.bool b) H
 | none=>opt (K7 H o x y) λc=>ok (.bool c) H
def Aa (lk:List Nat)(a g:aV)(vs:List V)(kn:List aJ)(ks:List V)(H:Hp):Out V:=
 jf (r.f lk g (.ref H.length::vs) kn ks (H++ [if a=G.gh then .acc a [] [] else .inst a []])) λv H'=>match v with
  | .none=>ok (.ref H.length) H'
  | _=>aB
def a6w (lk:List Nat)(v:aD)(vs:List V)(kn:List aJ)(ks:List V)(H:Hp):Out V:=match v with
 | .ref a=>(match G.bW a ("__init__":aJ) with
  | some g=>Aa G r lk a g vs kn ks H
  | none=>r.f lk a vs kn ks H)
 | .builtin b=>fu kn.isEmpty (opt (one vs) λv=>wG G r lk b v H)
 | .type t=>fu kn.isEmpty (opt (one vs) λv=>Fb G r lk t v H)
 | _=>aB
def callC (φ:Fm)(k:aG)(H:Hp):Out V:=fu (φ.loc.lookup ("errors":aJ)).isSome (opt (G.lam k) λp=>r.e ⟨[],φ.cX.filter λq=>p.1.contains q.1,φ.lk⟩ p.2 H)
def Ih (φ:Fm)(f:V)(vs:List V)(kn:List aJ)(ks:List V)(H:Hp):Out V:=match f with
 | .BK k=>fu (vs.isEmpty&&kn.isEmpty) (callC G r φ k H)
 | .gl v=>a6w G r φ.lk v vs kn ks H
 | _=>aB
set_option genCtorIdx true in
inductive Rc where
 | fn (f:aV) | str (s:aJ) | lst (i:Nat) | acc (i:Nat) | re (bad:Nat->Bool) | vD (i:Nat)
noncomputable def X5:List aJ:= ["lower","strip","isspace","join","split"]
noncomputable def ab1:List aJ:= ["append","pop","insert"]
def SX (i:Nat)(m:aJ):m6->Option Rc
 | .vD=>fu (decide (m=("items":aJ))) (aa (.vD i))
 | .inst c d=>(T9 G c d m).map .fn
 | .acc c d _=>(match d.lookup m with
  | some _=>aB
  | none=>match G.bW c m with
   | some f=>aa (.fn f)
   | none=>fu (decide (m=("append":aJ))) (aa (.acc i)))
 | .list _=>fu (ab1.contains m) (aa (.lst i))
def Ii (H:Hp)(ov:V)(m:aJ):Option Rc:=match ov with
 | .str s=>fu (X5.contains m) (aa (.str s))
 | .gl (.ref a)=>fu (decide (m=("search":aJ))) (opt (G.re a) λbad=>aa (.re bad))
 | .ref i=>opt H[i]? (SX G i m)
 | _=>aB
def W7 (lk:List Nat)(tg:Rc)(ov:V)(m:aJ)(vs:List V)(kn:List aJ)(ks:List V)(H:Hp):Out V:=match tg with
 | .fn f=>r.f lk f (ov::vs) kn ks H
 | .str s=>fu kn.isEmpty (Ig H s m vs)
 | .re bad=>fu kn.isEmpty (opt (one vs) λv=>opt (strOf v) λs=>fu (room s.length) (ok (if s.cps.toList.any bad then .mat else .none) H))
 | .vD i=>fu (vs.isEmpty&&kn.isEmpty) (opt H[i]? λo=>match o with
  | .vD=>ok (.QZ i) H
  | _=>aB)
 | .acc _=>fu kn.isEmpty (opt (one vs) λv=>opt (sS H ov) λp=>fu (room (p.2.2.2.length+1)) (put lk H p.1 (.acc p.2.1 p.2.2.1 (p.2.2.2++ [v])) .none))
 | .lst _=>fu kn.isEmpty (opt (listAt H ov) λp=>EY lk H p.1 p.2 m vs)
def avj (H:Hp)(ov:V)(m:aJ):Option aV:=opt (sS H ov) λp=>T9 G p.2.1 p.2.2.1 m
def vO (φ:Fm)(it:j0)(H:Hp):Out (List V×List Nat):=match it with
 | .Bh l=>jf (O6 (r.e φ) l H) λvs H=>opt (BP vs) λns=>fu (ns.all λi=>small (4*i)) (opt (a6s ns) λl=>ok (l, []) H)
 | .za e=>jf (r.e φ e H) λv H=>match v with
  | .QZ _=>aB
  | v=>opt (Ra H v) λl=>ok (zb l,ag1 v) H
 | e=>jf (r.e φ e H) λv H=>opt (Ra H v) λl=>ok (l,ag1 v) H
def Cd (lk:List Nat)(i:Nat)(v:V)(H:Hp):Out Unit:=opt (listAt H (.ref i)) λp=>fu (room (p.2.length+1)) (put lk H p.1 (.list (p.2++ [v])) ())
def turn (lk:List Nat)(i:Nat)(elt t:j0)(ifs:List j0)(v:V)(σ:St):G5 Unit:=
 Q5 (r.t lk t v σ) λU σ=>Q5 (lq σ (allB (r.b (σ.fm lk)) ifs σ.hp)) λgood σ=>if good then lq σ (jf (r.e (σ.fm lk) elt σ.hp) λv H=>Cd lk i v H) else eO () σ
def apk (φ:Fm)(elt t it:j0)(ifs:List j0)(uz:List aJ)(H:Hp):Out V:=jf (vO r φ it H) λq H=>
 match ap8 (turn r (q.2++φ.lk) H.length elt t ifs) q.1 ⟨[],φ.cX.filter λp=>uz.contains p.1,H++ [.list []]⟩ with
 | some (.ok _,σ)=>ok (.ref H.length) σ.hp
 | _=>aB
def a6x (φ:Fm)(e:j0)(H:Hp):Out V:=match e with
 | .cst v=>ok v H
 | .loc x=>opt (φ.loc.lookup x) λv=>ok v H
 | .cX x=>opt (φ.cX.lookup x) λv=>ok v H
 | .jq x=>opt (G.glob x) λv=>ok v H
 | .yR o l=>a6t (r.e φ) o l H
 | .not a=>jf (r.e φ a H) λv H=>jf (tru H v) λb H=>ok (.bool !b) H
 | .neg a=>jf (r.e φ a H) λv H=>opt (intOf v) λi=>ok (.int (-i)) H
 | .ite t a b=>jf (r.b φ t H) λc H=>if c then r.e φ a H else r.e φ b H
 | .tup l=>jf (O6 (r.e φ) l H) λvs H=>ok (.tup vs) H
 | .lst l=>jf (O6 (r.e φ) l H) λvs H=>alloc H (.list vs)
 | .bin o a b=>jf (r.e φ a H) λx H=>jf (r.e φ b H) λy H=>V0 H o x y
 | .cmp o a b=>jf (r.e φ a H) λx H=>jf (r.e φ b H) λy H=>afw G r φ.lk o x y H
 | .call f args kn Ia=>jf (r.e φ f H) λfv H=>jf (O6 (r.e φ) args H) λvs H=>jf (O6 (r.e φ) Ia H) λks H=>Ih G r φ fv vs kn ks H
 | .bW o m args kn Ia=>jf (r.e φ o H) λov H=>opt (Ii G H ov m) λtg=>jf (O6 (r.e φ) args H) λvs H=>jf (O6 (r.e φ) Ia H) λks H=>W7 r φ.lk tg ov m vs kn ks H
 | .star o m a=>jf (r.e φ o H) λov H=>opt (avj G H ov m) λf=>jf (r.e φ a H) λav H=>opt (yo av) λvs=>fu (decide (vs.length≤1000)) (r.f φ.lk f (ov::vs) [] [] H)
 | .sup m=>opt (φ.loc.lookup ("self":aJ)) λv=>opt (sS H v) λp=>Lx φ.lk H p.1 p.2.1 p.2.2.1 p.2.2.2 m
 | .attr o m=>jf (r.e φ o H) λov H=>opt (Ls H ov m) λv=>ok v H
 | .sub o i=>jf (r.e φ o H) λov H=>jf (r.e φ i H) λiv H=>opt (Z5 H ov iv) λv=>ok v H
 | .vC o a b c=>jf (r.e φ o H) λov H=>jf (r.e φ a H) λx H=>jf (r.e φ b H) λy H=>jf (r.e φ c H) λz H=>Ez H ov x y z
 | .comp elt t it ifs uz=>apk r φ elt t it ifs uz H
 | .lam k=>fu (φ.loc.lookup ("errors":aJ)).isSome (ok (.BK k) H)
 | _=>aB
def a6y (φ:Fm)(e:j0)(H:Hp):Out Bool:=match e with
 | .not a=>jf (r.b φ a H) λb H=>ok (!b) H
 | .yR o l=>a6u (r.b φ) o l H
 | .ite t a b=>jf (r.b φ t H) λc H=>if c then r.b φ a H else r.b φ b H
 | e=>jf (r.e φ e H) λv H=>tru H v
def stepT (lk:List Nat)(t:j0)(v:V)(σ:St):G5 Unit:=match t with
 | .loc x=>eO () {σ with loc:=upd σ.loc x v}
 | .cX x=>eO () {σ with cX:=upd σ.cX x v}
 | .attr o m=>lq σ (jf (r.e (σ.fm lk) o σ.hp) λov H=>X4 lk H ov m v)
 | .sub o i=>lq σ (jf (r.e (σ.fm lk) o σ.hp) λov H=>jf (r.e (σ.fm lk) i H) λiv H=>Ca G r lk ov iv v H)
 | .vC o a b _=>lq σ (jf (r.e (σ.fm lk) o σ.hp) λov H=>jf (r.e (σ.fm lk) a H) λx H=>jf (r.e (σ.fm lk) b H) λy H=>ar0 lk H ov x y v)
 | .tup ts=>opt (itemsOf σ.hp v) λl=>fu (decide (ts.length=l.length)) (SQ (r.t lk) ts l σ)
 | _=>aB
def Ij (r:G5 Fl):Out V:=match r with
 | some (.ok (.ret v),σ)=>ok v σ.hp
 | some (.ok .next,σ)=>ok .none σ.hp
 | some (.ok _,_)=>aB
 | some (.exc c m,σ)=>aa (.exc c m,σ.hp)
 | none=>aB
def a6z (lk:List Nat)(a:aV)(vs:List V)(kn:List aJ)(ks:List V)(H:Hp):Out V:=opt (G.fn a) λf=>opt (binds f vs kn ks H) λp=>
 Rb H.length (Ij (z8 (r.s lk) f.body ⟨p.1.filter λq=> !f.cells.contains q.1,p.1.filter λq=>f.cells.contains q.1,p.2⟩))
noncomputable def yq (c:aJ):Option String:=if c=("ValueError":aJ) then aa "ValueError" else if c=("TypeError":aJ) then aa "TypeError" else aB
def zQ (lk:List Nat)(s:t6)(σ:St):G5 Fl:=match s with
 | .expr e=>Q5 (lq σ (r.e (σ.fm lk) e σ.hp)) λU σ=>eO .next σ
 | .ret e=>Q5 (lq σ (r.e (σ.fm lk) e σ.hp)) λv σ=>eO (.ret v) σ
 | .asg t e=>Q5 (lq σ (r.e (σ.fm lk) e σ.hp)) λv σ=>Q5 (r.t lk t v σ) λU σ=>eO .next σ
 | .afq a i o e=>Q5 (lq σ (jf (r.e (σ.fm lk) a σ.hp) λov H=>jf (r.e (σ.fm lk) i H) λiv H=>opt (api H ov iv) λold=>jf (r.e (σ.fm lk) e H) λv H=>jf (a6v H o old v) λw H=>Ca G r lk ov iv w H)) λU σ=>eO .next σ
 | .del o i=>Q5 (lq σ (jf (r.e (σ.fm lk) o σ.hp) λov H=>jf (r.e (σ.fm lk) i H) λiv H=>afv G r lk ov iv H)) λU σ=>eO .next σ
 | .ite t a b=>Q5 (lq σ (r.b (σ.fm lk) t σ.hp)) λc σ=>if c then z8 (r.s lk) a σ else z8 (r.s lk) b σ
 | .whl t b=>BZ (λσ=>lq σ (r.b (σ.fm lk) t σ.hp)) (z8 (r.s lk) b) 64 σ
 | .rA t it b o=>Q5 (lq σ (vO r (σ.fm lk) it σ.hp)) λq σ=>Ly (λv σ=>Q5 (r.t (q.2++lk) t v σ) λU σ=>z8 (r.s (q.2++lk)) b σ) (z8 (r.s lk) o) q.1 σ
 | .raise c m=>aa (.exc c m,σ)
 | .Ew b hs=>(match z8 (r.s lk) b σ with
  | some (.ok f,σ)=>eO f σ
  | some (.exc c m,σ)=>opt (hs.find? λh=>h.cls=kO c) λh=>hnd lk h m σ
  | none=>aB)
 | .pass=>eO .next σ
 | .brk=>eO .brk σ
 | .cont=>eO .cont σ
 | .bad=>aB
noncomputable def o8:Nat->Rec
 | 0=>⟨λU U U=>aB,λU U U=>aB,λU U U U=>aB,λU U U U U U=>aB,λU U U=>aB⟩
 | n+1=>⟨a6x G (o8 n),a6y (o8 n),stepT G (o8 n),a6z G (o8 n),zQ G (o8 n)⟩
end
abbrev dD (G:Gl)(n:Nat):=(o8 G n).e
abbrev uH (G:Gl)(n:Nat):=(o8 G n).b
abbrev I6 (G:Gl)(n:Nat):=(o8 G n).t
abbrev o6 (G:Gl)(n:Nat):=(o8 G n).f
abbrev ik (G:Gl)(n:Nat):=(o8 G n).s
end Mine.Internal
end
section
namespace Mine.Internal
open PySem PySem.W PySem.Calls PyProof.Rows
noncomputable abbrev pw:oK:=PySem.Challenge.pw_uy0025_01
structure FT where
 a:aV
 i:Nat
 j:Option Nat
 code:aV
 Rf:aD
 Ik:aD
 cc:Bool
 q:aJ
 ob:List (aV×ou)
 kt:Nat
 dv:List (aJ×aD)
 shapes:List (Nat×List aJ)
 P:List aJ
 W:List aJ
 kx:Option aJ
 cl:List aJ
structure Il where
 params:rW
 body:FuncBody
 scope:jK
 globals:aV
 blt:aV
 closure:List (aJ×aV)
 code:aD
 qual:aJ
 Rf:aD
 Ik:aD
noncomputable def dOf (fd:jA):Il:=⟨fd.params,fd.body,fd.scope,fd.globals,fd.builtins,fd.closure,fd.code,fd.qualname,fd.defaults,fd.kwdefaults⟩
noncomputable def apl:∀J:Data,Option jA
 | .func fd=>aa fd
 | _=>aB
noncomputable def apm:∀J:Data,Option (Array aD)
 | .fields vs=>aa vs
 | _=>aB
noncomputable def apn:∀J:Data,Option (iK×Nat)
 | .dict ⟨[e]⟩ n=>aa (e,n)
 | _=>aB
noncomputable def Tc:aD->Option aJ
 | .str q _=>aa q
 | _=>aB
def fnD (h:bM)(a:aV):Option Il:=opt (h.get? a) λo=>opt (apl o.data) λfd=>aa (dOf fd)
noncomputable def Im (hs:Int)(kt:Nat):ou:={cls:= .type "dict",data:= .dict #[⟨hs,.str "key" kt,.none⟩] 1}
def kdN (h:bM):aD->Option (Option ou)
 | .ref d=>aa (opt (h.get? d) λo=>opt (apn o.data) λq=>aa {o with data:= .dict #[⟨0,q.1.key,q.1.val⟩] q.2})
 | _=>aB
def Td (t:FT):Option (Option ou):=match t.Ik with
 | .ref _=>aa (aa (Im 0 t.kt))
 | _=>aB
def Fd (h:bM)(c:aV):Option (aJ×aJ):=opt (h.get? c) λo=>opt (apm o.data) λvs=>opt (vs[1]?:Option aD) λx=>opt (Tc x) λq=>opt (vs[2]?:Option aD) λy=>opt (Tc y) λf=>aa (q,f)
noncomputable def stD:∀J:pK,Option (rW×List pK×jK)
 | .FunctionDef _ a b _ _ _ sc _ _ _=>aa (a,b,sc)
 | _=>aB
noncomputable def stB:∀J:pK,List pK
 | .ClassDef _ _ _ b .. =>b
 | _=> []
def aIy (i:Nat):Option Nat->Option pK
 | none=>pw.main.body[i]?
 | some j=>(pw.main.body[i]?).bind λs=>(stB s)[j]?
def defAt (t:FT):Option (rW×List pK×jK):=(aIy t.i t.j).bind stD
def Te (t:FT):Option Il:=(defAt t).map λd=>⟨d.1,.stmts d.2.1,d.2.2,bY,dJ,if t.cc then[("__class__",294)] else[],.ref t.code,t.q,t.Rf,t.Ik⟩
noncomputable def ft0:FT:=⟨195,9,aB,194,.ref 187,.ref 188,aC,"insort_right", [(187,{cls:= .type "tuple",data:= .seq #[.int 0 554,.none]})],555, [("lo",.int 0 554),("hi",.none),("key",.none)], [(2, ["key"]),(3, ["key"]),(3, [])], ["a","x","lo","hi"], ["key"],aB, []⟩
noncomputable def ft1:FT:=⟨204,10,aB,203,.ref 196,.ref 197,aC,"bisect_right", [(196,{cls:= .type "tuple",data:= .seq #[.int 0 567,.none]})],568, [("lo",.int 0 567),("hi",.none),("key",.none)], [(4, []),(4, ["key"])], ["a","x","lo","hi"], ["key"],aB, []⟩
noncomputable def ft2:FT:=⟨213,11,aB,212,.ref 205,.ref 206,aC,"bisect_left", [(205,{cls:= .type "tuple",data:= .seq #[.int 0 581,.none]})],582, [("lo",.int 0 581),("hi",.none),("key",.none)], [(2, ["key"]),(3, ["key"])], ["a","x","lo","hi"], ["key"],aB, []⟩
noncomputable def ft3:FT:=⟨227,15,aa 0,226,.none,.none,aC,"_ValueFormatter.__init__", [],0, [], [(5, [])], ["self","headerlen","maxlen","continuation_ws","splitchars"], [],aB, []⟩
noncomputable def ft4:FT:=⟨234,15,aa 1,233,.none,.none,aC,"_ValueFormatter._str", [],0, [], [(2, [])], ["self","linesep"], [],aB, []⟩
noncomputable def ft5:FT:=⟨248,15,aa 3,247,.none,.none,aC,"_ValueFormatter.newline", [],0, [], [(1, [])], ["self"], [],aB, []⟩
noncomputable def ft6:FT:=⟨283,15,aa 8,282,.none,.none,aC,"_ValueFormatter._append_chunk", [],0, [], [(3, [])], ["self","fws","string"], [],aB, []⟩
noncomputable def ft7:FT:=⟨307,16,aa 0,306,.ref 299,.none,au,"_Accumulator.__init__", [(299,{cls:= .type "tuple",data:= .seq #[.int 0 721]})],0, [("initial_size",.int 0 721)], [(2, [])], ["self","initial_size"], [],aB, []⟩
noncomputable def ft8:FT:=⟨314,16,aa 1,313,.none,.none,aC,"_Accumulator.push", [],0, [], [(3, [])], ["self","fws","string"], [],aB, []⟩
noncomputable def ft9:FT:=⟨322,16,aa 2,321,.ref 315,.none,aC,"_Accumulator.pop_from", [(315,{cls:= .type "tuple",data:= .seq #[.int 0 740]})],0, [("i",.int 0 740)], [(1, []),(2, [])], ["self","i"], [],aB, []⟩
noncomputable def avl:FT:=⟨330,16,aa 3,329,.none,.none,au,"_Accumulator.pop", [],0, [], [(1, [])], ["self"], [],aB, []⟩
noncomputable def Fe:FT:=⟨337,16,aa 4,336,.none,.none,aC,"_Accumulator.__len__", [],0, [], [(1, [])], ["self"], [],aB, []⟩
noncomputable def Fg:FT:=⟨344,16,aa 5,343,.none,.none,aC,"_Accumulator.__str__", [],0, [], [(1, [])], ["self"], [],aB, []⟩
noncomputable def Tf:FT:=⟨352,16,aa 6,351,.ref 345,.none,aC,"_Accumulator.reset", [(345,{cls:= .type "tuple",data:= .seq #[.none]})],0, [("startval",.none)], [(1, []),(2, [])], ["self","startval"], [],aB, []⟩
noncomputable def avm:FT:=⟨359,16,aa 7,358,.none,.none,aC,"_Accumulator.is_onlyws", [],0, [], [(1, [])], ["self"], [],aB, []⟩
noncomputable def avn:FT:=⟨367,16,aa 8,366,.none,.none,au,"_Accumulator.part_count", [],0, [], [(1, [])], ["self"], [],aB, []⟩
noncomputable def Tg:FT:=⟨76,7,aa 0,75,.ref 69,.none,aC,"Headers.__init__", [(69,{cls:= .type "tuple",data:= .seq #[.none]})],0, [("headers",.none)], [(1, []),(2, [])], ["self","headers"], [],aB, []⟩
noncomputable def avo:FT:=⟨83,7,aa 1,82,.none,.none,aC,"Headers._convert_string_type", [],0, [], [(2, ["name"])], ["self","value"], ["name"],aB, []⟩
noncomputable def avp:FT:=⟨90,7,aa 2,89,.none,.none,aC,"Headers.__len__", [],0, [], [(1, [])], ["self"], [],aB, []⟩
noncomputable def avq:FT:=⟨97,7,aa 3,96,.none,.none,aC,"Headers.__setitem__", [],0, [], [(3, [])], ["self","name","val"], [],aB, []⟩
noncomputable def avr:FT:=⟨102,7,aa 4,101,.none,.none,aC,"Headers.__delitem__", [],0, [], [(2, [])], ["self","name"], [],aB, ["name"]⟩
noncomputable def avs:FT:=⟨116,7,aa 6,115,.none,.none,aC,"Headers.__contains__", [],0, [], [(2, [])], ["self","name"], [],aB, []⟩
noncomputable def avt:FT:=⟨121,7,aa 7,120,.none,.none,aC,"Headers.get_all", [],0, [], [(2, [])], ["self","name"], [],aB, ["name"]⟩
noncomputable def Th:FT:=⟨129,7,aa 8,128,.ref 122,.none,aC,"Headers.get", [(122,{cls:= .type "tuple",data:= .seq #[.none]})],0, [("default",.none)], [(2, []),(3, [])], ["self","name","default"], [],aB, []⟩
noncomputable def avu:FT:=⟨146,7,aa 11,145,.none,.none,aC,"Headers.items", [],0, [], [(1, [])], ["self"], [],aB, []⟩
noncomputable def avv:FT:=⟨158,7,aa 13,157,.none,.none,aC,"Headers.__str__", [],0, [], [(1, [])], ["self"], [],aB, []⟩
noncomputable def avw:FT:=⟨179,7,aa 16,178,.none,.none,aC,"Headers.add_header", [],0, [], [(3, [])], ["self","_name","_value"], [],aa "_params", []⟩
noncomputable def avx:FT:=⟨381,18,aB,380,.none,.none,aC,"_law_text", [],0, [], [(1, [])], ["cell"], [],aB, []⟩
noncomputable def avy:FT:=⟨388,19,aB,387,.none,.none,aC,"_law_read", [],0, [], [(2, [])], ["sheet","cell"], [],aB, []⟩
noncomputable def avz:FT:=⟨395,20,aB,394,.none,.none,aC,"_law_make", [],0, [], [(4, [])], ["sheet","notes","rule","name"], [],aB, []⟩
noncomputable def awa:FT:=⟨402,21,aB,401,.none,.none,aC,"_law_turn", [],0, [], [(1, [])], ["name"], [],aB, []⟩
noncomputable def awb:FT:=⟨409,22,aB,408,.none,.none,aC,"_law_look", [],0, [], [(1, [])], ["table"], [],aB, []⟩
noncomputable def awc:FT:=⟨416,23,aB,415,.none,.none,aC,"_law_wake", [],0, [], [(3, [])], ["notes","cell","waits"], [],aB, []⟩
noncomputable def awd:FT:=⟨423,24,aB,422,.none,.none,aC,"_law_change", [],0, [], [(6, [])], ["sheet","notes","rules","cell","log","waits"], [],aB, []⟩
noncomputable def awe:FT:=⟨428,25,aB,427,.none,.none,aC,"_law_plain", [],0, [], [(2, [])], ["order","rules"], [],aB, ["order"]⟩
noncomputable def awf:FT:=⟨433,26,aB,432,.none,.none,aC,"_law_due", [],0, [], [(4, [])], ["order","noted","rules","cell"], [],aB, ["place","old","reads","new","now","made","fresh"]⟩
def vP:List FT:= [ft0,ft1,ft2,ft3,ft4,ft5,ft6,ft7,ft8,ft9,avl,Fe,Fg,Tf,avm,avn,Tg,avo,avp,avq,avr,avs,avt,Th,avu,avv,avw,avx,avy,avz,awa,awb,awc,awd,awe,awf]
noncomputable def Q6:FT:=⟨438,27,aB,437,.none,.none,aC,"law", [],0, [], [(1, [])], ["script"], [],aB, ["script","cell","waits"]⟩
noncomputable def yr:List (aV×aJ×aV):= [(286,"__init__",227),(286,"_str",234),(286,"newline",248),(286,"_append_chunk",283),(370,"__init__",307),(370,"push",314),(370,"pop_from",322),(370,"pop",330),(370,"reset",352),(370,"is_onlyws",359),(370,"part_count",367),(182,"__init__",76),(182,"_convert_string_type",83),(182,"__len__",90),(182,"__setitem__",97),(182,"__delitem__",102),(182,"__contains__",116),(182,"get_all",121),(182,"get",129),(182,"items",146),(182,"__str__",158),(182,"add_header",179)]
noncomputable def Lz:List aV:= [332,339,435]
noncomputable def kA:List aV:= [0,2,3,285,286,369,370,181,182,227,234,248,283,307,314,322,330,337,344,352,359,367,76,83,90,97,102,116,121,129,146,158,179]
noncomputable def afx (h:bM)(l:List aV):aog:=l.filterMap λa=>(h.get? a).map λo=>(a,o)
def Io (h:bM):∀l:List aV,(afx h l).In h:=by
 intro zz
 induction zz with
 | nil=>
  intro _ _ e;exact iz e
 | cons a l ih=>
  intro b o e;unfold afx at e;replace e:=List.filterMap_cons▸e;cases ha:h.get? a with
  | none=>rw[ha]at e;exact ih b o e
  | some oa=>
   replace e:=ha▸e;have e:((a,oa)::afx h l).lookup b=aa o:=e;rw[yh]at e;cases q:b==a with
   | true=>replace e:=q▸e;cases e;refine aO (gM q) ?_;exact ha
   | false=>rw[q]at e;exact ih b o e
noncomputable def Ti (K:aog)(x:aJ):Option aD:=match ado K bY x with
 | some (aa u)=>aa u
 | some aB=>(match ado K dJ x with
  | some (aa u)=>aa u
  | _=>aB)
 | none=>aB
noncomputable def afy:List (aJ×aD):= [("range",.type "range"),("enumerate",.type "enumerate"),("zip",.type "zip"),("str",.type "str"),("super",.type "super"),("ValueError",.type "ValueError"),("TypeError",.type "TypeError"),("sum",.builtin "sum"),("len",.builtin "len"),("list",.type "list"),("type",.type "type"),("chr",.builtin "chr"),("bisect_right",.ref 204),("insort_right",.ref 195),("bisect_left",.ref 213),("_ValueFormatter",.ref 286),("_Accumulator",.ref 370),("Headers",.ref 182),("_name_disallowed_re",.ref 48),("_value_disallowed_re",.ref 53),("_law_text",.ref 381),("_law_read",.ref 388),("_law_make",.ref 395),("_law_turn",.ref 402),("_law_look",.ref 409),("_law_wake",.ref 416),("_law_change",.ref 423),("_law_plain",.ref 428),("_law_due",.ref 433)]
noncomputable def LC:List aV:= [286,370,182]
noncomputable def awg:List (aV×aJ×Option aD):= [(370,"__getitem__",aa (.builtin "list.__getitem__")),(370,"__setitem__",aa (.builtin "list.__setitem__")),(370,"append",aa (.builtin "list.append")),(370,"__getattribute__",aa (.builtin "list.__getattribute__")),(370,"__getattr__",aB),(370,"__iter__",aa (.builtin "list.__iter__")),(286,"__getattribute__",aa (.builtin "object.__getattribute__")),(182,"__getattribute__",aa (.builtin "object.__getattribute__")),(286,"__getattr__",aB),(182,"__getattr__",aB),(286,"__setattr__",aa (.builtin "object.__setattr__")),(370,"__setattr__",aa (.builtin "object.__setattr__")),(182,"__setattr__",aa (.builtin "object.__setattr__")),(370,"__bool__",aB),(370,"__len__",aa (.ref 337)),(370,"__str__",aa (.ref 344))]
noncomputable def afz:List (aV×ou):= [
 (47,{cls:= .type "tuple",data:= .seq #[.int 14 0,.int 10 0,.int 4 0,.int 1 0,.int 1 0,.int 22 0,.int 0 0,.int 31 0,.int 16 0,.int 127 0,.int 0 0,.int 13 0,.int 7 0,.int 22 0,.int 0 0,.int 31 0,.int 16 0,.int 127 0,.int 0 0,.int 1 0] 0}),(48,{cls:= .type "re.Pattern",data:= .fields #[.str "[\\x00-\\x1F\\x7F]" 326,.int 32 349,.int 0 0,.none,.none,.ref 47,.int 0 0]}),(52,{cls:= .type "tuple",data:= .seq #[.int 14 0,.int 14 0,.int 4 0,.int 1 0,.int 1 0,.int 9 0,.int 4294966783 0,.int 0 0,.int 0 0,.int 2147483648 0,.int 0 0,.int 0 0,.int 0 0,.int 0 0,.int 0 0,.int 13 0,.int 11 0,.int 9 0,.int 4294966783 0,.int 0 0,.int 0 0,.int 2147483648 0,.int 0 0,.int 0 0,.int 0 0,.int 0 0,.int 0 0,.int 1 0] 0}),(53,{cls:= .type "re.Pattern",data:= .fields #[.str "[\\x00-\\x08\\x0A-\\x1F\\x7F]" 352,.int 32 383,.int 0 0,.none,.none,.ref 52,.int 0 0]}),(4,{cls:= .type "module",dict:=aa 0,data:= .plain}),(336,{cls:= .type "code",data:= .fields #[.str "__len__" 758,.str "_Accumulator.__len__" 759,.str "/claim/cut.py" 760,.int 235 0,.int 1 0,.int 0 0,.int 0 0,.int 3 0,.ref 331,.bool au,.int 276 0,.ref 332,.none,.ref 333,.ref 334,.ref 335,.int 762 0,.int 235 0,.str "/claim/cut.py" 763]}),(343,{cls:= .type "code",data:= .fields #[.str "__str__" 765,.str "_Accumulator.__str__" 766,.str "/claim/cut.py" 767,.int 238 0,.int 1 0,.int 0 0,.int 0 0,.int 3 0,.ref 338,.bool au,.int 276 0,.ref 339,.none,.ref 340,.ref 341,.ref 342,.int 769 0,.int 238 0,.str "/claim/cut.py" 770]}),(437,{cls:= .type "code",data:= .fields #[.str "law" 895,.str "law" 896,.str "/claim/cut.py" 897,.int 320 0,.int 1 0,.int 0 0,.int 0 0,.int 3 0,.ref 434,.bool au,.int 276 0,.ref 435,.none,.none,.none,.ref 436,.int 898 0,.int 320 0,.str "/claim/cut.py" 899]}),(294,{cls:= .type "cell",data:= .cell (aa (.ref 370))})]
structure xZ where
 fns:List (Option Il)
 cds:List (Option (aJ×aJ))
 tb:List (Option ou)
 objs:List (Option ou)
 dob:List (List (Option ou))
 kd:List (Option (Option ou))
 cls:List (Option (aJ×List aD×Bool))
 Tj:List (Option aD)
 yc:List (Option (Option aD))
 mth:List (Option (Option aD))
 LQ:List (Bool×Option aD×Option (Option aD)×Option Bool)
 attr:List (List (Option (Option aD)))
 gl:List (Option aD)
 ns:List (Option (Option aD))
 bs:List Bool
 one:Bool
 bm:Option aD
 em:Option aJ
 lw:Option aD
 nl:Bool
noncomputable def aJf:aD->Option aJ
 | .str s _=>aa s
 | _=>aB
noncomputable def awh:List aV:= [19,39,44,49]
def isL:aD->Bool
 | .type t=>t=="list"
 | _=>aC
noncomputable def noL:Nat->List ou->Bool
 | _, []=>au
 | n,o::r=>(!isL o.cls || awh.contains n)&&noL (n+1) r
@[irreducible] def base (h:bM):bM:=fW h (Lz++awh)
def mq (h:bM):aog:=afx (base h) kA
def Tp (h:bM):xZ where
 fns:=(Q6::vP).map λt=>fnD (base h) t.a
 cds:=(Q6::vP).map λt=>Fd (base h) t.code
 tb:=Lz.map h.get?
 objs:=afz.map λp=>(base h).get? p.1
 dob:=(Q6::vP).map λt=>t.ob.map λp=>(base h).get? p.1
 kd:=(Q6::vP).map λt=>kdN (base h) t.Ik
 cls:=LC.map λc=>(Hv (mq h) c).map λcd=>(cd.qualname,cd.mro,cd.hasDict)
 Tj:=LC.map λc=>((mq h).lookup c).map (·.cls)
 yc:=awg.map λq=>gn (mq h) (.ref q.1) q.2.1
 mth:=yr.map λq=>gn (mq h) (.ref q.1) q.2.1
 LQ:=(yr.map (λq:aV×aJ×aV=>q.2.2)++ [337,344]).map λ(g:aV)=>(fnIn (mq h) g,sI (mq h) (.ref g),wZ (mq h) (.ref g) "__get__",adp (mq h) (.ref g))
 attr:=LC.map λc=>G7.map λn=>gn (mq h) (.ref c) n
 gl:=afy.map λp=>Ti (mq h) p.1
 ns:= [ado (mq h) aoh "thirdparty.any"]
 bs:= [RD (mq h) 370 (.type "list")==aa au,Hx (mq h) 286,Hx (mq h) 370,Hx (mq h) 182,zy (mq h) 286,at8 (mq h) 370,zy (mq h) 182,(base h).isNs bY,(base h).noLimitOk,Hy (mq h) (.ref 286),Hy (mq h) (.ref 370),Hy (mq h) (.ref 182)]
 one:=((base h).get? sysModules).isSome
 bm:=(base h).nsMap bY "__builtins__"
 em:=(Ti (mq h) "EMPTYSTRING").bind aJf
 lw:=(base h).nsMap bY "law"
 nl:=noL 0 h.objs.toList
def Fi:xZ where
 fns:=(Q6::vP).map Te
 cds:=(Q6::vP).map λt=>aa (t.q,pw.main.file)
 tb:=Lz.map λU=>aa (nW #[])
 objs:=afz.map λp=>aa p.2
 dob:=(Q6::vP).map λt=>t.ob.map λp=>aa p.2
 kd:=(Q6::vP).map Td
 cls:= [aa ("_ValueFormatter", [.ref 286,.type "object"],au),aa ("_Accumulator", [.ref 370,.type "list",.type "object"],au),aa ("Headers", [.ref 182,.type "object"],au)]
 Tj:=LC.map λU=>aa (.type "type")
 yc:=awg.map λq=>aa q.2.2
 mth:=yr.map λq=>aa (aa (.ref q.2.2))
 LQ:=(yr.map (λq:aV×aJ×aV=>q.2.2)++ [337,344]).map λ(g:aV)=>(au,aa (.type "function"),aa (aa (.builtin "function.__get__")),aa aC)
 attr:=LC.map λc=>G7.map λn=>aa aB
 gl:=afy.map λp=>aa p.2
 ns:= [aa aB]
 bs:= [au,au,au,au,au,au,au,au,au,au,au,au]
 one:=au
 bm:=aa (.ref 4)
 em:=aa ""
 lw:=aa (.ref 438)
 nl:=au
section
section
variable {tb:String->Option fB}{p:oK}{w:vK}{Ce:Nat}{ann:Option aD}
noncomputable def az5 (tb:String->Option fB)(p:oK)(w:vK)(Ce:Nat)(ann:Option aD):Nat->∀J:El,∀J:Thread,Option El
 | 0,_,_=>aB
 | n+1,s,t=>match through t with
  | true=>aa s
  | false=>match stepOk Ce ann t with
   | false=>aB
   | true=>match zA (denote tb) p w s t with
    | some r=>az5 tb p w Ce ann n r.1 r.2
    | none=>aB
theorem aL2:∀{n:Nat}{s s':El}{t:Thread},∀J:az5 tb p w Ce ann n s t=aa s',topRun tb p w Ce ann n s.abs t=aa s'.abs
 | 0,_,_,_,h=>nomatch h
 | n+1,s,s',t,h=>by
  replace h:(match through t with | true=>aa s | false=>match stepOk Ce ann t with | false=>aB | true=>match zA (denote tb) p w s t with | some r=>az5 tb p w Ce ann n r.1 r.2 | none=>aB)=aa s':=h;unfold topRun;cases ht:through t with
  | true=>rw[ht]at h;cases h;rfl
  | false=>
   rw[ht]at h;cases hk:stepOk Ce ann t with
   | false=>rw[hk]at h;cases h
   | true=>
    rw[hk]at h;cases hs:zA (denote tb) p w s t with
    | none=>rw[hs]at h;cases h
    | some r=>rw[hs]at h;rw[stepT_spec (s':=r.1) (t':=r.2) hs];exact aL2 h
noncomputable def ofL:List ou->∀J:BT,Nat->Option (BT×Nat)
 | [],t,n=>aa (t,n)
 | o::r,t,n=>match ((t.ins n o).get n).isSome with
  | true=>ofL r (t.ins n o) (n+1)
  | false=>aB
theorem aP5 {life:Life}:∀{l:List ou}{t:BT}{n:Nat}{r:BT×Nat},∀J:ofL l t n=aa r,absHeap r.1 r.2 life=⟨(absHeap t n life).objs++l.toArray,life⟩
 | [],t,n,r,h=>by obtain rfl:=ak h;rw[jg];rfl
 | o::l,t,n,r,h=>by
  replace h:(match ((t.ins n o).get n).isSome with | true=>ofL l (t.ins n o) (n+1) | false=>aB)=aa r:=h;cases hs:((t.ins n o).get n).isSome with
  | false=>rw[hs]at h;cases h
  | true=>
   rw[hs]at h;rw[aP5 h,absHeap_ins hs];show Heap.mk ((absHeap t n life).objs.push o++l.toArray) life=_;rw[Array.push_eq_append,QH,List.toArray_cons o l]
def ofS (s:aW):Option El:=(ofL s.heap.objs.toList .nil 0).map λr=>⟨r.1,r.2,s.heap.life,s.gens,s.drawn,s.toks,s.os⟩
def Tq {s:aW}{r:El}(h:ofS s=aa r):r.abs=s:=by obtain⟨q,h1,rfl⟩:=cR.mp h;show Shared.mk (absHeap q.1 q.2 s.heap.life) _ _ _ _=s;rw[aP5 h1];obtain⟨⟨⟨o⟩,life⟩,g,d,t,os⟩:=s;show Shared.mk ⟨(#[]:Array ou)++o.toArray,life⟩ _ _ _ _=_;rw[QJ]
def apo (tb:String->Option fB)(p:oK)(w:vK)(N:Nat)(iC:aW)(sT:El):Option aW:=
 match iC.heap.isNs bY&&iC.gens.size==0 with
 | true=>(az5 tb p w iC.heap.objs.size (iC.heap.nsMap bY "__annotations__") N sT (topStub p)).bind λaU=>match staticsOk (importedModules p.main.body) iC.heap aU.abs.heap&&namesBound p aU.abs.heap&&gensDone aU.abs&&laidKept iC.heap aU.abs.heap with
  | true=>aa aU.abs
  | false=>aB
 | false=>aB
def apq (tb:String->Option fB)(p:oK)(w:vK)(N:Nat):Option aW:=(fencedOpening tb p w N).bind λiC=>(ofS iC).bind (apo tb p w N iC)
def aga {N:Nat}{s:aW}(h:apq tb p w N=aa s):aoi tb p w N=aa s:=by
 obtain⟨iC,h1,h⟩:=iM.mp h;obtain⟨sT,h2,h⟩:=iM.mp h;unfold aoi;rw[h1];show topFrom tb p w N iC=aa s;unfold apo at h;unfold topFrom;cases h3:(iC.heap.isNs bY&&iC.gens.size==0) with
 | false=>rw[h3]at h;cases h
 | true=>
  rw[h3]at h;obtain⟨aU,h4,h⟩:=iM.mp h;have h5:=aL2 h4;rw[Tq h2]at h5;dsimp only;rw[h5];exact h
end
def qv:oK:=view pw [0,27]
noncomputable def loose:List PySem.Str:= ["_wall","tspecials","_name_disallowed_re","_value_disallowed_re","_formatparam","Headers","insort_right","bisect_right","bisect_left","NL","EMPTYSTRING","_ValueFormatter","_Accumulator","_law_text","_law_read","_law_make","_law_turn","_law_look","_law_wake","_law_change","_law_plain","_law_due"]
def Tr {α:Type}{F:aW->α}{L:α}{w:vK}(h:(apq treeTable pw w 5034).map F=aa L):(aoi treeTable pw w 5034).map F=aa L:=by obtain⟨s,e,h⟩:=cR.mp h;rw[aga e];exact congrArg aa h
def a7a:LeftO pw qv loose (λs=>xlAt qv [] s&&recOk [] s) (λU=>()) (λU=>()) 5034:=λw=>Tr (by
 kernel_rfl)
def a7b:∀w,(aoi treeTable pw w 5034).map (λs=>Tp s.heap)=aa Fi:=λw=>Tr (by
 kernel_rfl)
end
end Mine.Internal
end
section
namespace Mine.Internal
open PySem
abbrev Kd:=aJ->Option jR
noncomputable def kdOf (sc:jK):Kd:=λx=>sc.names.lookup x
noncomputable def mb {α:Type}(o:Option α)(f:α->j0):j0:=match o with
 | some a=>f a
 | none=> .bad
noncomputable def gm (b:Bool)(e:j0):j0:=if b=au then e else .bad
noncomputable def sb {α:Type}(o:Option α)(f:α->t6):t6:=match o with
 | some a=>f a
 | none=> .bad
noncomputable def gs (b:Bool)(e:t6):t6:=if b=au then e else .bad
noncomputable def Bj {α:Type}:List α->Option α
 | [a]=>aa a
 | _=>aB
noncomputable def ue:aG->Option (aJ×sZ)
 | .Name x p=>aa (x,p)
 | _=>aB
noncomputable def ar3:aG->Option (aG×aJ×sZ)
 | .Attribute o m p=>aa (o,m,p)
 | _=>aB
noncomputable def aw6:aG->Option (aG×List aG×List xg×sZ)
 | .Call f l ks p=>aa (f,l,ks,p)
 | _=>aB
noncomputable def constOf:aG->Option (Const×Nat×sZ)
 | .Constant c j p=>aa (c,j,p)
 | _=>aB
noncomputable def aJh:∀J:Const,Option aJ
 | .str s=>aa s
 | _=>aB
def litOf (e:aG):Option (aJ×Nat×sZ):=opt (constOf e) λc=>opt (aJh c.1) λs=>aa (s,c.2)
noncomputable def tupleOf:aG->Option (List aG×Nat×sZ)
 | .Tuple l j p=>aa (l,j,p)
 | _=>aB
noncomputable def S5:aG->Option aG
 | .Starred a _=>aa a
 | _=>aB
noncomputable def jt:aG->Option (Option aG×Option aG×Option aG×sZ)
 | .Slice a b c p=>aa (a,b,c,p)
 | _=>aB
def apr:aG->Option (aG×aG×sZ)
 | .Subscript o i p=>aa (o,i,p)
 | _=>aB
def at9 (k:Kd)(x:aJ)(e:aG):Option (sZ×List aG×sZ):=opt (aw6 e) λc=>opt (ue c.1) λnm=>fu (c.2.2.1.isEmpty&&decide (nm.1=x)&&(k x==aa .globalImplicit)) (aa (nm.2,c.2.1,c.2.2.2))
noncomputable def keysOf:List xg->Option (List aJ×List aG)
 | []=>aa ([], [])
 | k::r=>opt k.arg λn=>opt (keysOf r) λp=>aa (n::p.1,k.value::p.2)
noncomputable def ak7 (k:Kd)(sc:jK):Bool:=(sc.names.all λp=>p.2 != .free || k p.1==aa .cell || k p.1==aa .free)&&(sc.kind== .function)&&decide ((sc.names.map (·.1)).Nodup)&& !((sc.names.lookup ("errors":aJ))==aa .local)&& !((sc.names.lookup ("__class__":aJ))==aa .free)&&sc.names.all (λp=>p.2== .local || p.2== .cell || p.2== .free || p.2== .globalImplicit)
noncomputable def Tt (sc:jK):List aJ:=sc.names.filterMap λp=>if p.2= .free then aa p.1 else aB
def af5:aG->Bool
 | .Call f l ks _=> !(l.isEmpty&&ks.isEmpty&&(ue f).isSome)
 | _=>au
noncomputable def Ip (k:Kd)(a:rW)(sc:jK):Bool:=a.posonlyargs.isEmpty&&a.args.isEmpty&&a.kwonlyargs.isEmpty&&a.vararg.isNone&&a.kwarg.isNone&&a.defaults.isEmpty&&a.kw_defaults.isEmpty&&(sc.names.all λp=>p.2== .globalImplicit || (p.2== .free&&(k p.1==aa .cell || k p.1==aa .free)&&decide (p.1≠("__class__":aJ))))&&(sc.kind== .function)&& !sc.isCoroutine&& !sc.isGenerator&&decide ((sc.names.map (·.1)).Nodup)
def isSet:aG->Bool
 | .Set _ _ _=>au
 | _=>aC
def W5 (l:List aG):Bool:=l.all λt=>(S5 t).isNone
section
variable (r:aG->j0)(k:Kd)
def Cg (x:aJ):j0:=if x=("__debug__":aJ) then .cst (.bool au) else gm (decide (x≠("__classdict__":aJ))) (mb (k x) λd=>match d with
 | .local=> .loc x
 | .cell=> .cX x
 | .free=> .cX x
 | .globalImplicit=> .jq x
 | _=> .bad)
noncomputable def Tu:∀J:Const,j0
 | .none=> .cst .none
 | .bool b=> .cst (.bool b)
 | .int i=> .cst (.int i)
 | .str s=> .cst (.str s)
 | _=> .bad
def cUn (a:aG):∀J:UnaryOp,j0
 | .Not=> .not (r a)
 | .USub=> .neg (r a)
 | _=> .bad
noncomputable def Fj (o:Option aG):j0:=match o with
 | none=> .cst .none
 | some e=>r e
def Ci (o:aG)(m:aJ)(ap:sZ)(args:List aG)(ks:List xg)(p:sZ):j0:=
 gm (decide (m≠("replace":aJ))&&af5 o&&(ap.endLine==p.line)&&decide (args.length+ks.length<20)) (match opt (Bj args) S5 with
  | some a=>gm ks.isEmpty (.star (r o) m (r a))
  | none=>gm (W5 args) (mb (keysOf ks) λq=> .bW (r o) m (args.map r) q.1 (q.2.map r)))
def Cj (f:aG)(args:List aG)(ks:List xg)(p:sZ):j0:=match ar3 f with
 | some q=>Ci r q.1 q.2.1 q.2.2 args ks p
 | none=>gm (W5 args) (mb (keysOf ks) λq=> .call (r f) (args.map r) q.1 (q.2.map r))
def Tv (o i:aG):j0:=match jt i with
 | some s=> .vC (r o) (Fj r s.1) (Fj r s.2.1) (Fj r s.2.2.1)
 | none=> .sub (r o) (r i)
def cI (it:aG):j0:=match at9 k ("range":aJ) it with
 | some c=>gm (W5 c.2.1) (.Bh (c.2.1.map r))
 | none=>match at9 k ("enumerate":aJ) it with
  | some c=>gm (W5 c.2.1) (mb (Bj c.2.1) λa=> .za (r a))
  | none=>r it
def awj (x:aJ):j0:=gm (decide (x≠("__class__":aJ))) (mb (k x) λd=>match d with
 | .local=> .loc x
 | .cell=> .cX x
 | _=> .bad)
noncomputable def cT:Nat->aG->j0
 | 0,_=> .bad
 | n+1,e=>match e with
  | .Name x _=>awj k x
  | .Attribute o m _=> .attr (r o) m
  | .Subscript o i _=>(match jt i with
   | some s=>gm s.2.2.1.isNone (.vC (r o) (Fj r s.1) (Fj r s.2.1) (.cst .none))
   | none=> .sub (r o) (r i))
  | .Tuple l _ _=>gm (l.all λt=>(S5 t).isNone) (.tup (l.map (cT n)))
  | _=> .bad
end
noncomputable def Tw:j0->Bool
 | .za _=>au
 | _=>aC
noncomputable def an6:j0->Bool
 | .tup _=>au
 | _=>aC
def agb (i t:j0):Bool:= !Tw i || an6 t
noncomputable def cE:Nat->Kd->aG->j0
 | 0,_,_=> .bad
 | n+1,k,e=>match e with
  | .Constant c _ _=>Tu c
  | .Name x _=>Cg k x
  | .BoolOp op vs _=> .yR op (vs.map (cE n k))
  | .BinOp a o b _=> .bin o (cE n k a) (cE n k b)
  | .UnaryOp o a _=>cUn (cE n k) a o
  | .IfExp t a b _=> .ite (cE n k t) (cE n k a) (cE n k b)
  | .Tuple l _ _=>gm (decide (l.length≤1000)) (.tup (l.map (cE n k)))
  | .List l _=>gm (decide (l.length≤1000)) (.lst (l.map (cE n k)))
  | .Compare a os bs _=>mb (Bj os) λo=>mb (Bj bs) λb=>gm (!isSet b) (.cmp o (cE n k a) (cE n k b))
  | .Call f args ks p=>Cj (cE n k) f args ks p
  | .Attribute o m _=>gm (af5 o) (.attr (cE n k o) m)
  | .Subscript o i _=>Tv (cE n k) o i
  | .ListComp e gs sc _=>mb (Bj gs) λg=>gm ((g.is_async==0)&&ak7 k sc&& !isSet g.iter&&agb (cI (cE n k) k g.iter) (cT (cE n (kdOf sc)) (kdOf sc) n g.target)) (.comp (cE n (kdOf sc) e) (cT (cE n (kdOf sc)) (kdOf sc) n g.target) (cI (cE n k) k g.iter) (g.ifs.map (cE n (kdOf sc))) (Tt sc))
  | .Lambda a b sc p=>gm (Ip k a sc) (.lam (.Lambda a b sc p))
  | _=> .bad
set_option backward.match.sparseCases true in
noncomputable def nameAt (k:Kd)(ln:Nat):aG->Option aJ
 | .Name id pos=>if k id==aa .local&&pos.line==ln then aa id else aB
 | _=>aB
set_option backward.match.sparseCases true in
def aF7 (k:Kd)(ts vs:List aG):Option (Option (List aJ)):=
 if !(ts.length==2 || ts.length==3) || vs.length !=ts.length then aa aB
 else if vs.any fun | .Starred .. =>au | _=>aC then aa aB
 else if (ts.filterMap (nameAt k ((ts.head?.map (·.pos.line)).getD 0))).length !=ts.length || (ts.filterMap (nameAt k ((ts.head?.map (·.pos.line)).getD 0))).eraseDups.length !=(ts.filterMap (nameAt k ((ts.head?.map (·.pos.line)).getD 0))).length then aa aB
 else if vs.all (foldedForSure 8) then aa aB
 else if vs.all (constantsAlone 8) then aB
 else aa (aa (ts.filterMap (nameAt k ((ts.head?.map (·.pos.line)).getD 0))))
def aF8 (k:Kd)(t e:aG):Option (Option (List aJ)):=match tupleOf t with
 | none=>aa aB
 | some ts=>match tupleOf e with
  | none=>aa aB
  | some vs=>aF7 k ts.1 vs.1
def cText (k:Kd)(x:aJ)(e:aG):Option Unit:=opt (at9 k ("str":aJ) e) λc=>opt (Bj c.2.1) λa=>opt (ue a) λy=>fu (decide (y.1=x)) (aa ())
noncomputable def Tz:∀J:lM,Option aG
 | .Expr e _=>aa e
 | _=>aB
def TF (s:lM):Option ((aJ×sZ)×(aJ×sZ)×aG×List xg×sZ):=opt (Tz s) λe=>opt (aw6 e) λq=>opt (ar3 q.1) λm=>opt (ue m.1) λy=>opt (Bj q.2.1) λa=>aa (y,m.2,a,q.2.2)
def apu:∀J:lM,Option ((aJ×sZ)×aG)
 | .Assign ts e _=>opt (Bj ts) λt=>opt (ue t) λy=>aa (y,e)
 | _=>aB
def cHA (k:Kd)(c x:aJ)(st:lM):Option DK:=match TF st with
 | some q=>opt (cText k x q.2.2.1) λU=>fu (q.2.2.2.1.isEmpty&&decide (q.2.1.1=("append":aJ))&&(k q.1.1==aa .local)&&decide (q.1.1≠x)&&decide (q.1.1≠("__debug__":aJ))&&(q.2.1.2.endLine==q.2.2.2.2.line)) (aa ⟨c,x,au,q.1.1⟩)
 | none=>opt (apu st) λq=>opt (cText k x q.2) λU=>fu ((k q.1.1==aa .local)&&decide (q.1.1≠x)&&decide (q.1.1≠("__class__":aJ))) (aa ⟨c,x,aC,q.1.1⟩)
def cH (k:Kd):∀J:jO,Option DK
 | .ExceptHandler t x b _=>opt t λt=>opt (ue t) λc=>opt x λx=>opt (Bj b) λst=>
  fu ((yq c.1).isSome&&(k c.1==aa .globalImplicit)&&(k x==aa .local)&&decide (x≠("errors":aJ))&&decide (x≠("__debug__":aJ))) (cHA k c.1 x st)
def cHs (k:Kd):List jO->Option (List DK)
 | []=>aa []
 | h::r=>opt (cH k h) λa=>opt (cHs k r) λl=>aa (a::l)
def ar4:aG->Bool
 | .ListComp .. =>au
 | .SetComp .. =>au
 | .DictComp .. =>au
 | _=>aC
def awl:aG->Bool
 | .ListComp .. =>au
 | _=>aC
noncomputable def Ck:aG->Bool
 | .Name x _=>decide (x≠("__class__":aJ))
 | .Attribute .. =>au
 | .Subscript .. =>au
 | .Tuple .. =>au
 | _=>aC
noncomputable def Fo:Option (Option (List aJ))->Bool
 | some aB=>au
 | some (aa l)=>decide l.Nodup&&l.all λx=>decide (x≠("__class__":aJ))
 | none=>aC
section
variable (r:aG->j0)(k:Kd)
def a7d (o:Hu)(e:aG):aG->t6
 | .Subscript a i _=>gs (jt i).isNone (.afq (r a) (r i) o (r e))
 | _=> .bad
def TG (x c:Option aG):t6:=gs c.isNone (sb x λx=>sb (aw6 x) λq=>sb (ue q.1) λnm=>sb (Bj q.2.1) λe=>sb (litOf e) λt=>sb (yq nm.1) λcls=>gs (q.2.2.1.isEmpty&&(k nm.1==aa .globalImplicit)) (.raise cls t.1))
end
noncomputable def cS:Nat->Kd->∀J:lM,t6
 | 0,_,_=> .bad
 | n+1,k,s=>match s with
  | .Expr e _=>gs (!ar4 e) (.expr (cE n k e))
  | .Return o _=> .ret (Fj (cE n k) o)
  | .Assign ts e _=>sb (Bj ts) λt=>gs (Fo (aF8 k t e)&&Ck t&&(!ar4 e || awl e)) (.asg (cT (cE n k) k (n+2) t) (cE n k e))
  | .AugAssign t o e _=>a7d (cE n k) o e t
  | .Delete ts _=>sb (Bj ts) λt=>sb (apr t) λq=>gs (jt q.2.1).isNone (.del (cE n k q.1) (cE n k q.2.1))
  | .If t a b _=> .ite (cE n k t) (a.map (cS n k)) (b.map (cS n k))
  | .While t b o _=>gs o.isEmpty (.whl (cE n k t) (b.map (cS n k)))
  | .For t it b o _=>gs (!Tw (cI (cE n k) k it)&& !isSet it) (.rA (cT (cE n k) k n t) (cI (cE n k) k it) (b.map (cS n k)) (o.map (cS n k)))
  | .Raise x c _=>TG k x c
  | .Try b hs o f _=>gs (o.isEmpty&&f.isEmpty&& !hs.isEmpty) (sb (cHs k hs) λmhs=> .Ew (b.map (cS n k)) mhs)
  | .Pass _=> .pass
  | .Break _=> .brk
  | .Continue _=> .cont
  | _=> .bad
noncomputable def an7:List aJ:= ["__init__","__len__","pop"]
def TJ (k:Kd)(e:aG):Option aJ:=opt (aw6 e) λc=>opt (ar3 c.1) λm=>opt (at9 k ("super":aJ) m.1) λs=>
 fu (c.2.1.isEmpty&&c.2.2.1.isEmpty&&s.2.1.isEmpty&&an7.contains m.2.1&&(k ("__class__":aJ)==aa .free)&&(k ("self":aJ)==aa .local)&&(m.2.2.endLine==c.2.2.2.line)) (aa m.2.1)
def agd (k:Kd):∀J:lM,Option t6
 | .Expr e _=>opt (TJ k e) λx=>aa (.expr (.sup x))
 | .Return o _=>opt o λe=>opt (TJ k e) λx=>aa (.ret (.sup x))
 | _=>aB
noncomputable def TP (n:Nat)(k:Kd):List lM->List t6
 | []=> []
 | st::r=>(match r.isEmpty,agd k st with
  | true,aa m=>m
  | _,_=>cS n k st)::TP n k r
def apv:aG->Option (List aJ×j0)
 | .Lambda a b sc _=>fu (Ip (λU=>aa .free) a sc) (aa (Tt sc,cE 40 (kdOf sc) b))
 | _=>aB
end Mine.Internal
end
section
namespace Mine.Internal
open PySem PySem.W PySem.Calls PyProof.Rows
section
abbrev fj:=List (List aV)
noncomputable def itK:List aD:= [.type "list_iterator",.type "tuple_iterator",.type "range_iterator",.type "longrange_iterator",.type "str_ascii_iterator",.type "str_iterator",.type "enumerate",.type "dict_itemiterator",.type "list_reverseiterator"]
def M3 (o:ou):Prop:=o.cls= .type "list" ∨(∃c,o.cls= .ref c)∨o.cls= .type "dict" ∨o.cls= .type "frame" ∨o.cls= .type "cell" ∨o.cls= .none∨(∃es n,o.data= .dict es n)∨(∃v,o.data= .cell v)∨o.cls∈itK
def aJj:∀J:Data,Bool
 | .dict _ _=>au
 | .cell _=>au
 | _=>aC
def aw7 (hc:o.cls= .type t)(ht:jh t∉ [jh "list",.type "dict",.type "frame",.type "cell"]++itK)(hd:aJj o.data=aC):¬M3 o:=by
 intro h;rw[M3,hc]at h;rcases h with q | ⟨_,q⟩ | q | q | q | q | ⟨es,n,q⟩ | ⟨v,q⟩ | q
 ·exact ht (q▸ .head _)
 ·cases q
 ·exact ht (q▸ .tail _ (.head _))
 ·exact ht (q▸rz 2 rfl)
 ·exact ht (q▸rz 3 rfl)
 ·cases q
 ·rw[q]at hd;exact Ss hd
 ·rw[q]at hd;exact Ss hd
 ·exact ht (fZ _ q)
def al9:¬M3 {cls:= .type "tuple",data:= .seq vs n}:=aw7 rfl (by decide) rfl
def ad8 (hc:o.cls= .type t)(hd:o.data= .fields vs)(ht:jh t∉ [jh "list",.type "dict",.type "frame",.type "cell"]++itK):¬M3 o:=
 aw7 hc ht (by refine aO hd ?_;rfl)
structure Cx where
 prog:oK
 w:vK
 g0:bM
 K:aog
 inK:K.In g0
 G:Gl
 awm:ou->aV->ou->aG->Prop
 sE:fP->Prop
 Ab:Array zB->Prop
 tabs:List aV
 tabsOk:bM->Prop
 vQ:∀h h':bM,∀J:(∀t∈tabs,h'.get? t=h.get? t),∀J:(∀b o,∀J:h.get? b=aa o,∀J:¬M3 o,h'.get? b=aa o),∀J:tabsOk h,tabsOk h'
 nT:∀h:bM,∀J:tabsOk h,∀t∈tabs,∃o,h.get? t=aa o∧o.cls= .none
abbrev Cx.M (Γ:Cx):Br:=iG Γ.prog Γ.w
abbrev n6 (l:List fP):List aV:=l.filterMap (·.frame)
abbrev tE (s:aW)(X:List aV):aW:={s with heap:=fW s.heap X}
inductive LR (i:Int):aD->Prop
 | mk (t:RG):LR i (.int i t)
inductive Ma (x:aJ):aD->Prop
 | mk (t:RG):Ma x (.str x t)
inductive Mf (h:bM)(P:List aD->Prop):aD->Prop
 | mk (a:aV) (vs:Array aD) (n:Nat) (ha:h.get? a=aa {cls:= .type "tuple",data:= .seq vs n}) (hs:P vs.toList):Mf h P (.ref a)
inductive age (ρ:fj)(i:Nat):aD->Prop
 | mk (a:aV) (r:List aV) (e:ρ[i]?=aa (a::r)):age ρ i (.ref a)
structure Cm (h:bM)(c:String)(m:aJ)(e:aV)(o:ou)(vs:Array aD)(t:aV)(tk:RG)(n:Nat):Prop where
 he:h.get? e=aa o
 hc:o.cls= .type c
 hd:o.data= .fields vs
 cc:c="ValueError" ∨c="TypeError"
 h0:vs[0]?=aa (.ref t)
 ht:h.get? t=aa {cls:= .type "tuple",data:= .seq #[.str m tk] n}
inductive a7g (X:List aV)(a:aV)(vs:Array aD)(h':bM)(fl:aD):Prop
 | mk (T:aV) (oT:ou) (ts:Array aD) (h1:vs[1]?=aa (.ref T)) (h2:T∈X) (h3:T≠a) (h4:h'.get? T=aa oT) (h5:oT.data= .fields ts) (h6:ts[3]?=aa fl):a7g X a vs h' fl
def Way (X:List aV)(a:aV)(vs:Array aD)(h':bM):Option aD->Prop
 | none=>vs[1]?=aa .none
 | some fl=>a7g X a vs h' fl
inductive Bk (h:bM)(l:List fP)(c:String)(m:aJ)(a:aV)(X:List aV)(h':bM)(x:Option aD):Prop
 | mk (o:ou) (vs:Array aD) (t:aV) (tk:RG) (n:Nat) (off:∀b∈X,h.get? b=aB) (mem:a∈X) (ex:Cm h' c m a o vs t tk n) (tX:t∉X) (tF:t∉n6 l) (way:Way X a vs h' x):Bk h l c m a X h' x
def Ir (l:List fP)(x:Option aD):Prop:=x=aB∨x=aa .none∨∃env r L,l=env::r∧env.frame=aa L∧x=aa (kW L)
inductive Fly (h:bM)(l:List fP)(c:String)(m:aJ)(X:List aV)(h':bM):aD->Prop
 | mk (a:aV) (x:Option aD) (fx:Bk h l c m a X h' x) (at_:Ir l x):Fly h l c m X h' (.ref a)
inductive a7h (h:bM)(c:String)(m:aJ):aD->Prop
 | mk (e:aV) (o:ou) (vs:Array aD) (t:aV) (tk:RG) (n:Nat) (x:Cm h c m e o vs t tk n):a7h h c m (.ref e)
inductive a7i (Γ:Cx)(h:bM)(k:aG):aD->Prop
 | mk (a:aV) (o:ou) (c:aV) (oc:ou) (ha:h.get? a=aa o) (hm:¬M3 o) (hc:h.get? c=aa oc) (hmc:¬M3 oc) (hl:Γ.awm o c oc k):a7i Γ h k (.ref a)
inductive a7j (h:bM):aD->Prop
 | mk (a:aV) (o:ou) (ha:h.get? a=aa o) (hc:o.cls= .type "re.Match") (hm:¬M3 o):a7j h (.ref a)
inductive awn (ρ:fj)(h:bM)(i:Nat):aD->Prop
 | mk (a d:aV) (hd:ρ[i]?=aa [d]) (ha:h.get? a=aa {cls:= .type "dict_items",data:= .fields #[.ref d]}):awn ρ h i (.ref a)
inductive Cp (P:aD->Prop)(Q:List aD->Prop):List aD->Prop
 | mk (u:aD) (us:List aD) (hu:P u) (hs:Q us):Cp P Q (u::us)
mutual
def VR (Γ:Cx)(ρ:fj)(h:bM):V->aD->Prop
 | .none=>(·= .none)
 | .bool b=>(·= .bool b)
 | .int i=>LR i
 | .str s=>Ma s
 | .tup l=>Mf h (gD Γ ρ h l)
 | .ref i=>age ρ i
 | .gl v=>(·=v)
 | .exc c m=>a7h h c m
 | .BK k=>a7i Γ h k
 | .mat=>a7j h
 | .QZ i=>awn ρ h i
def gD (Γ:Cx)(ρ:fj)(h:bM):List V->List aD->Prop
 | []=>(·= [])
 | v::l=>Cp (VR Γ ρ h v) (gD Γ ρ h l)
end
inductive TQ (x:aJ)(P:aD->Prop)(Q:List iK->Prop):List iK->Prop
 | mk (hh:Int) (t:RG) (u:aD) (es:List iK) (hu:P u) (hs:Q es):TQ x P Q (⟨hh,.str x t,u⟩::es)
def DR (Γ:Cx)(ρ:fj)(h:bM):j7->List iK->Prop
 | []=>(·= [])
 | (x,v)::d=>TQ x (VR Γ ρ h v) (DR Γ ρ h d)
inductive apw (Γ:Cx)(ρ:fj)(h:bM)(l:List V):List aV->Prop
 | mk (a:aV) (xs:Array aD) (n:Nat) (ha:h.get? a=aa (listOf xs n)) (hs:gD Γ ρ h l xs.toList) (hz:l.length≤16777216):apw Γ ρ h l [a]
inductive apx (Γ:Cx)(ρ:fj)(h:bM)(c:aV)(d:j7):List aV->Prop
 | mk (a dx:aV) (es:List iK) (n:Nat) (ha:h.get? a=aa (instObj c dx)) (hd:h.get? dx=aa (iD es n)) (pB:DR Γ ρ h d es) (hi:(Γ.G.bW c "__init__").isSome=au) (hc:c≠Γ.G.gh):apx Γ ρ h c d [a,dx]
inductive a7k (Γ:Cx)(ρ:fj)(h:bM)(c:aV)(d:j7)(l:List V):List aV->Prop
 | mk (a dx:aV) (es:List iK) (n:Nat) (xs:Array aD) (k:Nat) (ha:h.get? a=aa {cls:= .ref c,dict:=aa dx,data:= .seq xs k}) (hd:h.get? dx=aa (iD es n)) (pB:DR Γ ρ h d es) (hs:gD Γ ρ h l xs.toList) (hz:l.length≤16777216)
   (hc:c=Γ.G.gh) (hi:(Γ.G.bW c "__init__").isSome=au):a7k Γ ρ h c d l [a,dx]
inductive a7l (h:bM):List aV->Prop
 | mk (d:aV) (n:Nat) (hd:h.get? d=aa (iD [] n)):a7l h [d]
def OR (Γ:Cx)(ρ:fj)(h:bM):m6->List aV->Prop
 | .list l=>apw Γ ρ h l
 | .inst c d=>apx Γ ρ h c d
 | .acc c d l=>a7k Γ ρ h c d l
 | .vD=>a7l h
structure Iu (FS:List aV)(W:aV->Prop)(h h':bM):Prop where
 vG:∀b o,∀J:h.get? b=aa o,∀J:¬M3 o,h'.get? b=aa o
 keep:∀b o,∀J:h.get? b=aa o,∀J:¬W b,∀J:b∉FS,h'.get? b=aa o
 fs:∀b o,∀J:h.get? b=aa o,∀J:¬W b,∀J:b∈FS,∃sl,h'.get? b=aa {o with slots:=sl}
def Iu.refl (FS:List aV)(W:aV->Prop)(h:bM):Iu FS W h h:=⟨λU U e U=>e,λU U e U U=>e,λU o e U U=>⟨o.slots,e⟩⟩
def Iu.then {W uI:aV->Prop}(x:Iu FS W h jQ)(y:Iu FS uI jQ rP)(hw:∀b o,∀J:h.get? b=aa o,∀J:uI b,W b):Iu FS W h rP:=
 ⟨λb o e n=>y.vG b o (x.vG b o e n) n,λb o e n f=>y.keep b o (x.keep b o e n f) (λq=>n (hw b o e q)) f,λb o e n f=>
  (x.fs b o e n f).elim λU awo=>(y.fs b _ awo (λq=>n (hw b o e q)) f).elim λsl' agf=>⟨sl',agf⟩⟩
def Iu.of_keeps {W:aV->Prop}(k:∀b o,∀J:h.get? b=aa o,h'.get? b=aa o):Iu FS W h h':=
 ⟨λb o e U=>k b o e,λb o e U U=>k b o e,λb o e U U=>⟨o.slots,k b o e⟩⟩
def Iu.TV {W:aV->Prop}(hD:h.get? D=aa o)(hm:M3 o)(hW:W D)(k:∀b o,∀J:b≠D,∀J:h.get? b=aa o,h'.get? b=aa o):Iu FS W h h':=by
 refine⟨λb o' e n=> ?_,λb o' e n U=> ?_,λb o' e n U=> ?_⟩
 ·refine k b o' ?_ e
  rintro rfl;replace e:=hD▸e;cases e;exact n hm
 ·exact k b o' (λq=>n (q▸hW)) e
 ·exact⟨o'.slots,k b o' (λq=>n (q▸hW)) e⟩
def Iu.weaken {W W':aV->Prop}(x:Iu FS W h h')(hw:∀b,∀J:W b,W' b):Iu FS W' h h':=
 ⟨x.vG,λb o e n f=>x.keep b o e (λq=>n (hw b q)) f,λb o e n f=>x.fs b o e (λq=>n (hw b q)) f⟩
def Wr (Γ:Cx)(lk:List Nat)(ρ:fj)(b:aV):Prop:=b∈Γ.tabs∨∃i r,ρ[i]?=aa r∧b∈r∧i∉lk
structure I2 (ρ:fj)(h:bM)(fK:fj):Prop where
 more:∃τ,fK=ρ++τ∧∀b∈τ.flatten,h.get? b=aB
def I2.refl (ρ:fj)(h:bM):I2 ρ h ρ:=⟨[],by simp,λU hb=>by simp at hb⟩
def I2.get (x:I2 ρ h fK){i:Nat}(e:ρ[i]?=aa r):fK[i]?=aa r:=by obtain⟨τ,rfl,_⟩:=x.more;refine aO (gC (aL.mp e).1) ?_;exact e
def I2.wr (x:I2 ρ h fK)(hb:Wr Γ lk fK b):Wr Γ lk ρ b∨h.get? b=aB:=by
 obtain⟨τ,rfl,hn⟩:=x.more;rcases hb with hb | ⟨i,r,e,hm,hl⟩
 ·exact .inl (.inl hb)
 by_cases hi:i<ρ.length
 ·rw[gC hi]at e
  exact .inl (.inr ⟨i,r,e,hm,hl⟩)
 ·rw[dN (cV hi)]at e
  exact .inr (hn b (cM.mpr ⟨r,bV e,hm⟩))
def aw8 {h h':bM}(hk:∀o,∀J:h.get? b=aa o,∃o',h'.get? b=aa o')(e:h'.get? b=aB):h.get? b=aB:=by
 cases q:h.get? b with
 | none=>rfl
 | some o=>obtain⟨o',e'⟩:=hk o q;replace e':=e▸e';exact iz e'
def R5 (h h':bM):Prop:=∀b o,∀J:h.get? b=aa o,∃o',h'.get? b=aa o'
def R5.none (x:R5 h h')(e:h'.get? b=aB):h.get? b=aB:=aw8 (λo q=>x b o q) e
def I2.trans (x:I2 ρ h aY)(y:I2 aY jQ dz)(l:R5 h jQ):I2 ρ h dz:=by
 obtain⟨τ,rfl,hn⟩:=x.more;obtain⟨τ',rfl,zc⟩:=y.more;refine⟨τ++τ',by rw[aQ],λb hb=> ?_⟩;rw[mV,bI]at hb;rcases hb with hb | hb
 ·exact hn b hb
 ·exact l.none (zc b hb)
section
variable {Γ:Cx}{ρ fK:fj}{h jQ h':bM}
def Cm.type (x:Cm h c m e o vs t tk n):¬M3 o:=by
 refine ad8 x.hc x.hd ?_;rcases x.cc with rfl | rfl
 ·decide
 ·decide
def Cm.mono (im:∀b o,∀J:h.get? b=aa o,∀J:¬M3 o,h'.get? b=aa o)(x:Cm h c m e o vs t tk n):Cm h' c m e o vs t tk n:=
 ⟨im _ _ x.he x.type,x.hc,x.hd,x.cc,x.h0,im _ _ x.ht al9⟩
theorem VR.mono (g:I2 ρ jQ fK)(im:∀b o,∀J:h.get? b=aa o,∀J:¬M3 o,h'.get? b=aa o):∀{v:V}{u:aD},∀J:VR Γ ρ h v u,VR Γ fK h' v u:=by
 intro v;refine V.rec (motive_1:=λv=>∀{u:aD},∀J:VR Γ ρ h v u,VR Γ fK h' v u) (motive_2:=λl=>∀{us:List aD},∀J:gD Γ ρ h l us,gD Γ fK h' l us) (λx=>x) (λU u x=>x) (λU u x=>x) (λU u x=>x) ?_ ?_ (λU u x=>x) ?_ ?_ ?_ ?_ (λx=>x) ?_ v
 ·rintro l ih _ ⟨a,vs,n,ht,hs⟩
  exact .mk a vs n (im _ _ ht al9) (ih hs)
 ·rintro i _ ⟨a,r,e⟩
  exact .mk a r (g.get e)
 ·rintro c m _ ⟨e,o,vs,t,tk,n,x⟩
  exact .mk e o vs t tk n (x.mono im)
 ·rintro k _ ⟨a,o,c,oc,h1,h2,h3,h4,h5⟩
  exact .mk a o c oc (im _ _ h1 h2) h2 (im _ _ h3 h4) h4 h5
 ·rintro _ ⟨a,o,h1,h2,h3⟩
  exact .mk a o (im _ _ h1 h3) h2 h3
 ·rintro i _ ⟨a,d,h1,h2⟩
  exact .mk a d (g.get h1) (im _ _ h2 (ad8 rfl rfl (by decide)))
 ·rintro v l ih1 ih2 _ ⟨u,us,hv,hs⟩
  exact .mk u us (ih1 hv) (ih2 hs)
theorem gD.mono (g:I2 ρ jQ fK)(im:∀b o,∀J:h.get? b=aa o,∀J:¬M3 o,h'.get? b=aa o):∀{l:List V}{us:List aD},∀J:gD Γ ρ h l us,gD Γ fK h' l us:=by
 intro l
 induction l with
 | nil=>exact λx=>x
 | cons v l ih=>
  rintro _ ⟨u,us,hv,hs⟩;exact .mk u us (hv.mono g im) (ih hs)
theorem DR.mono (g:I2 ρ jQ fK)(im:∀b o,∀J:h.get? b=aa o,∀J:¬M3 o,h'.get? b=aa o):∀{d:j7}{es:List iK},∀J:DR Γ ρ h d es,DR Γ fK h' d es:=by
 intro zz
 induction zz with
 | nil=>
  intro _ x;exact x
 | cons hd0 _ ih=>
  obtain⟨_,_⟩:=hd0;rintro _ ⟨hh,t,u,es,hv,hs⟩;exact .mk hh t u es (hv.mono g im) (ih hs)
theorem OR.mono (g:I2 ρ jQ fK)(im:∀b o,∀J:h.get? b=aa o,∀J:¬M3 o,h'.get? b=aa o):∀{m:m6}{r:List aV},∀J:OR Γ ρ h m r,∀J:(∀b∈r,∀o,∀J:h.get? b=aa o,h'.get? b=aa o),OR Γ fK h' m r:=by
 intro m;cases m with
 | list l=>
  rintro _ ⟨a,xs,n,ha,hs,hz⟩ k;exact .mk a xs n (k a (.head _) _ ha) (hs.mono g im) hz
 | inst c d=>
  rintro _ ⟨a,dx,es,n,ha,hd,pB,hi,hc⟩ k;exact .mk a dx es n (k a (.head _) _ ha) (k dx (.tail _ (.head _)) _ hd) (pB.mono g im) hi hc
 | acc c d l=>
  rintro _ ⟨a,dx,es,n,xs,q,ha,hd,pB,hs,hz,hc,hi⟩ k;exact .mk a dx es n xs q (k a (.head _) _ ha) (k dx (.tail _ (.head _)) _ hd) (pB.mono g im) (hs.mono g im) hz hc hi
 | vD=>
  rintro _ ⟨d,n,hd⟩ k;exact .mk d n (k d (.head _) _ hd)
end
structure SR (Γ:Cx)(ρ:fj)(H:Hp)(s:aW):Prop where
 len:ρ.length=H.length
 nodup:ρ.flatten.Nodup
 objs:∀(i:Nat)(o:m6),∀J:H[i]?=aa o,∃r,ρ[i]?=aa r∧OR Γ ρ s.heap o r
 base:∀b o,∀J:Γ.g0.get? b=aa o,s.heap.get? b=aa o
 apart:∀b∈ρ.flatten,Γ.g0.get? b=aB
 mz:∀b∈ρ.flatten,b∉Γ.tabs
 gens:Γ.Ab s.gens
 tabs:Γ.tabsOk s.heap
structure Ext (Γ:Cx)(FS:List aV)(W:aV->Prop)(ρ:fj)(s:aW)(fK:fj)(s':aW):Prop where
 grow:I2 ρ s.heap fK
 vf:Iu FS W s.heap s'.heap
 live:R5 s.heap s'.heap
 os:s'.os=s.os
 drawn:s'.drawn=s.drawn
theorem Ext.refl {W:aV->Prop}:Ext Γ FS W ρ s ρ s:=⟨.refl _ _,.refl _ _ _,λU o e=>⟨o,e⟩,rfl,rfl⟩
def R5.trans (x:R5 h jQ)(y:R5 jQ rP):R5 h rP:=λb o e=>let ⟨o',e'⟩:=x b o e;y b o' e'
def Ext.trans' {W uI:aV->Prop}(x:Ext Γ FS W ρ s aY aU)(y:Ext Γ FS uI aY aU dz bK)(hw:∀b,∀J:uI b,W b∨s.heap.get? b=aB):Ext Γ FS W ρ s dz bK:=
 ⟨x.grow.trans y.grow x.live,x.vf.then y.vf λb U e q=>(hw b q).resolve_right λz=>(iz (z.symm.trans e)),x.live.trans y.live,y.os.trans x.os,y.drawn.trans x.drawn⟩
def Ext.trans (x:Ext Γ FS (Wr Γ lk ρ) ρ s aY aU)(y:Ext Γ FS (Wr Γ lk aY) aY aU dz bK):Ext Γ FS (Wr Γ lk ρ) ρ s dz bK:=x.trans' y λU q=>x.grow.wr q
def VR.ext {W:aV->Prop}(x:VR Γ ρ s.heap v u)(e:Ext Γ FS W ρ s fK s'):VR Γ fK s'.heap v u:=x.mono e.grow e.vf.vG
def gD.ext {W:aV->Prop}(x:gD Γ ρ s.heap v u)(e:Ext Γ FS W ρ s fK s'):gD Γ fK s'.heap v u:=x.mono e.grow e.vf.vG
def Bk.less (f:Bk jQ l c m a X h' x)(lv:R5 h jQ):Bk h l c m a X h' x:=
 match f with
 | .mk o vs t tk n e1 e2 e3 e4 e5 e6=> .mk o vs t tk n (λb hb=>lv.none (e1 b hb)) e2 e3 e4 e5 e6
theorem Fly.less:∀{e:aD},∀J:Fly jQ l c m X h' e,∀J:R5 h jQ,Fly h l c m X h' e:=by rintro _ ⟨a,x,f,q⟩ lv;exact .mk a x (f.less lv) q
inductive Mg (Γ:Cx)(ρ:fj)(h:bM)(e:fP):Prop
 | mk (L:aV) (o:ou) (es:Array iK) (n:Nat) (hk:e.scope.kind≠ .module) (hf:e.frame=aa L) (ho:h.get? L=aa o) (hd:o.data= .dict es n) (hb:L∉ρ.flatten) (ht:L∉Γ.tabs) (hg:Γ.g0.get? L=aB):Mg Γ ρ h e
abbrev H8 (Γ:Cx)(l:List fP)(ρ:fj)(h:bM):Prop:=∀e∈l,Mg Γ ρ h e
inductive NsR (Γ:Cx)(ρ:fj)(h:bM)(L:aV)(loc:j7):Prop
 | mk (m:aJ->Option aD) (hn:h.Ns L m) (hl:∀x v,∀J:loc.lookup x=aa v,∃u,m x=aa u∧VR Γ ρ h v u):NsR Γ ρ h L loc
inductive Cq (Γ:Cx)(ρ:fj)(h:bM)(cells:List (aJ×aV))(x:aJ)(v:V):Prop
 | mk (c:aV) (u:aD) (hc:cells.lookup x=aa c) (ho:h.IsCell c (aa u)) (hv:VR Γ ρ h v u):Cq Γ ρ h cells x v
inductive TY (h:bM)(c:aV):Prop
 | mk (o:ou) (v:Option aD) (ho:h.get? c=aa o) (hd:o.data= .cell v):TY h c
structure FR (Γ:Cx)(l:List fP)(ρ:fj)(h:bM)(env:fP)(loc cX:j7):Prop where
 uc:H8 Γ l ρ h
 ns:NsR Γ ρ h env.locals loc
 cells:∀x v,∀J:cX.lookup x=aa v,Cq Γ ρ h env.cells x v
 wH:env.locals∉ρ.flatten
 xH:∀x c,∀J:env.cells.lookup x=aa c,c∉ρ.flatten
 xJ:env.locals∉Γ.tabs
 sU:∀x c,∀J:env.cells.lookup x=aa c,c∉Γ.tabs
 Ac:Γ.g0.get? env.locals=aB
 vR:∀x c,∀J:env.cells.lookup x=aa c,∀J:x≠("__class__":aJ),Γ.g0.get? c=aB
 oH:∀x c,∀J:env.cells.lookup x=aa c,TY h c
 apart:∀x y c,∀J:env.cells.lookup x=aa c,∀J:env.cells.lookup y=aa c,x=y
 neL:∀x c,∀J:env.cells.lookup x=aa c,c≠env.locals
 Fp:∀J:(loc.lookup ("errors":aJ)).isSome=au,Γ.sE env
end
section
structure v8 (Γ:Cx)(k:Kd)(env:fP):Prop where
 kind:env.scope.kind= .function
 glob:env.globals=bY
 blt:env.builtins=dJ
 loc:∀x,∀J:k x=aa .local,env.kindOf x=aa .local
 agg:∀x,∀J:k x=aa .cell,env.kindOf x=aa .cell∧(env.cells.lookup x).isSome
 uz:∀x,∀J:k x=aa .free,(env.kindOf x=aa .cell∨env.kindOf x=aa .free)∧(env.cells.lookup x).isSome
 jq:∀x,∀J:k x=aa .globalImplicit,env.kindOf x=aa .globalImplicit
 Fp:∀J:k ("errors":aJ)=aa .local,Γ.sE env
def v8.cX (O:v8 Γ k env)(x:aJ)(h:k x=aa .cell∨k x=aa .free):env.kindOf x=aa .cell∨env.kindOf x=aa .free:=
 h.elim (λh=> .inl (O.agg x h).1) λh=>(O.uz x h).1
structure jy (A:bO)(l:List fP)(n:Nat):Prop where
 hand:A.handled=aB
 frames:A.frames=aa l
 depth:A.depth+4*n+20<mW
 units:A.units+16*n+400<vL
def jy.less (x:jy A l n)(h:m≤n):jy A l m:=⟨x.hand,x.frames,bB (aK (bG (RJ 4 h) _) 20) x.depth,bB (aK (bG (RJ 16 h) _) 400) x.units⟩
def jy.dep (a:jy A l (n+1)):A.depth+1+4*n+20<mW:=
 bB (aK (aq (cN (gq A.depth 1 (4*n))) (show A.depth+(4*n+1)≤A.depth+(4*n+4) from bG (bG (by decide) _) _)) 20) a.depth
def jy.uni {n c:Nat}(a:jy A l (n+1))(h:c≤16):A.units+c+16*n+400<vL:=
 bB (aK (aq (cN (gq A.units c (16*n))) (aq (cN (iH _ _ _)) (bG (bG h _) _))) 400) a.units
def jy.pred (x:jy A l (n+1)):jy A l n:=x.less (eY n)
def jy.zero (x:jy A l n):jy A l 0:=x.less (bR n)
def Q7 (Γ:Cx)(l:List fP)(lk:List Nat)(ρ:fj)(s:aW){α β:Type}(q:Res α)(H':Hp)(R:fj->bM->α->β->Prop)(Q:PQ β)(E:PQ aD):Prop:=match q with
 | .ok v=>∀fK s' u,∀J:Ext Γ (n6 l) (Wr Γ lk ρ) ρ s fK s',∀J:SR Γ fK H' s',∀J:R fK s'.heap v u,Q u s'
 | .exc c m=>∀fK s' e X,∀J:Ext Γ (n6 l) (Wr Γ lk ρ) ρ s fK (tE s' X),∀J:SR Γ fK H' (tE s' X),∀J:Fly s.heap l c m X s'.heap e,E e s'
abbrev u6 (Γ:Cx):fj->bM->V->aD->Prop:=VR Γ
abbrev a7n (Γ:Cx):fj->bM->List V->List aD->Prop:=gD Γ
abbrev Cr:fj->bM->Bool->Bool->Prop:=λU U v u=>u=v
abbrev TT:fj->bM->Unit->Unit->Prop:=λU U U U=>True
def iY (Γ:Cx)(l:List fP)(lk:List Nat)(A:bO)(ρ:fj)(s:aW){α β:Type}(r:Out α)(t:Sem β)(R:fj->bM->α->β->Prop):Prop:=
 ∀q H',∀J:r=aa (q,H'),∀(Q:PQ β)(E:PQ aD),∀J:Q7 Γ l lk ρ s q H' R Q E,aP Γ.M A t Q E s
section
variable {Γ:Cx}{l:List fP}{lk:List Nat}{A:bO}{ρ aY fK:fj}{H H':Hp}{s aU s':aW}{α β γ δ:Type}{R:fj->bM->α->β->Prop}{R':fj->bM->γ->∀J:δ,Prop}{Q:PQ β}{E:PQ aD}
def Q7.ext (P:Q7 Γ l lk ρ s q H' R Q E)(x:Ext Γ (n6 l) (Wr Γ lk ρ) ρ s aY aU):Q7 Γ l lk aY aU q H' R Q E:=by
 cases q with
 | ok _=>exact λfK s' u x' S' r=>P fK s' u (x.trans x') S' r
 | exc _ _=>exact λfK s' e X x' S' r=>P fK s' e X (x.trans x') S' (r.less x.live)
def Q7.take (ev:aa (r,H)=aa (q,H'))(P:Q7 Γ l lk ρ s q H' R Q E):Q7 Γ l lk ρ s r H R Q E:=by cases ev;exact P
def SR.same (S:SR Γ ρ H s)(hh:s'.heap=s.heap:=by rfl)(hg:s'.gens=s.gens:=by rfl):SR Γ ρ H s':=
 ⟨S.len,S.nodup,hh▸S.objs,hh▸S.base,S.apart,S.mz,hg▸S.gens,hh▸S.tabs⟩
def Ext.same {W:aV->Prop}(hh:s'.heap=s.heap:=by rfl)(ho:s'.os=s.os:=by rfl)(hd:s'.drawn=s.drawn:=by rfl):Ext Γ FS W ρ s ρ s':=
 ⟨.refl _ _,hh▸ .refl _ _ _,hh▸λU o e=>⟨o,e⟩,ho,hd⟩
theorem Q7.ok (P:Q7 Γ l lk ρ s (.ok v) H' R Q E)(S:SR Γ ρ H' s)(r:R ρ s.heap v u)(hh:s'.heap=s.heap:=by rfl)(hg:s'.gens=s.gens:=by rfl)(ho:s'.os=s.os:=by rfl)(hd:s'.drawn=s.drawn:=by rfl):Q u s':=
 P ρ s' u (.same hh ho hd) (S.same hh hg) (hh▸r)
def iY.none:iY Γ l lk A ρ s (aB:Out α) t R:=λU U e=>iz e
theorem iY.ok (h:∀Q E,∀J:Q7 Γ l lk ρ s (.ok v) H R Q E,aP Γ.M A t Q E s):iY Γ l lk A ρ s (aa (.ok v,H)) t R:=λU U e Q E P=>h Q E (P.take e)
theorem iY.pure (S:SR Γ ρ H s)(h:R ρ s.heap v u):iY Γ l lk A ρ s (aa (.ok v,H)) (pure u) R:= .ok λU U P=>aA (P.ok S h)
theorem iY.opt {f:α->Out γ}(h:∀a,∀J:o=aa a,iY Γ l lk A ρ s (f a) t R'):iY Γ l lk A ρ s (opt o f) t R':=by
 cases o with
 | none=>exact .none
 | some a=>exact h a rfl
theorem iY.fu (h:∀J:b=au,iY Γ l lk A ρ s r t R'):iY Γ l lk A ρ s (fu b r) t R':=by
 cases b with
 | true=>exact h rfl
 | false=>exact .none
def iY.of (h:iY Γ l lk A ρ s r t R)(i:∀Q E,∀J:aP Γ.M A t Q E s,aP Γ.M A t' Q E s):iY Γ l lk A ρ s r t' R:=λq H' e Q E P=>i Q E (h q H' e Q E P)
def q7 (Γ:Cx)(l:List fP)(lk:List Nat)(ρ:fj)(s:aW){α β:Type}(r:Out α)(W:∀J:(PQ β),∀J:(PQ aD),Prop)(R:fj->bM->α->β->Prop):Prop:=
 ∀q H',∀J:r=aa (q,H'),∀(Q:PQ β)(E:PQ aD),∀J:Q7 Γ l lk ρ s q H' R Q E,W Q E
def q7.DN {f:α->Hp->Out γ}{W:β->aW->∀J:(PQ δ),∀J:(PQ aD),Prop}(h:q7 Γ l lk ρ s r awq R)(Du:∀Q E,∀J:awq (λu s'=>W u s' Q E) E,W' Q E)
  (kk:∀v cU aY aU u,∀J:Ext Γ (n6 l) (Wr Γ lk ρ) ρ s aY aU,∀J:SR Γ aY cU aU,∀J:R aY aU.heap v u,q7 Γ l lk aY aU (f v cU) (W u aU) R'):q7 Γ l lk ρ s (jf r f) W' R':=λq H' ev Q E P=>by
 refine Du Q E ?_;rcases r with _ | ⟨v | ⟨c,m⟩,cU⟩
 ·exact iz ev
 ·exact h _ _ rfl _ _ λaY aU u x cg r=>kk v cU aY aU u x cg r _ _ ev Q E (P.ext x)
 ·exact h _ _ rfl _ _ (P.take ev:Q7 Γ l lk ρ s (.exc c m) cU R' Q E)
def q7.of {W W':∀J:(PQ β),∀J:(PQ aD),Prop}(h:q7 Γ l lk ρ s r W R)(i:∀Q E,∀J:W Q E,W' Q E):q7 Γ l lk ρ s r W' R:=λq H' e Q E P=>i Q E (h q H' e Q E P)
def iY.jb {f:α->Hp->Out γ}{W:β->aW->∀J:(PQ δ),∀J:(PQ aD),Prop}(h:iY Γ l lk A' ρ s r t R)(Du:∀Q E,∀J:aP Γ.M A' t (λu s'=>W u s' Q E) E s,W' Q E)
  (kk:∀v cU aY aU u,∀J:Ext Γ (n6 l) (Wr Γ lk ρ) ρ s aY aU,∀J:SR Γ aY cU aU,∀J:R aY aU.heap v u,q7 Γ l lk aY aU (f v cU) (W u aU) R'):q7 Γ l lk ρ s (jf r f) W' R':=
 q7.DN h Du kk
def iY.DN {f:α->Hp->Out γ}{g:β->Sem δ}(h:iY Γ l lk A' ρ s r t R)(Du:∀Q E,∀J:aP Γ.M A' t (λu s'=>aP Γ.M A (g u) Q E s') E s,aP Γ.M A t' Q E s)
  (kk:∀v cU aY aU u,∀J:Ext Γ (n6 l) (Wr Γ lk ρ) ρ s aY aU,∀J:SR Γ aY cU aU,∀J:R aY aU.heap v u,iY Γ l lk A aY aU (f v cU) (g u) R'):iY Γ l lk A ρ s (jf r f) t' R':=
 h.jb Du kk
def q7.none:q7 Γ l lk ρ s (aB:Out α) W R:=λU U e=>iz e
theorem q7.ok (h:∀Q E,∀J:Q7 Γ l lk ρ s (.ok v) H R Q E,W Q E):q7 Γ l lk ρ s (aa (.ok v,H)) W R:=λU U e Q E P=>h Q E (P.take e)
theorem q7.opt {f:α->Out γ}(h:∀a,∀J:o=aa a,q7 Γ l lk ρ s (f a) W R'):q7 Γ l lk ρ s (opt o f) W R':=by
 cases o with
 | none=>exact .none
 | some a=>exact h a rfl
theorem q7.fu (h:∀J:b=au,q7 Γ l lk ρ s r W R'):q7 Γ l lk ρ s (fu b r) W R':=by
 cases b with
 | true=>exact h rfl
 | false=>exact .none
def iY.bind {f:α->Hp->Out γ}{g:β->Sem δ}(h:iY Γ l lk A ρ s r t R)
  (kk:∀v cU aY aU u,∀J:Ext Γ (n6 l) (Wr Γ lk ρ) ρ s aY aU,∀J:SR Γ aY cU aU,∀J:R aY aU.heap v u,iY Γ l lk A aY aU (f v cU) (g u) R'):iY Γ l lk A ρ s (jf r f) (t>>=g) R':=
 h.DN (λU U w=>aj w) kk
end
section
variable {Γ:Cx}{FS:List aV}{W W' uI:aV->Prop}{lk:List Nat}{ρ fK aY dz:fj}{s s' aU bK:aW}
theorem Ext.weaken (x:Ext Γ FS W ρ s fK s')(hw:∀b,∀J:W b,W' b):Ext Γ FS W' ρ s fK s':=⟨x.grow,x.vf.weaken hw,x.live,x.os,x.drawn⟩
structure OffW (Γ:Cx)(ρ:fj)(b:aV):Prop where
 obj:b∉ρ.flatten
 tab:b∉Γ.tabs
def Ext.off (hb:b∉ρ.flatten)(ht:b∉Γ.tabs):¬Wr Γ lk ρ b:=λq=>q.elim ht (by rintro⟨_,r,e,hm,_⟩;exact hb (cM.mpr ⟨r,bV e,hm⟩))
def Ext.Ua (x:Ext Γ FS W ρ s fK s')(hb:b∉ρ.flatten)(e:s.heap.get? b=aa o):b∉fK.flatten:=λhm=>by obtain⟨τ,rfl,hn⟩:=x.grow.more;rw[mV,bI]at hm;exact hm.elim hb λhm=>iz ((hn b hm).symm.trans e)
inductive Cu (h:bM)(b:aV)(o:ou):Prop
 | mk (o':ou) (ho:h.get? b=aa o') (hd:o'.data=o.data):Cu h b o
def Ext.data (x:Ext Γ FS (Wr Γ lk ρ) ρ s fK s')(hb:b∉ρ.flatten)(ht:b∉Γ.tabs)(e:s.heap.get? b=aa o):Cu s'.heap b o:=by
 by_cases hf:b∈FS
 ·exact(x.vf.fs b o e (Ext.off hb ht) hf).elim λsl e'=>⟨_,e',rfl⟩
 ·exact⟨o,x.vf.keep b o e (Ext.off hb ht) hf,rfl⟩
def Cu.ns {h h':bM}{m:aJ->Option aD}(hl:∀o,∀J:h.get? b=aa o,Cu h' b o)(hn:h.Ns b m):h'.Ns b m:=by obtain⟨o,es,ep,ho,hd,r⟩:=hn;obtain⟨o',uf,zf⟩:=hl o ho;exact⟨o',es,ep,uf,zf.trans hd,r⟩
def Mg.sG (K:Mg Γ ρ h e)(hl:∀L o,∀J:L∉ρ.flatten,∀J:L∉Γ.tabs,∀J:h.get? L=aa o,Cu h' L o∧L∉fK.flatten):Mg Γ fK h' e:=by obtain⟨L,o,es,n,hk,hf,ho,hd,hb,ht,hg⟩:=K;obtain⟨⟨o',uf,zf⟩,hn⟩:=hl L o hb ht ho;exact⟨L,o',es,n,hk,hf,uf,zf.trans hd,hn,ht,hg⟩
def TY.sG (x:TY h c)(hl:∀o,∀J:h.get? c=aa o,Cu h' c o):TY h' c:=by obtain⟨o,v,ho,hd⟩:=x;obtain⟨o',uf,zf⟩:=hl o ho;exact⟨o',v,uf,zf.trans hd⟩
def Cu.cell {h h':bM}(hl:∀o,∀J:h.get? c=aa o,Cu h' c o)(x:h.IsCell c v):h'.IsCell c v:=by refine oG x λo ho hd=> ?_;obtain⟨o',uf,zf⟩:=hl o ho;exact⟨o',uf,zf.trans hd⟩
def NsR.there (x:NsR Γ ρ h L loc):∃o,h.get? L=aa o:=by obtain⟨_,⟨o,_,_,ho,_⟩,_⟩:=x;exact⟨o,ho⟩
def NsR.sG (x:NsR Γ ρ h L loc)(hl:∀o,∀J:h.get? L=aa o,Cu h' L o)(hv:∀v u,∀J:VR Γ ρ h v u,VR Γ fK h' v u):NsR Γ fK h' L loc:=by obtain⟨m,hn,hl'⟩:=x;exact⟨m,Cu.ns hl hn,λx v e=>(hl' x v e).imp λu q=>⟨q.1,hv v u q.2⟩⟩
def Cq.sG (y:Cq Γ ρ h cs x v)(hl:∀c o,∀J:cs.lookup x=aa c,∀J:h.get? c=aa o,Cu h' c o)(hv:∀v u,∀J:VR Γ ρ h v u,VR Γ fK h' v u):Cq Γ fK h' cs x v:=by obtain⟨c,u,hc,ho,hr⟩:=y;exact⟨c,u,hc,Cu.cell (hl c · hc) ho,hv v u hr⟩
theorem FR.sG (F:FR Γ l ρ h env loc cX)(hl:∀L o,∀J:L∉ρ.flatten,∀J:L∉Γ.tabs,∀J:h.get? L=aa o,Cu h' L o∧L∉fK.flatten)(hv:∀v u,∀J:VR Γ ρ h v u,VR Γ fK h' v u):FR Γ l fK h' env loc cX:=
 ⟨λe he=>(F.uc e he).sG hl,F.ns.sG (λo e=>(hl _ o F.wH F.xJ e).1) hv,λx v e=>(F.cells x v e).sG (λc o hc e=>(hl c o (F.xH x c hc) (F.sU x c hc) e).1) hv,F.ns.there.elim λo e=>(hl _ o F.wH F.xJ e).2,λx c e=>(F.oH x c e).casesOn λo U ho U=>(hl c o (F.xH x c e) (F.sU x c e) ho).2,F.xJ,F.sU,F.Ac,F.vR,λx c e=>(F.oH x c e).sG λo ho=>(hl c o (F.xH x c e) (F.sU x c e) ho).1,F.apart,F.neL,F.Fp⟩
def Ext.sG (x:Ext Γ FS (Wr Γ lk ρ) ρ s fK s')(L:aV)(o:ou)(h1:L∉ρ.flatten)(h2:L∉Γ.tabs)(e:s.heap.get? L=aa o):Cu s'.heap L o∧L∉fK.flatten:=⟨x.data h1 h2 e,x.Ua h1 e⟩
def H8.ext (K:H8 Γ l ρ s.heap)(x:Ext Γ FS (Wr Γ lk ρ) ρ s fK s'):H8 Γ l fK s'.heap:=λe he=>(K e he).sG x.sG
theorem FR.ext (F:FR Γ l ρ s.heap env loc cX)(x:Ext Γ FS (Wr Γ lk ρ) ρ s fK s'):FR Γ l fK s'.heap env loc cX:=F.sG x.sG λU U h=>h.ext x
end
end
section
section
variable {Γ:Cx}{ρ fK:fj}{H:Hp}{s s':aW}{h h':bM}{r:List aV}{mo mo':m6}{i:Nat}{FS:List aV}{W:aV->Prop}{lk:List Nat}
def aL3 (nd:ρ.flatten.Nodup)(hi:ρ[i]?=aa r)(hj:ρ[j]?=aa r')(ne:i≠j)(hb:b∈r)(hb':b∈r'):False:=by have h2:=List.pairwise_iff_getElem.mp (List.pairwise_flatten.mp nd).2;obtain⟨li,e1⟩:=aL.mp hi;obtain⟨lj,e2⟩:=aL.mp hj;exact(Nat.lt_or_gt_of_ne ne).elim (λq=>h2 i j li lj q b (e1▸hb) b (e2▸hb') rfl) λq=>h2 j i lj li q b (e2▸hb') b (e1▸hb) rfl
inductive V2 (h:bM)(b:aV):Prop
 | mk (o:ou) (ho:h.get? b=aa o) (hm:M3 o):V2 h b
def mk1 (hb:b∈ [a])(ha:h.get? a=aa o)(hm:M3 o):V2 h b:=⟨o,aH.mp hb▸ha,hm⟩
def mk2 (hb:b∈ [a,d])(ha:h.get? a=aa o)(hm:M3 o)(hd:h.get? d=aa od)(Rg:M3 od):V2 h b:=(bc.mp hb).elim (λq=>⟨o,q▸ha,hm⟩) λq=>mk1 q hd Rg
theorem OR.a7o:∀{mo:m6}{r:List aV},∀J:OR Γ ρ h mo r,∀J:b∈r,V2 h b
 | .list _,_,.mk _ _ _ ha _ _,hb=>mk1 hb ha (.inl rfl)
 | .inst c _,_,.mk _ _ _ _ ha hd _ _ _,hb=>mk2 hb ha (.inr (.inl ⟨c,rfl⟩)) hd (.inr (.inr (.inl rfl)))
 | .acc c _ _,_,.mk _ _ _ _ _ _ ha hd _ _ _ _ _,hb=>mk2 hb ha (.inr (.inl ⟨c,rfl⟩)) hd (.inr (.inr (.inl rfl)))
 | .vD,_,.mk _ _ hd,hb=>mk1 hb hd (.inr (.inr (.inl rfl)))
inductive apy (Γ:Cx)(ρ:fj)(h:bM)(i:Nat)(o:m6):Prop
 | mk (r:List aV) (hr:ρ[i]?=aa r) (om:OR Γ ρ h o r):apy Γ ρ h i o
def SR.at_ (S:SR Γ ρ H s)(hi:H[i]?=aa mo):apy Γ ρ s.heap i mo:=(S.objs i mo hi).elim λr q=>⟨r,q.1,q.2⟩
def SR.or (S:SR Γ ρ H s)(hi:H[i]?=aa mo)(hr:ρ[i]?=aa r):OR Γ ρ s.heap mo r:=(S.objs i mo hi).elim λU q=>(ak (hr.symm.trans q.1))▸q.2
def SR.live (S:SR Γ ρ H s)(hb:b∈ρ.flatten):V2 s.heap b:=by refine oG (cM.mp hb) λr hr hb=> ?_;obtain⟨i,hi,e⟩:=List.getElem_of_mem hr;exact(S.or (bU (S.len▸hi)) ((bU hi).trans (congrArg aa e))).a7o hb
def ai8 {α:Type}{l:List α}{a:α}{n:Nat}(h:l.length=n):(l++ [a])[n]?=aa a:=by subst h;simp
def aX4 {α:Type}{l:List α}{a b:α}(e:(l++ [a])[i]?=aa b):l[i]?=aa b∨(i=l.length∧b=a):=by
 rcases Nat.lt_or_ge i l.length with hi | hi
 ·exact .inl ((gC hi).symm.trans e)
 ·rw[dN hi]at e
  have h2:=Nat.lt_one_iff.mp ((aL.mp e).1);simp only[h2]at e;exact .inr ⟨jC (uN h2) hi,(ak e).symm⟩
def SR.Mh (S:SR Γ ρ H s)(kp:∀b o,∀J:b∈Γ.tabs,∀J:s.heap.get? b=aa o,s'.heap.get? b=aa o)(im:∀b o,∀J:s.heap.get? b=aa o,∀J:¬M3 o,s'.heap.get? b=aa o):Γ.tabsOk s'.heap:=
 Γ.vQ _ _ (λt ht=>(Γ.nT _ S.tabs t ht).elim λo q=>(kp t o ht q.1).trans q.1.symm) im S.tabs
def SR.ug (S:SR Γ ρ H s)(kp:∀b o,∀J:s.heap.get? b=aa o,s'.heap.get? b=aa o)(fr:∀b∈r,s.heap.get? b=aB)(rn:r.Nodup)(x:OR Γ (ρ++ [r]) s'.heap mo r)(hg:s'.gens=s.gens:=by rfl):SR Γ (ρ++ [r]) (H++ [mo]) s':=by
 have fl:(ρ++ [r]).flatten=ρ.flatten++r:=by simp
 have g:I2 ρ s.heap (ρ++ [r]):=⟨[r],rfl,λb hb=>fr b (by simpa using hb)⟩;have new:∀{b},∀J:b∈r,∀{o},s.heap.get? b≠aa o:=λhb U e=>iz ((fr _ hb).symm.trans e);refine⟨by refine aO az (aO az (aO S.len ?_));rfl, ?_,λi o e=> ?_,λb o e=>kp b o (S.base b o e),λb hb=> ?_,λb hb=> ?_,hg▸S.gens,S.Mh (λb o U e=>kp b o e) (λb o e U=>kp b o e)⟩
 ·rw[fl,adq]
  exact⟨S.nodup,rn,λa ha b hb q=>(S.live ha).casesOn λU ho U=>new (q▸hb) ho⟩
 ·rcases aX4 e with e | ⟨e,q⟩
  ·exact(S.objs i o e).imp λr' q=>⟨g.get q.1,q.2.mono g (λb o e U=>kp b o e) λb U o e=>kp b o e⟩
  ·exact⟨r,e▸ai8 S.len,q▸x⟩
 ·rw[fl,bI]at hb
  refine hb.elim (S.apart b) λhb=> ?_;cases q:Γ.g0.get? b with
  | none=>rfl
  | some o=>exact(new hb (S.base b o q)).elim
 ·rw[fl,bI]at hb
  exact hb.elim (S.mz b) λhb ht=>(Γ.nT _ S.tabs b ht).elim λo q=>new hb q.1
def Ext.ug (kp:∀b o,∀J:s.heap.get? b=aa o,s'.heap.get? b=aa o)(fr:∀b∈r,s.heap.get? b=aB)(ho:s'.os=s.os:=by rfl)(hd:s'.drawn=s.drawn:=by rfl):Ext Γ FS W ρ s (ρ++ [r]) s':=
 ⟨⟨[r],rfl,λb hb=>fr b (by simpa using hb)⟩,.of_keeps kp,λb o e=>⟨o,kp b o e⟩,ho,hd⟩
def SR.keeps (S:SR Γ ρ H s)(kp:∀b o,∀J:s.heap.get? b=aa o,s'.heap.get? b=aa o)(hg:s'.gens=s.gens:=by rfl):SR Γ ρ H s':=
 ⟨S.len,S.nodup,λi o e=>(S.objs i o e).imp λU q=>⟨q.1,q.2.mono (I2.refl ρ s.heap) (λb o e U=>kp b o e) λb U o e=>kp b o e⟩,λb o e=>kp b o (S.base b o e),S.apart,S.mz,hg▸S.gens,S.Mh (λb o U e=>kp b o e) λb o e U=>kp b o e⟩
def Ext.keeps (kp:∀b o,∀J:s.heap.get? b=aa o,s'.heap.get? b=aa o)(ho:s'.os=s.os:=by rfl)(hd:s'.drawn=s.drawn:=by rfl):Ext Γ FS W ρ s ρ s':=
 ⟨.refl _ _,.of_keeps kp,λb o e=>⟨o,kp b o e⟩,ho,hd⟩
def OR.vG (om:OR Γ ρ h mo r)(kp:∀b o,∀J:b∉r,∀J:h.get? b=aa o,h'.get? b=aa o)(b:aV)(o:ou)(e:h.get? b=aa o)(n:¬M3 o):h'.get? b=aa o:=
 kp b o (λhb=>(om.a7o hb).casesOn λU ho hm=>n (ak (ho.symm.trans e)▸hm)) e
def SR.Fq (S:SR Γ ρ H s)(hi:H[i]?=aa mo)(hr:ρ[i]?=aa r)(kp:∀b o,∀J:b∉r,∀J:s.heap.get? b=aa o,s'.heap.get? b=aa o)(x:OR Γ ρ s'.heap mo' r)(hg:s'.gens=s.gens:=by rfl):SR Γ ρ (H.set i mo') s':=by
 have im:=(S.or hi hr).vG kp;have mem:∀b∈r,b∈ρ.flatten:=λb hb=>cM.mpr ⟨r,bV hr,hb⟩;refine⟨aO cY (aO S.len rfl),S.nodup,λj o e=> ?_,λb o e=>kp b o (λhb=>iz ((S.apart b (mem b hb)).symm.trans e)) (S.base b o e),S.apart,S.mz,hg▸S.gens,S.Mh (λb o hb e=>kp b o (λq=>S.mz b (mem b q) hb) e) im⟩;by_cases hj:i=j
 ·subst hj
  rw[gW (aL.mp hi).1]at e;exact⟨r,hr,ak e▸x⟩
 ·rw[gk hj]at e
  exact(S.objs j o e).imp λr' q=>⟨q.1,q.2.mono (I2.refl ρ s.heap) im λb hb o e=>kp b o (λhb'=>aL3 S.nodup hr q.1 hj hb' hb) e⟩
def Ext.Fq (S:SR Γ ρ H s)(hi:H[i]?=aa mo)(hr:ρ[i]?=aa r)(hl:i∉lk)(kp:∀b o,∀J:b∉r,∀J:s.heap.get? b=aa o,s'.heap.get? b=aa o)(lv:∀b∈r,∃o,s'.heap.get? b=aa o)(ho:s'.os=s.os:=by rfl)(hd:s'.drawn=s.drawn:=by rfl):Ext Γ FS (Wr Γ lk ρ) ρ s ρ s':=by
 have wr:∀b∈r,Wr Γ lk ρ b:=λb hb=> .inr ⟨i,r,hr,hb,hl⟩;refine⟨.refl _ _,⟨(S.or hi hr).vG kp,λb o e n U=>kp b o (λhb=>n (wr b hb)) e,λb o e n U=>⟨o.slots,kp b o (λhb=>n (wr b hb)) e⟩⟩,λb o e=> ?_,ho,hd⟩;by_cases hb:b∈r
 ·exact lv b hb
 ·exact⟨o,kp b o hb e⟩
def N5 (h:bM):h.get? h.objs.size=aB:=gQ (aN _)
def N6 (h:bM)(o:ou):∀b x,∀J:h.get? b=aa x,(h.push o).get? b=aa x:=λU U e=>aZ _ e
def ag6 (h:bM):∀b∈ [h.objs.size],h.get? b=aB:=λb hb=>aH.mp hb▸N5 h
def aD7 (ρ:fj)(h:bM):I2 ρ h (ρ++ [[h.objs.size]]):=⟨_,rfl,λb hb=>ag6 h b (by simpa using hb)⟩
def gD.nil (x:gD Γ ρ h [] us):us= []:=x
theorem gD.length:∀{l:List V}{us:List aD},∀J:gD Γ ρ h l us,us.length=l.length:=by
 intro zz
 induction zz with
 | nil=>
  intro _ x;exact congrArg Lh x.nil
 | cons _ _ ih=>
  rintro _ ⟨_,_,_,hs⟩;exact congrArg tK (ih hs)
end
section
variable {Γ:Cx}{l:List fP}{lk:List Nat}{A:bO}{ρ:fj}{H:Hp}{s:aW}{α β:Type}{R:fj->bM->α->β->Prop}{Q:PQ aD}{E:PQ aD}{vs:List V}{us:List aD}{t:Sem aD}
def aw9 (S:SR Γ ρ H s)(hv:gD Γ ρ s.heap vs us)(hz:vs.length≤16777216)(P:Q7 Γ l lk ρ s (.ok (.ref H.length)) (H++ [.list vs]) (u6 Γ) Q E):Q (.ref s.heap.objs.size) {s with heap:=s.heap.push {cls:= .type "list",data:= .seq us.toArray}}:=
 have kp:=N6 s.heap {cls:= .type "list",data:= .seq us.toArray}
 P (ρ++ [[s.heap.objs.size]]) _ _ (Ext.ug kp (ag6 _)) (S.ug kp (ag6 _) (by simp) ⟨_,us.toArray,0,bx _ rfl,hv.mono (aD7 ρ _) λb o e U=>kp b o e,hz⟩) ⟨_, [],ai8 S.len⟩
def Ub (S:SR Γ ρ H s)(hv:gD Γ ρ s.heap vs us)(P:Q7 Γ l lk ρ s (.ok (.tup vs)) H (u6 Γ) Q E):Q (.ref s.heap.objs.size) {s with heap:=s.heap.push {cls:= .type "tuple",data:= .seq us.toArray}}:=
 have kp:=N6 s.heap {cls:= .type "tuple",data:= .seq us.toArray}
 P ρ _ _ (Ext.keeps kp) (S.keeps kp) ⟨_,us.toArray,0,bx _ rfl,hv.mono (I2.refl ρ s.heap) λb o e U=>kp b o e⟩
theorem iY.alloc (S:SR Γ ρ H s)(hv:gD Γ ρ s.heap vs us)(hz:vs.length≤16777216)(h:∀Q E,∀J:Q (.ref s.heap.objs.size) {s with heap:=s.heap.push {cls:= .type "list",data:= .seq us.toArray}},aP Γ.M A t Q E s):iY Γ l lk A ρ s (alloc H (.list vs)) t (u6 Γ):=
 .ok λQ E P=>h Q E (aw9 S hv hz P)
theorem iY.put {t:Sem β}(h:∀J:i∉lk,∀Q E,∀J:Q7 Γ l lk ρ s (.ok a) (H.set i o) R Q E,aP Γ.M A t Q E s):iY Γ l lk A ρ s (put lk H i o a) t R:=
 .fu λhn=> .ok (h (by simpa using hn))
end
section
variable {Γ:Cx}{ρ:fj}{H:Hp}{s:aW}{h:bM}{v:V}{u:aD}
def t7 {α:Type}{a:α}{C:Prop}(h:(aB:Option α)=aa a):C:=iz h
def Y9 {α β:Type}{o:Option α}{f:α->Option β}{b:β}(e:opt o f=aa b):∃a,o=aa a∧f a=aa b:=by
 cases o with
 | none=>exact t7 e
 | some a=>exact⟨a,rfl,e⟩
def J9 {β:Type}{c:Bool}{r:Option β}{b:β}(e:fu c r=aa b):c=au∧r=aa b:=by
 cases c with
 | false=>exact t7 e
 | true=>exact⟨rfl,e⟩
def j5 {α β:Type}{o:Option α}{f:α->Option β}{b:β}{C:Prop}(e:opt o f=aa b)(k:∀a,∀J:o=aa a,∀J:f a=aa b,C):C:=(Y9 e).elim λa h=>k a h.1 h.2
def I3 {β:Type}{c:Bool}{r:Option β}{b:β}{C:Prop}(e:fu c r=aa b)(k:∀J:c=au,∀J:r=aa b,C):C:=k (J9 e).1 (J9 e).2
def aL4 (e:intOf v=aa i):v= .int i:=by
 cases v with
 | int j=>exact congrArg V.int (ak e)
 | _=>exact t7 e
def ap9 (e:strOf v=aa i):v= .str i:=by
 cases v with
 | str j=>exact congrArg V.str (ak e)
 | _=>exact t7 e
def aL5 (e:yo v=aa l):v= .tup l:=by
 cases v with
 | tup j=>exact congrArg V.tup (ak e)
 | _=>exact t7 e
def Uc (e:Ey v=aa w):v= .gl w:=by
 cases v with
 | gl j=>exact congrArg V.gl (ak e)
 | _=>exact t7 e
theorem VR.intOf (x:VR Γ ρ h v u)(e:intOf v=aa i):LR i u:=(aL4 e▸x:VR Γ ρ h (.int i) u)
theorem VR.strOf (x:VR Γ ρ h v u)(e:strOf v=aa i):Ma i u:=(ap9 e▸x:VR Γ ρ h (.str i) u)
theorem VR.yo (x:VR Γ ρ h v u)(e:yo v=aa l):Mf h (gD Γ ρ h l) u:=(aL5 e▸x:VR Γ ρ h (.tup l) u)
theorem VR.Ey (x:VR Γ ρ h v u)(e:Ey v=aa w):u=w:=(Uc e▸x:VR Γ ρ h (.gl w) u)
inductive Y0 (Γ:Cx)(ρ:fj)(H:Hp)(h:bM)(i:Nat)(l:List V):aD->Prop
 | mk (a:aV) (xs:Array aD) (n:Nat) (hi:H[i]?=aa (.list l)) (hr:ρ[i]?=aa [a]) (ha:h.get? a=aa (listOf xs n)) (hs:gD Γ ρ h l xs.toList) (hz:l.length≤16777216):Y0 Γ ρ H h i l (.ref a)
inductive au0 (Γ:Cx)(ρ:fj)(H:Hp)(h:bM)(i:Nat)(c:aV)(d:j7):aD->Prop
 | mk (a dx:aV) (es:List iK) (n:Nat) (hi:H[i]?=aa (.inst c d)) (hr:ρ[i]?=aa [a,dx]) (ha:h.get? a=aa (instObj c dx)) (hd:h.get? dx=aa (iD es n)) (pB:DR Γ ρ h d es) (tG:(Γ.G.bW c "__init__").isSome=au) (hc:c≠Γ.G.gh):au0 Γ ρ H h i c d (.ref a)
inductive Ad (Γ:Cx)(ρ:fj)(H:Hp)(h:bM)(i:Nat)(c:aV)(d:j7)(l:List V):aD->Prop
 | mk (a dx:aV) (es:List iK) (n:Nat) (xs:Array aD) (k:Nat) (hi:H[i]?=aa (.acc c d l)) (hr:ρ[i]?=aa [a,dx]) (ha:h.get? a=aa {cls:= .ref Γ.G.gh,dict:=aa dx,data:= .seq xs k}) (hd:h.get? dx=aa (iD es n)) (pB:DR Γ ρ h d es) (hs:gD Γ ρ h l xs.toList) (hz:l.length≤16777216)
   (hc:c=Γ.G.gh) (tG:(Γ.G.bW Γ.G.gh "__init__").isSome=au):Ad Γ ρ H h i c d l (.ref a)
def an0 {i:Nat}(e:ρ[i]?=aa (a::r))(e':ρ[i]?=aa (b::r')):a=b:=(bL (ak (e.symm.trans e'))).1
theorem VR.list (x:VR Γ ρ s.heap (.ref i) u)(S:SR Γ ρ H s)(hi:H[i]?=aa (.list l)):Y0 Γ ρ H s.heap i l u:=by obtain⟨b,r,e⟩:=x;obtain⟨r',hr,⟨a,xs,n,ha,hs,hz⟩⟩:=S.at_ hi;obtain rfl:=an0 e hr;exact⟨b,xs,n,hi,hr,ha,hs,hz⟩
theorem VR.inst (x:VR Γ ρ s.heap (.ref i) u)(S:SR Γ ρ H s)(hi:H[i]?=aa (.inst c d)):au0 Γ ρ H s.heap i c d u:=by obtain⟨b,r,e⟩:=x;obtain⟨r',hr,⟨a,dx,es,n,ha,hd,pB,h1,h2⟩⟩:=S.at_ hi;obtain rfl:=an0 e hr;exact⟨b,dx,es,n,hi,hr,ha,hd,pB,h1,h2⟩
theorem VR.acc (x:VR Γ ρ s.heap (.ref i) u)(S:SR Γ ρ H s)(hi:H[i]?=aa (.acc c d l)):Ad Γ ρ H s.heap i c d l u:=by obtain⟨b,r,e⟩:=x;obtain⟨r',hr,⟨a,dx,es,n,xs,k,ha,hd,pB,hs,hz,h1,h2⟩⟩:=S.at_ hi;obtain rfl:=an0 e hr;exact⟨b,dx,es,n,xs,k,hi,hr,h1▸ha,hd,pB,hs,hz,h1,h1▸h2⟩
def aq0 (e:refOf v=aa i):v= .ref i:=by
 cases v with
 | ref j=>exact congrArg V.ref (ak e)
 | _=>exact t7 e
def lst_inv (e:lst o=aa l):o= .list l:=by
 cases o with
 | list j=>exact congrArg m6.list (ak e)
 | _=>exact t7 e
def agi (e:ins o=aa p):o= .inst p.1 p.2:=by
 cases o with
 | inst c d=>exact ak e▸rfl
 | _=>exact t7 e
def Ud (e:a6h o=aa p):o= .acc p.1 p.2.1 p.2.2:=by
 cases o with
 | acc c d l=>exact ak e▸rfl
 | _=>exact t7 e
def ar5 {α:Type}{f:m6->Option α}{p:Nat×α}(e:(opt (refOf v) λi=>opt H[i]? λo=>opt (f o) λx=>aa (i,x))=aa p):∃o,v= .ref p.1∧H[p.1]?=aa o∧f o=aa p.2:=by refine j5 e λi e1 e=> ?_;refine j5 e λo e2 e=> ?_;refine j5 e λx e3 e=> ?_;obtain rfl:(i,x)=p:=ak e;exact⟨o,aq0 e1,e2,e3⟩
def aX5 (e:listAt H v=aa p):v= .ref p.1∧H[p.1]?=aa (.list p.2):=(ar5 e).elim λU q=>⟨q.1,lst_inv q.2.2▸q.2.1⟩
theorem VR.listAt (x:VR Γ ρ s.heap v u)(S:SR Γ ρ H s)(e:listAt H v=aa p):Y0 Γ ρ H s.heap p.1 p.2 u:=have q:=aX5 e;(q.1▸x:VR Γ ρ s.heap (.ref p.1) u).list S q.2
theorem VR.lE (x:VR Γ ρ s.heap v u)(S:SR Γ ρ H s)(e:lE H v=aa p):au0 Γ ρ H s.heap p.1 p.2.1 p.2.2 u:=(ar5 e).elim λU q=>(q.1▸x:VR Γ ρ s.heap (.ref p.1) u).inst S (agi q.2.2▸q.2.1)
theorem VR.sS (x:VR Γ ρ s.heap v u)(S:SR Γ ρ H s)(e:sS H v=aa p):Ad Γ ρ H s.heap p.1 p.2.1 p.2.2.1 p.2.2.2 u:=(ar5 e).elim λU q=>(q.1▸x:VR Γ ρ s.heap (.ref p.1) u).acc S (Ud q.2.2▸q.2.1)
end
end
section
section
variable {Γ:Cx}{l:List fP}{lk:List Nat}{A:bO}{ρ:fj}{H:Hp}{s:aW}{h:bM}{a b:V}{u v:aD}
def M7 {a:aV}(e:h.get? a=aa (listOf xs n)):h.IsList a xs:=⟨_,e,rfl,n,rfl⟩
def an8 {a:aV}(e:h.get? a=aa {cls:= .type "tuple",data:= .seq xs n}):h.IsTuple a xs:=⟨_,e,rfl,n,rfl⟩
theorem gD.append:∀{l m:List V}{us vs:List aD},∀J:gD Γ ρ h l us,∀J:gD Γ ρ h m vs,gD Γ ρ h (l++m) (us++vs):=by
 intro zz;cases zz with
 | nil=>
  intro _ _ _ x y;refine aO x.nil ?_;exact y
 | cons _ _=>
  rintro _ _ _ ⟨_,_,hv,hs⟩ y;exact .mk _ _ hv (hs.append y)
theorem gD.rep {l:List V}(x:gD Γ ρ h l us):∀j:Nat,gD Γ ρ h (dj j l).flatten (dj j us).flatten:=by
 intro zz;cases zz with
 | zero=>
  exact rfl
 | succ j=>
  refine aO iZ (aO iZ (aO jD (aO jD ?_)));exact x.append (x.rep j)
theorem gD.size {l:List V}{xs:Array aD}(x:gD Γ ρ h l xs.toList):xs.size=l.length:=dR.symm.trans x.length
def aO6 {l b:aV}(ho:s.heap.get? l=aa (listOf vs n))(ho2:s.heap.get? b=aa (listOf ws n2))
  (h:Q (.ref s.heap.objs.size) {s with heap:=s.heap.push {cls:= .type "list",data:= .seq (vs++ws)}}) (Mi:vs.size+ws.size≤sJ):aP (iG prog w) A (mX .Add (.ref l) (.ref b)) Q E s:=
 concat_meets ⟨_,ho,rfl⟩ ⟨_,ho2,rfl⟩ noFill_list_add seq_list_add PySem.F.slot_list_add PySem.F.entry_list_add (PySem.F.args_list_add_2 _ _) (list_addW l b vs ws n n2 aB aB #[] #[] Mi) ⟨ho,ho2,h⟩
def aP6 {l:aV}{u:RG}
  (hl:s.heap.get? l=aa (listOf items k)) (hlo: -(2^63:Int)≤x) (hhi:x<2^63) (Mi:items.size*x.toNat≤2^24)
  (h:Q (.ref s.heap.objs.size) {s with heap:=s.heap.push {cls:= .type "list",data:= .seq (RK (λx1 x2=>x1++x2) #[] (dj (if items.isEmpty=au then 0 else x.toNat) items))}}):
  aP (iG prog w) A (mX .Mult (.ref l) (.int x u)) Q E s:=
 wpAny_binaryOp_repeat_ref (by decide) ⟨_,hl,rfl⟩ (λs'=>yJ s' x u) noFill_list_mul F.fills_int_mul F.slot_int_rmul repeat_list F.slot_int_index.lookup
  (oV F.slot_int_rmul (yJ s x u) F.entry_int_rmul (F.args_int_rmul_2 _ _) (int___rmul___int_list x u l items k)
   ⟨hl,rfl,⟨_,hl,rfl⟩,oV F.slot_list_mul ⟨_,hl,rfl⟩ F.entry_list_mul (F.args_list_mul_2 _ _)
    (AutoListH.list___mul___list_int_3 l items k x u (by simp [eQ];exact⟨hlo,hhi⟩) (by lia) (by simp [xj,sJ];assumption))
    ⟨hl,h⟩⟩)
def aL6 {α:Type}(x:Array α):∀j acc,(RK (λx1 x2=>x1++x2) acc (dj j x)).toList=acc.toList++(dj j x.toList).flatten:=by
 intro zz
 induction zz with
 | zero=>
  intro acc;simp
 | succ j ih=>
  intro acc;simp only[iZ,aoj,ih,iZ,jD,dC,aQ]
def agj (h0:0≤n):Txt.mul x n=toS (rep x.cps.toList n):=by
 unfold Txt.mul toS rep;by_cases h1:n<1
 ·have:n=0:=by lia
  subst this;simp [yI]
 ·rw[bk h1]
  by_cases h2:(n==1 || x.length==0)=au
  ·rw[bN h2]
   rcases fY.mp h2 with q | q
   ·have:n=1:=by simpa using q
    subst this;cases x;simp
   ·have:x.cps.size=0:=by simpa [wL] using q
    obtain⟨c⟩:=x;have hc:=Array.eq_empty_of_size_eq_zero this;subst hc;simp
  ·rw[bk h2]
   congr 1
   apply Array.ext';rw[aL6];simp
def I5 (h:room n=au):n≤16777216:=gH h
def j8 {a b:Bool}(h:(a&&b)=au):a=au∧b=au:=(fX _ _).mp h
def agk {n:Nat}(h:n≤16777216):(n:Int)<2^63:=jj (fM.mpr h) (by decide)
def d8 {a b:Bool}(h:(a&&b)=au):a=au:=(j8 h).1
def m8 {a b:Bool}(h:(a&&b)=au):b=au:=(j8 h).2
def ab3 (h:small i=au): -9223372036854775808≤i∧i<9223372036854775808:=⟨gH (d8 h),gH (m8 h)⟩
def Ue (h:few i=au):0≤i∧i≤1000000:=⟨gH (d8 h),gH (m8 h)⟩
def aI7 {v:V}(h:mkS x=aa v):v= .str x∧x.length≤16777216:=⟨(ak (J9 h).2).symm,I5 (J9 h).1⟩
def aJ.qy (x y:aJ):(x.append y).length=x.length+y.length:=wM
def aI8 (h:∀J:x.length≤16777216,∀Q E,∀J:(∀tk Ae,Q (.str x tk) {s with toks:=Ae}),aP Γ.M A t Q E s)(S:SR Γ ρ H s):iY Γ l lk A ρ s (opt (mkS x) λv=>Mine.Internal.ok v H) t (u6 Γ):=
 .opt λw hw=> .ok λQ E P=>h (aI7 hw).2 Q E λtk Ae=>P.ok S (aO ((aI7 hw).1) (.mk tk))
def ai9 (S:SR Γ ρ H s)(h:∀Q E,∀J:(∀tk Ae,Q (.int i tk) {s with toks:=Ae}),aP Γ.M A t Q E s):iY Γ l lk A ρ s (aa (.ok (.int i),H)) t (u6 Γ):= .ok λQ E P=>h Q E λU U=>P.ok S (.mk _)
def agl (S:SR Γ ρ H s):iY Γ l lk A ρ s (opt (mkS (x.append y)) λv=>Mine.Internal.ok v H) (mX .Add (.str x t) (.str y t')) (u6 Γ):=
 aI8 (λhz Q E h=>add_str (λt' tk=>h t' tk) (by rw[aJ.qy]at hz;exact hz)) S
def af6 (S:SR Γ ρ H s)(hx:Y0 Γ ρ H s.heap i xs u)(hy:Y0 Γ ρ H s.heap j ys v)(hr:xs.length+ys.length≤16777216):iY Γ l lk A ρ s (Mine.Internal.alloc H (.list (xs++ys))) (mX .Add u v) (u6 Γ):=by obtain⟨a1,us,n1,e1,r1,g1,v1,z1⟩:=hx;obtain⟨a2,vs,n2,e2,r2,g2,v2,z2⟩:=hy;refine .alloc S (v1.append v2) (aO az hr) λQ E h=>aO6 g1 g2 ?_ (by refine aO v1.size (aO v2.size ?_);exact hr);rw[←dC,uO]at h;exact h
def agm (S:SR Γ ρ H s)(hx:VR Γ ρ s.heap a u)(hy:VR Γ ρ s.heap b v):iY Γ l lk A ρ s (a6k H a b) (mX .Add u v) (u6 Γ):=by
 cases a with
 | int x=>
  refine .opt λy e=> ?_;obtain⟨t⟩:=(show LR x u from hx);obtain⟨t'⟩:=hy.intOf e;exact ai9 S λQ E h=>add_int (h _ _)
 | str x=>
  refine .opt λy e=> ?_;obtain⟨t⟩:=(show Ma x u from hx);obtain⟨t'⟩:=hy.strOf e;exact agl S
 | ref i=>exact .opt λp e=> .opt λq e'=> .fu λhr=>af6 S (hx.listAt S e) (hy.listAt S e') (I5 hr)
 | _=>exact .none
def agn (S:SR Γ ρ H s)(h:(few n&&room (x.length*n.toNat))=au):iY Γ l lk A ρ s (Mine.Internal.ok (.str (toS (rep x.cps.toList n))) H) (mX .Mult (.str x t) (.int n t')) (u6 Γ):=by
 refine tL (λh0 h1=> ?_) (Ue (d8 h));have h2:=I5 (m8 h);refine .ok λQ E P=>SB.mul ⟨by simp;lia,λhn U=> ?_,λhn U=> ?_⟩ λt' k=>P.ok S (aO (agj h0) (.mk t'))
 ·have hle:=aq (Nat.le_mul_of_pos_right _ (by omega)) h2
  have:(x.length:Int)≤(2^63-1)/n:=by
   apply Int.le_ediv_of_mul_le (by omega);have:((x.length*n.toNat:Nat):Int)=(x.length:Int)*n:=by simp only[Int.natCast_mul,qK h0]
   lia
  lia
 ·show decide (_>sJ)=aC
  simp [sJ];lia
def ago (S:SR Γ ρ H s)(hx:Y0 Γ ρ H s.heap i xs u)(h:(few n&&room (xs.length*n.toNat))=au):iY Γ l lk A ρ s (Mine.Internal.alloc H (.list (rep xs n))) (mX .Mult u (.int n t)) (u6 Γ):=by
 refine tL (λh0 h1=> ?_) (Ue (d8 h));have h2:=I5 (m8 h);obtain⟨a1,us,n1,e1,r1,g1,v1,z1⟩:=hx;have hl:(rep xs n).length≤16777216:=by refine aO List.length_flatten (aO List.map_replicate (aO List.sum_replicate_nat ?_));rw[Nat.mul_comm];exact h2
 refine .alloc S (v1.rep _) hl λQ E h=>aP6 g1 (by lia) (by lia) (aO v1.size h2) ?_;have:(RK (λx1 x2=>x1++x2) #[] (dj (if us.isEmpty=au then 0 else n.toNat) us))=(dj n.toNat us.toList).flatten.toArray:=by
  apply Array.ext';simp only[aL6];by_cases q:us.isEmpty=au
  ·have:us= #[]:=by simpa using q
   subst this;simp
  ·refine aO (bk q) ?_;simp
 refine aO this ?_;exact h
def agp (S:SR Γ ρ H s)(hx:VR Γ ρ s.heap a u)(hy:VR Γ ρ s.heap b v):iY Γ l lk A ρ s (a6l H a b) (mX .Mult u v) (u6 Γ):=by
 cases a with
 | int x=>
  refine .opt λy e=> .fu λhs=> ?_;obtain⟨t⟩:=(show LR x u from hx);obtain⟨t'⟩:=hy.intOf e;have h1:=ab3 (d8 hs);exact ai9 S λQ E h=>mul_int (h _ _) (IntMulOk.of_left (intBits_le_64 (by lia) (by lia)))
 | str x=>
  refine .opt λy e=> .fu λhs=> ?_;obtain⟨t⟩:=(show Ma x u from hx);obtain⟨t'⟩:=hy.intOf e;exact agn S hs
 | ref i=>
  refine .opt λp e=> .opt λn e'=> .fu λhr=> ?_;obtain⟨t'⟩:=hy.intOf e';exact ago S (hx.listAt S e) hr
 | _=>exact .none
def aP7 {f:Int->Int->Out V}{t:Sem aD}(hx:VR Γ ρ s.heap a u)(hy:VR Γ ρ s.heap b v)(h:∀x y t t',iY Γ l lk A ρ s (f x y) (mX op (.int x t) (.int y t')) (u6 Γ)):iY Γ l lk A ρ s (opt (Mine.Internal.intOf a) λx=>opt (Mine.Internal.intOf b) λy=>f x y) (mX op u v) (u6 Γ):=by refine .opt λx e=> .opt λy e'=> ?_;obtain⟨t⟩:=hx.intOf e;obtain⟨t'⟩:=hy.intOf e';exact h x y t t'
set_option maxHeartbeats 4000000 in
def Mj {t tx ty:RG}{b:aV}(hx:x.length≤1000000)(hy:y.length≤1000000):
  Meets (fB.«str.__mod__» ⟨[.str ⟨#[37,115,58,32,37,115]⟩ t,.ref b], []⟩) (λU R s=>IsTup s.heap b #[.str x tx,.str y ty]∧∀t' k,R (.ok (.ret (.str ((x++⟨#[58,32]⟩)++y) t'))) {s with toks:=k}):=by
 kpt_run
def Ug {v:V}(e:pairOf v=aa p):v= .tup [.str p.1,.str p.2]:=by
 refine j5 e λl e1 e=> ?_;rcases l with _ | ⟨a,_ | ⟨b,_ | ⟨c,r⟩⟩⟩
 ·exact t7 e
 ·exact t7 e
 ·refine j5 e λx e2 e=> ?_
  refine j5 e λy e3 e=> ?_;obtain rfl:(x,y)=p:=ak e;rw[aL5 e1,ap9 e2,ap9 e3]
 ·exact t7 e
def Uh (q:gD Γ ρ h [.str x,.str y] us):∃t t',us= [.str x t,.str y t']:=by obtain⟨_,_,⟨t⟩,⟨_,_,⟨t'⟩,rfl⟩⟩:=q;exact⟨t,t',rfl⟩
def agq (S:SR Γ ρ H s)(hy:VR Γ ρ s.heap b v)(e:pairOf b=aa p)(h1:p.1.length≤1000000)(h2:p.2.length≤1000000):iY Γ l lk A ρ s (Mine.Internal.ok (.str ((p.1++(": ":aJ))++p.2)) H) (mX .Mod (.str ("%s: %s":aJ) t) v) (u6 Γ):=by
 obtain rfl:=Ug e;obtain⟨b,vs,n,hb,iB⟩:=hy;obtain⟨t1,t2,q⟩:=Uh iB;have ev:=jc.mp q;subst ev;have hT:s.TypeIs (.ref b) "tuple":=⟨_,hb,rfl⟩;exact .ok λQ E P=>KPt.bin_left (by decide) (vm s _ t) hT PySem.F.fills_str_mod KPt.fills_tuple Dv
  (oV Dv (vm s _ t) PySem.F.entry_str_mod (PySem.F.args_str_mod_2 _ _) (Mj h1 h2) ⟨⟨_,hb,rfl,n,rfl⟩,λt' k=>⟨nofun,P.ok S (.mk t')⟩⟩)
def agr (S:SR Γ ρ H s)(hx:VR Γ ρ s.heap a u)(hy:VR Γ ρ s.heap b v):iY Γ l lk A ρ s (a6m H a b) (mX .Mod u v) (u6 Γ):=by
 cases a with
 | int x=>
  refine .opt λy e=> .fu λhb=> ?_;obtain⟨t⟩:=hx;obtain⟨t'⟩:=hy.intOf e;have h1:=gH hb;exact ai9 S λQ E h=>mod_int' (by lia) (h _ _)
 | str f=>
  refine .opt λp e=> .fu λhb=> ?_;obtain⟨t⟩:=hx;obtain rfl:=gH (d8 (d8 hb));exact agq S hy e (gH (m8 (d8 hb))) (gH (m8 hb))
 | _=>exact .none
def ags (S:SR Γ ρ H s)(hx:VR Γ ρ s.heap a u)(hy:VR Γ ρ s.heap b v):iY Γ l lk A ρ s (V0 H o a b) (mX o u v) (u6 Γ):=by
 cases o with
 | Add=>exact agm S hx hy
 | Mult=>exact agp S hx hy
 | Sub=>exact aP7 (t:=pure u) hx hy λx y t t'=>ai9 S λQ E h=>sub_int (h _ _)
 | FloorDiv=>exact aP7 (t:=pure u) hx hy λx y t t'=> .fu λhb=>ai9 S λQ E h=>
   have h1:=gH (d8 hb);have h2:=gH (m8 hb)
   floordiv_int (by lia) (h _ _) (.inl (PyProof.noPylong_small (by lia)))
 | Mod=>exact agr S hx hy
 | _=>exact .none
end
end
section
section
variable {Γ:Cx}{l:List fP}{lk:List Nat}{A:bO}{ρ:fj}{H:Hp}{s:aW}{h:bM}{a b:V}{u v:aD}
inductive RdV (h:bM)(j:Nat)(d:wK)(u:aD):Prop
 | mk (as:List aV) (r:Reads h u d as) (c:d.canLay0=au) (z:d.depth≤j):RdV h j d u
inductive Af (h:bM)(j:Nat)(ds:List wK)(us:List aD):Prop
 | mk (as:List aV) (r:ReadsAll h us ds as) (c:QK ds=au) (z:adt ds≤j):Af h j ds us
theorem Af.nil:Af h j [] []:=⟨[],.nil,by decide,by simp [adt]⟩
theorem Af.cons (x:RdV h j d u)(y:Af h j ds us):Af h j (d::ds) (u::us):=by obtain⟨as,r,c,z⟩:=x;obtain⟨bs,r',c',z'⟩:=y;exact⟨as++bs,.cons r r',by simp [QK,c,c'],Nat.max_le.mpr ⟨z,z'⟩⟩
def aO7 {α β:Type}{f:α->Option β}{a:α}{l:List α}{bs:List β}(h:(a::l).mapM f=aa bs):∃b r,f a=aa b∧l.mapM f=aa r∧bs=b::r:=by rw[oM]at h;exact oG (iM.mp h) λb h1 h=>(oG (iM.mp h) λr h2 h=>⟨b,r,h1,h2,(ak h).symm⟩)
def Ui (ih:∀v d u,∀J:R4 H j v=aa d,∀J:VR Γ ρ h v u,RdV h j d u):∀{l:List V}{ds:List wK}{us:List aD},∀J:l.mapM (R4 H j)=aa ds,∀J:gD Γ ρ h l us,Af h j ds us:=by
 intro zz
 induction zz with
 | nil=>
  intro _ _ e x;obtain rfl:=x.nil;cases e;exact .nil
 | cons v l ihr=>
  rintro _ _ e ⟨u,us,hv,hs⟩;obtain⟨d,r,e1,e2,rfl⟩:=aO7 e;exact .cons (ih v d u e1 hv) (ihr e2 hs)
def aj0 {α β:Type}{o:Option α}{f:α->β}{b:β}(e:o.map f=aa b):∃a,o=aa a∧f a=b:=cR.mp e
def Ml {l:List V}(x:Mf h (gD Γ ρ h l) u)(g:∀{us},∀J:gD Γ ρ h l us,Af h j ds us):RdV h (j+1) (.tuple ds) u:=by obtain⟨a,vs,n,ha,hs⟩:=x;obtain⟨as,r,c,z⟩:=g hs;exact⟨as,.tuple ha rfl rfl r,by simpa [yV] using c,by simp only[qp];exact dK (by assumption)⟩
def Mm {l:List V}(x:Y0 Γ ρ H h i l u)(g:∀{us},∀J:gD Γ ρ h l us,Af h j ds us):RdV h (j+1) (.list ds) u:=by obtain⟨a,xs,n,_,_,ha,hs,_⟩:=x;obtain⟨as,r,c,z⟩:=g hs;exact⟨a::as,.list ha rfl rfl r,by simpa [yV] using c,by simp only[qp];exact dK (by assumption)⟩
def au1 (S:SR Γ ρ H s):∀j v d u,∀J:R4 H j v=aa d,∀J:VR Γ ρ s.heap v u,RdV s.heap j d u:=by
 intro zz
 induction zz with
 | zero=>
  intro _ _ _ e _;exact t7 e
 | succ j ih=>
  intro v d u e x;cases v with
  | none=>obtain rfl:=ak e;obtain rfl:=x;exact⟨[],.none,rfl,by simp [qp]⟩
  | bool b=>obtain rfl:=ak e;obtain rfl:=x;exact⟨[],.bool b,rfl,by simp [qp]⟩
  | int i=>obtain rfl:=ak e;obtain⟨t⟩:=x;exact⟨[],.int i t,rfl,by simp [qp]⟩
  | str y=>
   refine I3 e λc e=> ?_;obtain rfl:=ak e;obtain⟨t⟩:=x;exact⟨[],.str y t,by simpa [yV] using c,by simp [qp]⟩
  | tup l=>
   obtain⟨ds,e1,rfl⟩:=aj0 e;exact Ml x λhs=>Ui (ih) e1 hs
  | ref i=>
   refine j5 e λo hi e=> ?_;refine j5 e λl hl e=> ?_;obtain⟨ds,e1,rfl⟩:=aj0 e;exact Mm (VR.list x S (lst_inv hl▸hi)) λhs=>Ui (ih) e1 hs
  | _=>exact t7 e
def aq1 (h1:d.canLay0=au)(h2:d.depth≤8):SeqAt.shaped d=au:=by delta SeqAt.shaped;simp only[h1,rY,decide_eq_true_eq];exact aq (by assumption) (by decide)
inductive Two (h:bM)(u v:aD)(b:Bool):Prop
 | mk (dx dy:wK) (x:RdV h 8 dx u) (y:RdV h 8 dy v) (e:km dx dy=b):Two h u v b
def Iv (S:SR Γ ρ H s)(e:eqP H a b=aa b')(hx:VR Γ ρ s.heap a u)(hy:VR Γ ρ s.heap b v):Two s.heap u v b':=j5 e λdx e1 e=>(j5 e λdy e2 e=>⟨dx,dy,au1 S 8 _ _ _ e1 hx,au1 S 8 _ _ _ e2 hy,ak e⟩)
structure aq2 (Γ:Cx):Prop where
 a7q:∀(l:List fP)(lk:List Nat)(A:bO)(H:Hp)(i:Nat)(c:aV)(d:j7)(xs:List V)(k:Int)(ρ:fj)(s:aW)(u:aD),∀J:jy A l 0,∀J:ag2 d xs=aa k,∀J:SR Γ ρ H s,∀J:Ad Γ ρ H s.heap i c d xs u,iY Γ l lk A ρ s (ok (k !=0) H) (vo u) Cr
 agu:∀(A:bO)(s:aW)(a:aV)(o:ou)(Q:PQ Bool)(E:PQ aD),∀J:s.heap.get? a=aa o,∀J:o.cls= .type "re.Match",∀J:(∀tk,Q au {s with toks:=tk}),aP Γ.M A (vo (.ref a)) Q E s
def aX6 (S:SR Γ ρ H s)(x:Y0 Γ ρ H s.heap i xs u):iY Γ l lk A ρ s (ok (!xs.isEmpty) H) (vo u) Cr:=by
 obtain⟨a',ys,n,hi,hr,ha,hs,hz⟩:=x;refine .ok λQ E P=>wpAny_truthy_list (M7 ha) (agk (aq (cN hs.size) hz)) (P.ok S ?_)
 congr 1
 rw[uq,Array.isEmpty_iff_size_eq_zero,List.isEmpty_iff_length_eq_zero,hs.size]
theorem truthy_str (S:SR Γ ρ H s)(hr:room x.length=au):iY Γ l lk A ρ s (ok (x.length !=0) H) (vo (.str x t)) Cr:=by refine .ok λQ E P=>PySem.P.truthy_str (rD.mpr (agk (I5 hr))) (P.ok S ?_);show((x.length:Int) !=0)=(x.length !=0);rw[uq];simp
def aX7 (pr:aq2 Γ)(ao:jy A l 0)(S:SR Γ ρ H s)(hv:VR Γ ρ s.heap (.ref i) u)(hi:H[i]?=aa o):iY Γ l lk A ρ s (opt (a6j o) λb=>ok b H) (vo u) Cr:=by
 cases o with
 | list l=>exact aX6 S (VR.list hv S hi)
 | acc c d xs=>
  exact .opt λb e=>(j5 e λk hk e=>(wj (ak e) (pr.a7q l lk A H i c d xs k ρ s u ao hk S (VR.acc hv S hi))))
 | _=>exact .none
def agv {α β γ:Type}{o:Option α}{f:α->Option β}{g:β->Option γ}:opt (opt o f) g=opt o λa=>opt (f a) g:=by cases o<;>rfl
def agw {α β:Type}{b:Bool}{o:Option α}{f:α->Option β}:opt (fu b o) f=fu b (opt o f):=by cases b<;>rfl
def am0 (pr:aq2 Γ)(ao:jy A l 0)(S:SR Γ ρ H s)(hv:VR Γ ρ s.heap a u):iY Γ l lk A ρ s (tru H a) (vo u) Cr:=by
 cases a with
 | none=>obtain rfl:=(show u=_ from hv);exact .ok λQ E P U U U=>P.ok S rfl
 | bool c=>obtain rfl:=hv;exact .ok λQ E P U U U=>P.ok S rfl
 | int i=>obtain⟨t⟩:=hv;exact .ok λQ E P=>PySem.P.truthy_int (P.ok S rfl)
 | str x=>
  obtain⟨t⟩:=hv;show iY _ _ _ _ _ _ (opt (fu (room x.length) (aa (x.length !=0))) λb=>ok b H) _ _;refine aO agw ?_;exact .fu λhr=>truthy_str S hr
 | mat=>obtain⟨a',o,ha,hc,_⟩:=hv;exact .ok λQ E P=>pr.agu A s a' o Q E ha hc λtk=>P.ok S rfl
 | ref i=>
  unfold tru U5;refine aO agv ?_;exact .opt λo hi=>aX7 pr ao S hv hi
 | _=>exact .none
def VR.yt (x:VR Γ ρ h a u)(e:isNone a=aa aC):u≠ .none:=by
 rintro rfl;cases a with
 | none=>cases e
 | gl w=>obtain rfl:=x;exact qI (J9 e).1
 | bool b=>cases x
 | int i=>cases x
 | str i=>cases x
 | tup l=>cases x
 | ref i=>cases x
 | exc c m=>cases x
 | BK k=>cases x
 | mat=>cases x
 | QZ i=>cases x
def Mp {b:Bool}(e:isNone a=aa b)(x:VR Γ ρ h a u):(u== .none)=b:=by
 cases b with
 | false=>simpa using x.yt e
 | true=>
  cases a with
  | none=>obtain rfl:=x;rfl
  | gl w=>exact qI (ak (J9 e).2)
  | _=>cases e
def aP8 (e:avi w=aa t):w= .type t:=by
 cases w with
 | type j=>exact congrArg jh (ak e)
 | _=>exact t7 e
def agx (e:apf a b=aa c)(hx:VR Γ ρ h a u)(hy:VR Γ ρ h b v):∃x y,u= .type x∧v= .type y∧c=decide (x=y):=j5 e λw e1 e=>(j5 e λx e2 e=>(j5 e λw' e3 e=>(j5 e λy e4 e=>⟨x,y,(hx.Ey e1).trans (aP8 e2),(hy.Ey e3).trans (aP8 e4),(ak e).symm⟩)))
def Uj (x y:String):(jh x==jh y)=decide (x=y):=by rw[uq,beq_iff_eq,decide_eq_true_eq];exact⟨λe=>Value.type.inj e,λe=>congrArg _ e⟩
def Uk (e:isP a b=aa c)(hx:VR Γ ρ s.heap a u)(hy:VR Γ ρ s.heap b v):(∀J:Q (.bool c) s,aP Γ.M A (lV .Is u v) Q E s)∧(∀J:Q (.bool (!c)) s,aP Γ.M A (lV .IsNot u v) Q E s):=by
 cases b with
 | none=>
  obtain rfl:=hy;obtain rfl:=Mp e hx;exact⟨λq=>is_none_gen q,λq=>isnot_none_gen q⟩
 | _=>
  obtain⟨x,y,rfl,rfl,rfl⟩:=agx e hx hy;rw[←Uj];exact⟨λq=>wpAny_is_plain rfl q,λq=>wpAny_isNot_plain rfl q⟩
def Ul (e:ltP a b=aa c)(hx:VR Γ ρ s.heap a u)(hy:VR Γ ρ s.heap b v)(q:Q (.bool c) s):aP Γ.M A (lV .Lt u v) Q E s∧aP Γ.M A (lV .Gt v u) Q E s:=by refine j5 e λx e1 e=> ?_;refine j5 e λy e2 e=> ?_;obtain rfl:=ak e;obtain⟨t⟩:=hx.intOf e1;obtain⟨t'⟩:=hy.intOf e2;exact⟨lt_int q,gt_int q⟩
def awu (e:leP a b=aa c)(hx:VR Γ ρ s.heap a u)(hy:VR Γ ρ s.heap b v)(q:Q (.bool c) s):aP Γ.M A (lV .LtE u v) Q E s:=by refine j5 e λx e1 e=> ?_;refine j5 e λy e2 e=> ?_;obtain rfl:=ak e;obtain⟨t⟩:=hx.intOf e1;obtain⟨t'⟩:=hy.intOf e2;exact le_int q
def agy {v:V}(e:apg v=aa c):v= .str ⟨#[c]⟩:=by
 refine j5 e λx e1 e=> ?_;obtain⟨⟨l⟩⟩:=x;rcases l with _ | ⟨d,_ | ⟨d',r⟩⟩
 ·exact t7 e
 ·exact ak e▸ap9 e1
 ·exact t7 e
def awv (e:inP a b=aa c)(hx:VR Γ ρ s.heap a u)(hy:VR Γ ρ s.heap b v)(q:Q (.bool c) s):aP Γ.M A (lV .In u v) Q E s:=by refine j5 e λx e1 e=> ?_;refine j5 e λy e2 e=> ?_;obtain rfl:=ak e;obtain⟨t⟩:=(agy e1▸hx:VR Γ ρ s.heap (.str ⟨#[x]⟩) u);obtain⟨t'⟩:=hy.strOf e2;refine in_str ?_;rw[StrLaws.found_one];simpa using q
def Mq (e:Sw d=aa ds):d= .list ds:=by
 cases d with
 | list j=>exact congrArg PyData.list (ak e)
 | _=>exact t7 e
def Mr (hu:A.units+400<vL)(S:SR Γ ρ H s)(e:SJ H a b=aa c)(hx:VR Γ ρ s.heap a u)(hy:VR Γ ρ s.heap b v)(q:Q (.bool c) s):aP Γ.M A (lV .NotIn u v) Q E s:=by refine j5 e λdy e1 e=> ?_;refine j5 e λds e2 e=> ?_;refine j5 e λdx e3 e=> ?_;obtain rfl:=ak e;obtain rfl:=Mq e2;obtain⟨as,r1,c1,z1⟩:=au1 S 8 _ _ _ e1 hy;obtain⟨bs,r2,c2,z2⟩:=au1 S 8 _ _ _ e3 hx;exact SeqAt.notIn_list_reads r1 r2 c1 c2 (bB (aq (bG (aq (tM _ _) z2) _) (show A.units+9≤A.units+400 from bG (by decide) _)) hu) q
def Um (hu:A.units+400<vL)(t:Two s.heap u v c):(∀J:Q (.bool c) s,aP Γ.M A (lV .Eq u v) Q E s)∧(∀J:Q (.bool (!c)) s,aP Γ.M A (lV .NotEq u v) Q E s):=by obtain⟨dx,dy,⟨as,r1,c1,z1⟩,⟨bs,r2,c2,z2⟩,rfl⟩:=t;exact⟨λq=>SeqAt.compareEq_shaped r1 r2 (aq1 c1 z1) (aq1 c2 z2) (by lia) q,λq=>SeqAt.compareNe_shaped r1 r2 (aq1 c1 z1) (aq1 c2 z2) (by lia) q⟩
def aww (ao:jy A l 0)(S:SR Γ ρ H s)(hx:VR Γ ρ s.heap a u)(hy:VR Γ ρ s.heap b v)(e:K7 H o a b=aa c)(q:Q (.bool c) s):aP Γ.M A (lV o u v) Q E s:=by
 have hu:A.units+400<vL:=by have:=ao.units;exact jF (by assumption)
 cases o with
 | Lt=>exact(Ul e hx hy q).1
 | Gt=>exact(Ul e hy hx q).2
 | Eq=>exact(Um hu (Iv S e hx hy)).1 q
 | NotEq=>obtain⟨b',e',rfl⟩:=aj0 e;exact(Um hu (Iv S e' hx hy)).2 q
 | Is=>exact(Uk e hx hy).1 q
 | IsNot=>obtain⟨b',e',rfl⟩:=aj0 e;exact(Uk e' hx hy).2 q
 | LtE=>exact awu e hx hy q
 | In=>exact awv e hx hy q
 | NotIn=>exact Mr hu S e hx hy q
 | _=>exact t7 e
def agz (ao:jy A l 0)(S:SR Γ ρ H s)(hx:VR Γ ρ s.heap a u)(hy:VR Γ ρ s.heap b v):iY Γ l lk A ρ s (opt (K7 H o a b) λc=>ok (.bool c) H) (lV o u v) (u6 Γ):=
 .opt λU e=> .ok λU U P=>aww ao S hx hy e (P.ok S rfl)
end
end
section
def v9 (Γ:Cx)(n:Nat)(k:Kd)(e:aG)(me:j0):Prop:=
 ∀(env:fP)(l:List fP)(A:bO)(φ:Fm)(H:Hp)(ρ:fj)(s:aW),∀J:v8 Γ k env,∀J:jy A l n,∀J:SR Γ ρ H s,∀J:FR Γ l ρ s.heap env φ.loc φ.cX,iY Γ l φ.lk A ρ s (dD Γ.G n φ me H) (eval e env) (u6 Γ)
def Z0 (Γ:Cx)(n:Nat)(k:Kd)(e:aG)(me:j0):Prop:=
 ∀(env:fP)(l:List fP)(A:bO)(φ:Fm)(H:Hp)(ρ:fj)(s:aW),∀J:v8 Γ k env,∀J:jy A l n,∀J:SR Γ ρ H s,∀J:FR Γ l ρ s.heap env φ.loc φ.cX,iY Γ l φ.lk A ρ s (uH Γ.G n φ me H) (isTrue e env (eval e env)) Cr
abbrev U0 (Γ:Cx)(n m:Nat)(k:Kd):Prop:=∀e,v9 Γ n k e (cE m k e)
abbrev AllB (Γ:Cx)(n m:Nat)(k:Kd):Prop:=∀e,Z0 Γ n k e (cE m k e)
def Bl (Γ:Cx)(x:aJ)(u:aD):Prop:=ado Γ.K bY x=aa (aa u)∨(ado Γ.K bY x=aa aB∧ado Γ.K dJ x=aa (aa u))
structure Z6 (Γ:Cx):Prop where
 glob:∀x v,∀J:Γ.G.glob x=aa v,∃u,Bl Γ x u∧∀ρ h,VR Γ ρ h v u
 Bh:Bl Γ "range" (.type "range")
 za:Bl Γ "enumerate" (.type "enumerate")
 zip:Bl Γ "zip" (.type "zip")
 str:Bl Γ "str" (.type "str")
 sup:Bl Γ "super" (.type "super")
 ve:Bl Γ "ValueError" (.type "ValueError")
 te:Bl Γ "TypeError" (.type "TypeError")
section
variable {Γ:Cx}{n m:Nat}{k:Kd}
def SR.qJ (S:SR Γ ρ H s):Γ.K.In s.heap:=λb o e=>S.base b o (Γ.inK b o e)
def aa1:v9 Γ n k e .bad:=by cases n<;>exact λU U U U U U U U U U U=> .none
def ar6 {α:Type}{e:aG}{o:Option α}{f:α->j0}(h:∀a,∀J:o=aa a,v9 Γ n k e (f a)):v9 Γ n k e (mb o f):=by
 cases o with
 | none=>exact aa1
 | some a=>exact h a rfl
def Un (h:∀J:b=au,v9 Γ n k e me):v9 Γ n k e (gm b me):=by
 cases b with
 | true=>exact h rfl
 | false=>exact aa1
def J0 {a b:aJ}(h:a≠b):(a==b)=aC:=beq_eq_false_iff_ne.mpr h
def snd_const:v9 Γ (n+1) k (.Constant c j p) (Tu c):=by
 cases c with
 | none=>exact λenv l A φ H ρ s O a S F=> .ok λQ E P=>wpAny_Constant_none (P.ok S rfl)
 | bool b=>exact λenv l A φ H ρ s O a S F=> .ok λQ E P=>wpAny_Constant_bool (P.ok S rfl)
 | int i=>exact λenv l A φ H ρ s O a S F=> .ok λQ E P=>wpAny_Constant_int (P.ok S (.mk _))
 | str x=>exact λenv l A φ H ρ s O a S F=> .ok λQ E P=>wpAny_Constant_str (P.ok S (.mk _))
 | _=>exact aa1
def Ms:v9 Γ (n+1) k (.Name ("__debug__":aJ) p) (.cst (.bool au)):=λenv l A φ H ρ s O a S F=> .ok λQ E P=>by show aP _ _ (do nJ p;if (("__debug__":aJ)==("__debug__":aJ))=au then debugConstant else aok env ("__debug__":aJ)) _ _ _;exact aO (bN (by decide)) (aj (dM (aj (lG (aA (P.ok S rfl))))))
def ab5 (O:v8 Γ k env)(hk:k x=aa .globalImplicit)(g:Bl Γ x u)(S:SR Γ ρ H s)(h:Q u s):aP M A (aok env x) Q E s:=by
 refine pM (QL O.kind (O.jq x hk)) ?_;delta loadGlobal;refine aO O.glob (aO O.blt ?_);rcases g with g | ⟨g1,g2⟩
 ·exact aj ((oW S.qJ g).here (aA h))
 ·exact aj ((oW S.qJ g1).here (aj ((oW S.qJ g2).here (aA h))))
def aha (hx:x≠("__debug__":aJ))(hk:k x=aa .local):v9 Γ (n+1) k (.Name x p) (.loc x):=λenv l A φ H ρ s O a S F=> .opt λv hv=> .ok λQ E P=>by obtain⟨m,hn,hl⟩:=F.ns;exact(hl x v hv).elim λu q=>eX (gB O.kind (O.loc x hk) hn q.1 (P.ok S q.2)) (J0 hx)
def Iw (hx:x≠("__debug__":aJ))(hx':x≠("__classdict__":aJ))(hk:k x=aa .cell∨k x=aa .free):v9 Γ (n+1) k (.Name x p) (.cX x):=λenv l A φ H ρ s O a S F=> .opt λv hv=> .ok λQ E P=>by obtain⟨c,u,hc,hu,hr⟩:=F.cells x v hv;exact(O.cX x hk).elim (λq=>eX (wpAny_loadName_cell O.kind q hc hu (P.ok S hr)) (J0 hx)) λq=>eX (auq O.kind q hc hu (P.ok S hr) (J0 hx')) (J0 hx)
def ahb (G:Z6 Γ)(hx:x≠("__debug__":aJ))(hk:k x=aa .globalImplicit):v9 Γ (n+1) k (.Name x p) (.jq x):=λenv l A φ H ρ s O a S F=> .opt λv hv=> .ok λQ E P=>
 (G.glob x v hv).elim λu q=>eX (ab5 O hk q.1 S (P.ok S (q.2 ρ s.heap))) (J0 hx)
def Uo (G:Z6 Γ):v9 Γ (n+1) k (.Name x p) (Cg k x):=by
 delta Cg;by_cases hx:x=("__debug__":aJ)
 ·subst hx;refine aO (bN rfl) ?_;exact Ms
 refine aO (bk hx) ?_;refine Un λhx'=>ar6 λd hd=> ?_;cases d with
 | «local»=>exact aha hx hd
 | cell=>exact Iw hx (gH hx') (.inl hd)
 | free=>exact Iw hx (gH hx') (.inr hd)
 | globalImplicit=>exact ahb G hx hd
 | _=>exact aa1
def ahc (e:aG)(env:fP):(∃a p,e= .Starred a p)∨∀rest,pQ (e::rest) env=(aC,eval e env)::pQ rest env:=by
 cases e with
 | Starred a p=>exact .inl ⟨a,p,rfl⟩
 | _=>exact .inr λU=>rfl
def Up:cE m k (.Starred a p)= .bad:=by cases m<;>rfl
def awy:dD Γ.G n φ .bad H=aB:=by cases n<;>rfl
section
variable {env:fP}{l:List fP}{A:bO}{φ:Fm}{H:Hp}{ρ:fj}{s:aW}
def ax0 {α β γ:Type}(r:Out α)(g:α->Hp->Out β)(f:β->Hp->Out γ):jf (jf r g) f=jf r λv H=>jf (g v H) f:=by rcases r with _ | ⟨_ | _,_⟩<;>rfl
def ahd (Γ:Cx)(N:Nat)(ρ:fj)(h:bM)(vs:List V)(us:List aD):Prop:=gD Γ ρ h vs us∧vs.length=N
def awz (ih:U0 Γ n m k)(O:v8 Γ k env)(a:jy A l n)(pos:sZ):∀(es:List aG){H:Hp}{ρ:fj}{s:aW},∀J:SR Γ ρ H s,∀J:FR Γ l ρ s.heap env φ.loc φ.cX,iY Γ l φ.lk A ρ s (O6 (dD Γ.G n φ) (es.map (cE m k)) H) (spliced (Ay pos (pQ es env))) (ahd Γ es.length):=by
 intro zz
 induction zz with
 | nil=>
  intro _ _ _ S F;exact .ok λU U P=>mY (P.ok S ⟨rfl,rfl⟩)
 | cons e es ihr=>
  intro _ _ _ S F;exact(ahc e env).elim (λ⟨a,p,q⟩=>by
    subst q;show iY _ _ _ _ _ _ (jf (dD Γ.G n φ (cE m k (.Starred a p)) _) _) _ _;refine aO Up (aO awy ?_);exact .none) λq=>by
    rw[q];exact((ih e env l A φ _ _ _ O a S F).jb (λQ E w=>jk w) λv cU aY aU u cQ cg hv=>
     (ihr cg (F.ext cQ)).jb (λQ E w=>w) λvs oE dz bK us du fU iB=> .ok λQ E P=>P.ok fU ⟨.mk u us (hv.ext du) iB.1,congrArg tK iB.2⟩)
end
def ahd.len (x:ahd Γ N ρ h vs us):us.length=N:=x.1.length.trans x.2
def ahe (ih:U0 Γ n m k)(hz:es.length≤1000):v9 Γ (n+1) k (.Tuple es j p) (.tup (es.map (cE m k))):=λenv l A φ H ρ s O a S F=>
 (awz ih O a.pred p es S F).jb (λQ E w=>wpAny_Tuple w) λvs cU aY aU us cQ cg hv=> .ok λQ E P=>⟨hv.len▸aq hz (by decide),Ub cg hv.1 P⟩
def ahf (ih:U0 Γ n m k)(hz:es.length≤1000):v9 Γ (n+1) k (.List es p) (.lst (es.map (cE m k))):=λenv l A φ H ρ s O a S F=>
 (awz ih O a.pred p es S F).jb (λQ E w=>wpAny_List w) λvs cU aY aU us cQ cg hv=> .ok λQ E P=>⟨hv.len▸aq hz (by decide),aw9 cg hv.1 (hv.2▸aq hz (by decide)) P⟩
def ahg {mt me mo:j0}(ht:Z0 Γ n k t mt)(hb:v9 Γ n k b me)(ho:v9 Γ n k o mo):v9 Γ (n+1) k (.IfExp t b o p) (.ite mt me mo):=λenv l A φ H ρ s O a S F=>
 (ht env l A φ H ρ s O a.pred S F).jb (λQ E w=>wpAny_IfExp w) λv cU aY aU u cQ cg hv=>by
  obtain rfl:=hv;cases u with
  | true=>exact hb env l A φ cU aY aU O a.pred cg (F.ext cQ)
  | false=>exact ho env l A φ cU aY aU O a.pred cg (F.ext cQ)
def Uq {mt me mo:j0}(ht:Z0 Γ n k t mt)(hb:Z0 Γ n k b me)(ho:Z0 Γ n k o mo):Z0 Γ (n+1) k (.IfExp t b o p) (.ite mt me mo):=λenv l A φ H ρ s O a S F=>
 (ht env l A φ H ρ s O a.pred S F).bind λv cU aY aU u cQ cg hv=>by
  obtain rfl:=hv;cases u with
  | true=>exact hb env l A φ cU aY aU O a.pred cg (F.ext cQ)
  | false=>exact ho env l A φ cU aY aU O a.pred cg (F.ext cQ)
def ahh (hx:v9 Γ n k x mx)(hy:v9 Γ n k y my):v9 Γ (n+1) k (.BinOp x o y p) (.bin o mx my):=λenv l A φ H ρ s O a S F=>
 (hx env l A φ H ρ s O a.pred S F).jb (λQ E w=>wpAny_BinOp w) λv cU aY aU u cQ cg hv=>
  (hy env l A φ cU aY aU O a.pred cg (F.ext cQ)).jb (λQ E w=>w) λahi oE dz bK uJ du fU oJ=>ags fU (hv.ext du) oJ
def ahj (hx:v9 Γ n k x mx):v9 Γ (n+1) k (.UnaryOp .USub x p) (.neg mx):=λenv l A φ H ρ s O a S F=>
 (hx env l A φ H ρ s O a.pred S F).jb (λQ E w=>wpAny_UnaryOp w) λv cU aY aU u cQ cg hv=> .opt λi e=>by obtain⟨t⟩:=hv.intOf e;exact ai9 cg λQ E h=>PySem.P.neg_int (h _ _)
def Ur (h:aP M A (vo u) (λb s'=>Q (.bool !b) s') E s):aP M A (unaryOp .Not u) Q E s:=bJ (pM (bN (by decide)) (aj (bH h (λU U z=>aA z) λU U z=>z)))
def ahk (pr:aq2 Γ)(hx:v9 Γ n k x mx):v9 Γ (n+1) k (.UnaryOp .Not x p) (.not mx):=λenv l A φ H ρ s O a S F=>
 (hx env l A φ H ρ s O a.pred S F).jb (λQ E w=>wpAny_UnaryOp w) λv cU aY aU u cQ cg hv=>
  (am0 pr a.zero cg hv).jb (λQ E w=>Ur w) λb oE dz bK uJ du fU e=> .ok λQ E P=>P.ok fU (by refine aO e ?_;rfl)
def Us (hx:Z0 Γ n k x mx):Z0 Γ (n+1) k (.UnaryOp .Not x p) (.not mx):=λenv l A φ H ρ s O a S F=>
 (hx env l A φ H ρ s O a.pred S F).jb (λQ E w=>wpAny_isTrue_Not w) λv cU aY aU u cQ cg hv=> .ok λQ E P=>P.ok cg (aO hv rfl)
def plainT:j0->Bool
 | .not _=>aC
 | .yR _ _=>aC
 | .ite _ _ _=>aC
 | _=>au
def Iz (h:plainT me=au):uH Γ.G (n+1) φ me H=jf (dD Γ.G n φ me H) λv H=>opt (U5 H v) λb=>ok b H:=by
 cases me with
 | not a=>exact qI h
 | yR o l=>exact qI h
 | ite t a b=>exact qI h
 | _=>rfl
def aP9 (pr:aq2 Γ)(hx:v9 Γ n k x mx)(hsh:∀env w,isTrue x env w=(do let v←w;nJ x.pos;pR [v] (vo v)))(hp:plainT mx=au):Z0 Γ (n+1) k x mx:=λenv l A φ H ρ s O a S F=>by rw[Iz hp,hsh];exact(hx env l A φ H ρ s O a.pred S F).bind λv cU aY aU u cQ cg hv=>(am0 pr a.zero cg hv).of λQ E w=>aj (dM (bJ w))
set_option backward.match.sparseCases true in
def Ut (ih:AllB Γ n m k):Z0 Γ (n+1) k (.BoolOp o es p) (.yR o (es.map (cE m k))):=λenv l A φ H ρ s O a S F=>by
 induction es generalizing H ρ s with
 | nil=>exact .pure S rfl
 | cons e es ihs=>
  refine(ih e env l A φ H ρ s O a.pred S F).bind λv cU aY aU u cQ cg hv=> ?_;obtain rfl:=hv;cases o<;>cases u
  ·exact .pure cg rfl
  ·exact ihs cU aY aU cg (F.ext cQ)
  ·exact ihs cU aY aU cg (F.ext cQ)
  ·exact .pure cg rfl
set_option backward.match.sparseCases true in
def ahl (pr:aq2 Γ)(ih:U0 Γ n m k):v9 Γ (n+1) k (.BoolOp o es p) (.yR o (es.map (cE m k))):=λenv l A φ H ρ s O a S F=>by
 induction es generalizing H ρ s with
 | nil=>exact .none
 | cons e es ihs=>
  cases es with
  | nil=>exact ih e env l A φ H ρ s O a.pred S F
  | cons agf es=>
   refine(ih e env l A φ H ρ s O a.pred S F).bind λv cU aY aU u cQ cg hv=> ?_;refine(am0 pr a.zero cg hv).jb (λQ E w=>aj (dM (aj (bJ w)))) λt oE dz bK uJ du fU ht=> ?_;obtain rfl:uJ=t:=ht;cases o<;>cases uJ
   ·exact .ok λQ E P=>aA (P.ok fU (hv.ext du))
   ·exact ihs oE dz bK fU ((F.ext cQ).ext du)
   ·exact ihs oE dz bK fU ((F.ext cQ).ext du)
   ·exact .ok λQ E P=>aA (P.ok fU (hv.ext du))
def Uu (h:isSet e=aC)(o:CmpOp):behindInMarks o e=aC:=by
 cases e with
 | Set a b c=>exact Ss h
 | _=>rfl
def Ft (Γ:Cx)(n:Nat):Prop:=∀(l:List fP)(A:bO)(lk:List Nat)(o:CmpOp)(a b:V)(H:Hp)(ρ:fj)(s:aW)(u v:aD),∀J:jy A l n,∀J:SR Γ ρ H s,∀J:H8 Γ l ρ s.heap,∀J:VR Γ ρ s.heap a u,∀J:VR Γ ρ s.heap b v,iY Γ l lk A ρ s (afw Γ.G (o8 Γ.G n) lk o a b H) (lV o u v) (u6 Γ)
def ahm (hC:Ft Γ n)(hx:v9 Γ n k x mx)(hy:v9 Γ n k y my)(hs:isSet y=aC):v9 Γ (n+1) k (.Compare x [o] [y] p) (.cmp o mx my):=λenv l A φ H ρ s O a S F=>
 (hx env l A φ H ρ s O a.pred S F).jb (λQ E w=>wpAny_Compare1 w (Uu hs o)) λv cU aY aU u cQ cg hv=>
  (hy env l A φ cU aY aU O a.pred cg (F.ext cQ)).jb (λQ E w=>w) λahi oE dz bK uJ du fU oJ=>hC l A φ.lk o _ _ _ dz bK u uJ a.pred fU ((F.ext cQ).ext du).uc (hv.ext du) oJ
def Uv (pr:aq2 Γ)(hC:Ft Γ n)(hx:v9 Γ n k x mx)(hy:v9 Γ n k y my)(hs:isSet y=aC):Z0 Γ (n+1+1) k (.Compare x [o] [y] p) (.cmp o mx my):=λenv l A φ H ρ s O a S F=>by
 show iY Γ l φ.lk A ρ s (jf (jf (dD Γ.G n φ mx H) λx H=>jf (dD Γ.G n φ my H) λy H=>afw Γ.G (o8 Γ.G n) φ.lk o x y H) λv H=>tru H v) _ _;rw[ax0];refine(hx env l A φ H ρ s O a.pred.pred S F).jb (λQ E w=>wpAny_isTrue_Compare1 w (Uu hs o)) λv cU aY aU u cQ cg hv=> ?_;simp only[ax0];exact(hy env l A φ cU aY aU O a.pred.pred cg (F.ext cQ)).jb (λQ E w=>w) λahi oE dz bK uJ du fU oJ=>
  (hC l A φ.lk o _ _ _ dz bK u uJ a.pred.pred fU ((F.ext cQ).ext du).uc (hv.ext du) oJ).jb (λQ E w=>w) λaJu Ag qz lL Uw qg tH yu=>am0 pr a.zero tH yu
end
end
section
variable {Γ:Cx}
structure N7 (Γ:Cx):Prop where
 mro:RD Γ.K Γ.G.gh (.type "list")=aa au
 seq:Hx Γ.K Γ.G.gh=au
 get:gn Γ.K (.ref Γ.G.gh) "__getitem__"=aa (aa (.builtin "list.__getitem__"))
 set:gn Γ.K (.ref Γ.G.gh) "__setitem__"=aa (aa (.builtin "list.__setitem__"))
 app:gn Γ.K (.ref Γ.G.gh) "append"=aa (aa (.builtin "list.append"))
 ga:gn Γ.K (.ref Γ.G.gh) "__getattribute__"=aa (aa (.builtin "list.__getattribute__"))
 Ux:gn Γ.K (.ref Γ.G.gh) "__getattr__"=aa aB
 iter:gn Γ.K (.ref Γ.G.gh) "__iter__"=aa (aa (.builtin "list.__iter__"))
def IK (h:bM)(x c:aV):Prop:=∃o,h.get? x=aa o∧o.cls= .ref c
def IK.type (t:IK h x c):lC M h (vp (.ref x)) (.ref c):=oG t λo e hc=>(hc▸(uP e).andThen .now)
def InstAt.ty (I:InstAt h x ox c od):IK h x c:=⟨ox,I.at_,I.cls⟩
def Mt
  (hk:gJ i=aa .slot∨gJ i=aa .method) (hs:xm i=aa (owner,n)) (hi:lC M s.heap (kh self (.type owner)) au) (ha:yK i ⟨self::rest, []⟩) (q:Q () s):
  aP M A (Az i ⟨self::rest, []⟩) Q E s:=by
 rcases hk with hk | hk
 ·exact check_slot hk hs hi ha q
 ·rw[Az];refine aO hk (aO hs ?_)
  refine aj (hi.here ?_);cases axb:lW i with
  | none=>exact aA q
  | some sig=>
   simp only[yK,axb]at ha;show aP M A (aur i sig ⟨self::rest, []⟩) Q E s;refine aO ha ?_;exact aA q
section
variable {A:bO}{E:PQ aD}{s:aW}{x:aV}
def an9 (K:N7 Γ)(X:Γ.K.In s.heap)(I:IK s.heap x Γ.G.gh){id n:String}(hk:gJ id=aa .slot∨gJ id=aa .method)(hs:xm id=aa ("list",n))(plain:plainId id=au)
  (entry:zE table id=aa B) (args:yK id ⟨.ref x::rest, []⟩) (h:aP Γ.M A.in1 (B ⟨.ref x::rest, []⟩) (λfin s'=>∃v,fin= .done (.ret v)∧Q v s') E s):aP Γ.M A (call (.builtin id) (.ref x::rest)) Q E s:=by
 refine mZ (aol plain entry (Mt hk hs (I.type.andThen (qP X K.mro)) args (bH h (λfin s' h'=> ?_) λU U h'=>h')));obtain⟨v,rfl,hv⟩:=h';exact hv
def Uy (K:N7 Γ)(X:Γ.K.In s.heap)(I:InstAt s.heap x ox Γ.G.gh od){id:String}(hf:gn Γ.K (.ref Γ.G.gh) name=aa (aa (.builtin id)))(ht:vp (.builtin id)=pure (.type "method_descriptor"))
  (hs:shadowIn od name=aa aC) (h:Q (.builtin id, [.ref x]) s):aP Γ.M A (rZ (.ref x) name pl) Q E s:=by
 refine aj (aj (I.type.here ((fD X K.ga).here ?_)));dsimp only;refine aO (show jV "list.__getattribute__"="object.__getattribute__" by decide+kernel) (aO (bk (by decide)) ?_);refine aj (aj (I.type.here ((fD X K.Ux).here ?_)));refine aj (aj (I.type.here ((fD X hf).here ?_)));dsimp only;refine aO ht ?_;refine aj (aA ?_);refine aO (bk (by decide+kernel)) ?_;refine aj (kY I.at_ ?_);have hd:=I.dict;cases e:ox.dict with
 | none=>exact aj (lG (aA h))
 | some dx=>
  cases od with
  | none=>replace hd:=e▸hd;exact hd.elim
  | some o=>
   rw[e]at hd;exact oG (cR.mp hs) λr a b=>(aj (aj (kY hd (pM (nsLook_of a) (aA (aO b (aj (lG (aA h)))))))))
def aC8 (X:Γ.K.In s.heap)(I:IK s.heap x c){id:String}(hf:gn Γ.K (.ref c) name=aa (aa (.builtin id)))(slot:Slot "list" name id)
  (h:aP Γ.M A (call (.builtin id) (.ref x::args)) (λv=>Q (aa v)) E s):aP Γ.M A (callSpecial? (.ref x) name args) Q E s:=by
 refine aj (aj (I.type.here ((fD X hf).here ?_)));refine bJ ?_;rw[slot.bind];exact aj (aA (aj (bH h (λU U z=>aA z) λU U z=>z)))
def IV (K:N7 Γ)(X:Γ.K.In s.heap)(I:IK s.heap x Γ.G.gh)(h:Q k s):aP Γ.M A (sequenceKey (.ref x) k name) Q E s:=aj (I.type.here (aj ((anyM_none X K.seq).here (pM (bN rfl) (aA h)))))
def aQ0:gJ "list.__getitem__"=aa .slot∨gJ "list.__getitem__"=aa .method:=by decide+kernel
def aQ1:gJ "list.__setitem__"=aa .slot∨gJ "list.__setitem__"=aa .method:=by decide+kernel
def aV8:gJ "list.append"=aa .slot∨gJ "list.append"=aa .method:=by decide+kernel
def aV9 (K:N7 Γ)(X:Γ.K.In s.heap)(I:IK s.heap x Γ.G.gh)
  (h:aP Γ.M A.in1 (fB.«list.__getitem__» ⟨[.ref x,i], []⟩) (λfin s'=>∃v,fin= .done (.ret v)∧Q v s') E s):aP Γ.M A (Em (.ref x) i) Q E s:=bJ (aj (IV K X I (aj (aC8 X I K.get zF (an9 K X I aQ0 (by decide+kernel:xm "list.__getitem__"=aa ("list","__getitem__")) (by decide+kernel) entry_list_getitem (args_list_getitem _ _) (bH h (by rintro fin s' ⟨v,e,q⟩;exact⟨v,e,aA q⟩) λU U z=>z))))))
def aW0 (K:N7 Γ)(X:Γ.K.In s.heap)(I:IK s.heap x Γ.G.gh)
  (h:aP Γ.M A.in1 (fB.«list.__setitem__» ⟨[.ref x,i,v], []⟩) (λfin s'=>∃v,fin= .done (.ret v)∧Q () s') E s):aP Γ.M A (xn (.ref x) i v) Q E s:=bJ (aj (IV K X I (aj (aC8 X I K.set slot_list_setitem (an9 K X I aQ1 (by decide+kernel:xm "list.__setitem__"=aa ("list","__setitem__")) (by decide+kernel) entry_list_setitem (args_list_setitem _ _ _) (bH h (by rintro fin s' ⟨v,e,q⟩;exact⟨v,e,aA q⟩) λU U z=>z))))))
def aQ2 (K:N7 Γ)(X:Γ.K.In s.heap)(I:IK s.heap x Γ.G.gh)(hs:aom slice aC (.ref x) i=operate ops (Em (.ref x) i))
  (h:aP Γ.M A.in1 (fB.«list.__getitem__» ⟨[.ref x,i], []⟩) (λfin s'=>∃v,fin= .done (.ret v)∧Q v s') E s):aP Γ.M A (lX value slice (.ref x) i) Q E s:=aj (aj (aj (I.type.here ((fD X K.get).here (aA (aO hs (aj (wpAny_operating (bH (aV9 K X I h) (λr lL Cv=>aj (wN (aA Cv))) λU U x=>x)))))))))
end
end
section
section
variable {M:Br}{A:bO}{E:PQ aD}{s:aW}{l:aV}{o:ou}{items:Array aD}{nn:Nat}{F:PQ Fin}
set_option tactic.hygienic true in
def ao0 (h:jP i N=aa j):(0≤i∧i.toNat=j)∨(i<0∧0≤i+N∧(i+N).toNat=j):=by
 unfold jP at h;dsimp only at h;by_cases h0:i<0
 ·rw[bN h0]at h
  split at h
  ·rename_i hb
   simp only[fX,decide_eq_true_eq,decide_eq_true_eq]at hb;exact .inr ⟨h0,hb.1,ak h⟩
  ·exact iz h
 ·replace h:=(bk h0)▸h
  split at h
  ·exact .inl ⟨ig.mp h0,ak h⟩
  ·exact iz h
def aW1 (ho:s.heap.get? l=aa o)(hd:o.data= .seq items nn)(Uz:eQ k=au)(hk:jP k items.size=aa j)(hx:items[j]?=aa v)
  (h:F (.done (.ret v)) s):aP M A (fB.«list.__getitem__» ⟨[.ref l,.int k t], []⟩) F E s:=by
 show aP _ _ (iJ (.int k t)>>=_) _ _ s;refine aj (RL Uz ?_);cases k with
 | ofNat p=>
  have hp:=(ao0 hk).elim (λq=>q.2) λq=>absurd q.1 (ig.mpr (cA p));subst hp;refine aj (aj (wpAny_seqItemAt ho hd (aA ?_)));refine aO hx ?_
  first | exact aj (aA (aA h)) | exact aA (aA h) | exact aA h
 | negSucc p=>
  refine aj (aj ?_);refine aj (nq ho hd (aA (aA ?_)));refine aO hk ?_;rw[lY];refine aO hx ?_
  first | exact aj (aA (aA h)) | exact aA (aA h) | exact aA h
def aQ3 {lo hi st:Option Int}(hs:s.heap.IsSliceOf sl vl vu vs)(pl:wQ vl lo)(pu:wQ vu hi)(ps:wQ vs st)(h0:st≠aa 0)(h:Q (rawPart lo,rawPart hi,rawPart st) s):
  aP M A (Builtin.List.listSliceParts (.ref sl)) Q E s:=by
 refine Su hs λos hos DP hds=> ?_;rw[listSliceParts_eq];refine aj (fQ hos hds (x:=vs) rfl (aj (Hz ps ?_)));rw[bk]
 ·exact aj (fQ hos hds (x:=vl) rfl (aj (Hz pl (aj (fQ hos hds (x:=vu) rfl (aj (Hz pu (aA h))))))))
 ·cases st with
  | none=>exact aR
  | some c=>
   intro hh;have:c=0:=by simpa [rawPart,kW] using hh
   exact h0 (aO this rfl)
def ax1 (hs:s.heap.IsSliceOf sl vl vu vs)(h:Q aB s):aP M A (iJ (.ref sl)) Q E s:=Su hs λos hos DP hds=>(aj (lN ⟨os,hos,DP⟩ slice_no_index (aA h)))
def am1 (ho:s.heap.get? a=aa o)(hd:o.data= .seq xs c)(h:Q xs s):aP M A (Builtin.List.listItems (.ref a)) Q E s:=
 aj (nq ho hd (aA h))
def aW2 {lo hi st:Option Int}(ho:s.heap.get? l=aa o)(hd:o.data= .seq items nn)(hs:s.heap.IsSliceOf sl vl vu vs)(pl:wQ vl lo)(pu:wQ vu hi)(ps:wQ vs st)(h0:st≠aa 0)(hz:items.size≤sJ)
  (h:F (.done (.ret (.ref s.heap.objs.size))) {s with heap:=s.heap.push {cls:= .type "list",data:= .seq (slicePick items lo hi st)}}):
  aP M A (fB.«list.__getitem__» ⟨[.ref l,.ref sl], []⟩) F E s:=by
 show aP _ _ (iJ (.ref sl)>>=_) _ _ s;exact aj (ax1 hs (Su (id hs) λos hos DP hds=>(aj (zG ⟨os,hos,DP⟩ (pM (bk (by decide)) (aj (aQ3 hs pl pu ps h0 (aj (am1 ho hd (aj (gj (sliceIndices_raw lo hi st items.size h0) (aj (fH (aA h) (aq (slicePick_size_le items lo hi st) hz))))))))))))))
end
set_option tactic.hygienic true in
def IW {α:Type}{l:List α}{i:Int}{x:α}(h:idx l i=aa x):∃j,jP i l.length=aa j∧l[j]?=aa x:=by
 unfold idx at h;unfold jP;by_cases h0:0≤i
 ·replace h:=(bN h0)▸h
  have hl:=(aL.mp h).1;refine⟨i.toNat, ?_,h⟩;rw[bk (ig.mpr h0),bN];simp only[fX,decide_eq_true_eq,decide_eq_true_eq];exact⟨h0,(xP h0).mp hl⟩
 ·replace h:=(bk h0)▸h
  split at h
  ·rename_i h1
   refine⟨(i+l.length).toNat, ?_,h⟩;rw[bN (rD.mp h0),bN];simp only[fX,decide_eq_true_eq,decide_eq_true_eq];exact⟨h1,(xP h1).mp ((aL.mp h).1)⟩
  ·exact iz h
section
variable {Γ:Cx}{ρ:fj}{H:Hp}{s:aW}{h:bM}{l:List fP}{lk:List Nat}{A:bO}{u v:aD}{value:aG}{Q:PQ aD}{E:PQ aD}
def gD.get:∀{l:List V}{us:List aD},∀J:gD Γ ρ h l us,∀{i:Nat}{x:V}{u:aD},∀J:l[i]?=aa x,∀J:us[i]?=aa u,VR Γ ρ h x u:=by
 intro l
 induction l with
 | nil=>exact λU U U U e=>iz e
 | cons v l ih=>
  rintro _ ⟨u,us,hv,hs⟩ i x u' e e';cases i with
  | zero=>exact ak e▸ak e'▸hv
  | succ i=>exact ih hs e e'
inductive UG (Γ:Cx)(ρ:fj)(h:bM)(us:Array aD)(i:Int)(x:V):Prop
 | mk (j:Nat) (u:aD) (h1:jP i us.size=aa j) (h2:us[j]?=aa u) (hu:VR Γ ρ h x u):UG Γ ρ h us i x
def aF9 {l:List V}(hv:gD Γ ρ h l us.toList)(e:idx l i=aa x):UG Γ ρ h us i x:=by refine oG (IW e) λj h1 h2=> ?_;have hj:=hv.size▸(aL.mp h2).1;exact⟨j,us[j],hv.size▸h1,fG hj,hv.get h2 (by refine aO (cz) ?_;exact fG hj)⟩
def Y4 (h:jt i=aB)(o v:aD):aom i aC o v=operate [o,v] (Em o v):=by
 cases i with
 | Slice a b c p=>exact nxS h
 | _=>rfl
def aG0 (hk:small k=au):eQ k=au:=by have:=ab3 hk;simp [eQ];assumption
def aC9 (ha:s.heap.get? a=aa (listOf us n))(hk:small k=au)(y:UG Γ ρ s.heap us k x)(hQ:∀u,∀J:VR Γ ρ s.heap x u,Q u s):aP Γ.M A (Em (.ref a) (.int k t)) Q E s:=by
 obtain⟨j,y,h1,h2,hy⟩:=y;obtain⟨z1,z2⟩:=ab3 hk;rcases ao0 h1 with⟨h0,rfl⟩ | ⟨h0,hb,rfl⟩
 ·exact wpAny_getItem_list (M7 ha) h0 z2 h2 (hQ y hy)
 ·exact wpAny_getItem_list_neg (M7 ha) h0 (Int.le_of_sub_nonneg (by rw[Int.sub_neg];exact hb)) z1 h2 (hQ y hy)
def aho (hn:jt slice=aB)(hk:small k=au)(y:Mf s.heap (gD Γ ρ s.heap xs) u)(e:idx xs k=aa x)(hQ:∀u,∀J:VR Γ ρ s.heap x u,Q u s):aP Γ.M A (lX value slice u (.int k t)) Q E s:=by obtain⟨a,us,nn,ha,hs⟩:=y;obtain⟨j,y,h1,h2,hy⟩:=aF9 hs e;exact HD ⟨_,ha,rfl⟩ F.slot_tuple_getitem.lookup (PySem.P.getItem_tuple ha (ab3 hk).1 (ab3 hk).2 h1 h2 (hQ y hy)) (Y4 hn _ _)
def ahp (hn:jt slice=aB)(hk:small k=au)(e:idx x.cps.toList k=aa c)(hQ:∀tk Ae,Q (.str ⟨#[c]⟩ tk) {s with toks:=Ae}):aP Γ.M A (lX value slice (.str x t) (.int k t')) Q E s:=by
 refine oG (IW e) λj h1 h2=> ?_;obtain⟨z1,z2⟩:=ab3 hk;refine HD rfl F.slot_str_getitem.lookup (PySem.P.getItem_str ?_ ?_ (hQ _ _)) (Y4 hn _ _)
 ·rw[dI,decide_eq_false_iff_not,decide_eq_false_iff_not];exact⟨ig.mpr z1,rD.mpr z2⟩
 ·refine aO (show x.length=x.cps.toList.length from dR.symm) (aO h1 ?_)
  rw[cz]at h2;exact h2
def ahq (K:N7 Γ)(S:SR Γ ρ H s)(hn:jt slice=aB)(hk:small k=au)(hv:VR Γ ρ s.heap (.ref j) u)(hj:H[j]?=aa o)(e:BW k o=aa x)(hQ:∀u,∀J:VR Γ ρ s.heap x u,Q u s):aP Γ.M A (lX value slice u (.int k t)) Q E s:=by
 cases o with
 | list xs=>
  obtain⟨a,us,n,_,_,ha,hs,_⟩:=VR.list hv S hj;exact HD (M7 ha).typeIs zF.lookup (aC9 ha hk (aF9 hs e) hQ) (Y4 hn _ _)
 | acc c d xs=>
  obtain⟨a,dx,es,n,us,kk,_,_,ha,_,_,hs,_⟩:=VR.acc hv S hj;obtain⟨j,y,h1,h2,hy⟩:=aF9 hs e;exact aQ2 K S.qJ ⟨_,ha,rfl⟩ (Y4 hn _ _) (aW1 ha rfl (aG0 hk) h1 h2 ⟨_,rfl,hQ y hy⟩)
 | _=>exact t7 e
def ahr (K:N7 Γ)(hn:jt slice=aB)(S:SR Γ ρ H s)(ho:VR Γ ρ s.heap o u)(hi:VR Γ ρ s.heap i v):iY Γ l lk A ρ s (opt (Z5 H o i) λw=>ok w H) (lX value slice u v) (u6 Γ):= .opt λw e=> .ok λQ E P=>by
 refine j5 e λk e1 e=> ?_;refine I3 e λhk e=> ?_;obtain⟨t⟩:=hi.intOf e1;cases o with
 | tup xs=>exact aho hn hk ho e λu hu=>P.ok S hu
 | str x=>
  refine j5 e λc hc e=> ?_;obtain rfl:=ak e;obtain⟨t'⟩:=ho;exact ahp hn hk hc λtk Ae=>P.ok S (.mk tk)
 | ref j=>
  exact j5 e λx hj e=>(ahq K S hn hk ho hj e λu hu=>P.ok S hu)
 | _=>exact t7 e
inductive ak1 (p:Option Int):aD->Prop
 | mk (q:Option (Int×RG)) (hp:wQ (partValue q) p) (e:q.map (·.1)=p):ak1 p (partValue q)
def VR.part {v:V}(hv:VR Γ ρ h v u)(e:Y7 v=aa p):ak1 p u:=by
 cases v with
 | none=>obtain rfl:=ak e;obtain rfl:=hv;exact .mk aB .none rfl
 | int i=>obtain rfl:=ak e;obtain⟨t⟩:=hv;exact .mk (aa (i,t)) (.int i t) rfl
 | _=>exact t7 e
def ak1.is (x:ak1 p u):wQ u p:=x.casesOn λU hp U=>hp
def gD.picks {l:List V}{us:Array aD}(hv:gD Γ ρ h l us.toList):∀(is:List Nat),gD Γ ρ h (is.filterMap (l[·]?)) (is.filterMap (us[·]?)):=by
 intro zz
 induction zz with
 | nil=>
  exact rfl
 | cons i is ih=>
  by_cases q:i<l.length
  ·have q':=hv.size▸q
   rw[cO (bU q),cO (fG q')];exact⟨us[i],_,hv.get (bU q) (by refine aO (cz) ?_;exact fG q'),ih⟩
  ·have q':=hv.size▸q
   rw[dq (by simpa using q),dq (by simpa using q')];exact ih
theorem gD.jM {l:List V}(hv:gD Γ ρ h l us.toList)(lo hi st:Option Int):gD Γ ρ h (Mine.Internal.jM l lo hi st) (slicePick us lo hi st).toList:=by unfold Mine.Internal.jM Mine.Internal.picks slicePick;exact wj hv.size (gD.picks hv _)
def aI9 (sa sb sc:Option aG)(sp:sZ)(o v:aD):∃ops,aom (.Slice sa sb sc sp) aC o v=operate ops (Em o v):=by
 cases sc with
 | none=>exact⟨_,rfl⟩
 | some e=>exact⟨_,rfl⟩
def aL7 {l:List V}{us:Array aD}(hv:gD Γ ρ h l us.toList)(lo hi st:Option Int):(jM l lo hi st).length≤l.length:=wj ((hv.jM lo hi st).length) (wj hv.size (aO dR (slicePick_size_le us lo hi st)))
set_option tactic.hygienic true in
def cut_str (S:SR Γ ρ H s){lo hi st:Option Int}{sa sb sc:Option aG}(ha:ak1 lo va)(hb:ak1 hi vb)(hc:ak1 st vc)(h0:st≠aa 0)(hs:s.heap.IsSliceOf sl va vb vc):
  iY Γ l lk A ρ s (opt (mkS (Ib x lo hi st)) λv=>ok v H) (lX value (.Slice sa sb sc sp) (.str x t) (.ref sl)) (u6 Γ):=by
 refine pN (aI9 sa sb sc sp (.str x t) (.ref sl)) λops UJ=> ?_;obtain⟨ql,_,rfl⟩:=ha;obtain⟨qu,_,rfl⟩:=hb;obtain⟨qs,_,UL⟩:=hc;refine aI8 (λyw Q E P=>HD rfl F.slot_str_getitem.lookup (wpAny_getItem_str_slice hs ?_ ?_) UJ) S
 ·refine aO UL ?_
  cases st with
  | none=>rfl
  | some z=>
   have:z≠0:=λq=>h0 (aO q rfl);simpa using this
 ·unfold sliceMade slicePicked
  refine aO UL ?_;have hp:picks (ql.map (·.1)) (qu.map (·.1)) st x.length=wu (ql.map (·.1)) (qu.map (·.1)) (st.getD 1) x.length:=rfl;unfold Ib at P yw;rw[hp]at P yw
  split
  ·rename_i hif
   replace P:=(bN hif)▸P;exact P _ _
  ·rename_i hif
   rw[bk hif]at P yw;have e:jM x.cps.toList (ql.map (·.1)) (qu.map (·.1)) st=(wu (ql.map (·.1)) (qu.map (·.1)) (st.getD 1) x.length).filterMap (x.cps[·]?):=by
    delta jM;refine aO dR (aO hp ?_)
    congr 1
    funext i
    exact cz
   rw[e]at P yw;exact⟨yw,P _ _⟩
def ahs (K:N7 Γ)(S:SR Γ ρ H s){lo hi st:Option Int}{sa sb sc:Option aG}(ha:ak1 lo va)(hb:ak1 hi vb)(hc:ak1 st vc)(h0:st≠aa 0)(hs:s.heap.IsSliceOf sl va vb vc)
  (hv:VR Γ ρ s.heap (.ref j) u) (hj:H[j]?=aa o):iY Γ l lk A ρ s (a6n H lo hi st o) (lX value (.Slice sa sb sc sp) u (.ref sl)) (u6 Γ):=by
 cases o with
 | list xs=>
  obtain⟨a,us,n,_,_,hA,iB,hz⟩:=VR.list hv S hj;obtain⟨ops,UJ⟩:=aI9 sa sb sc sp (.ref a) (.ref sl);refine .alloc S (iB.jM lo hi st) (aq (aL7 iB _ _ _) hz) λQ E q=>HD (M7 hA).typeIs zF.lookup (wpAny_getItem_list_slice (M7 hA) hs ha.is hb.is hc.is h0 ?_ (iB.size▸hz)) UJ;simp only[uO]at q;exact q
 | acc c d xs=>
  obtain⟨a,dx,es,n,us,kk,_,_,hA,_,_,iB,hz,_⟩:=VR.acc hv S hj;obtain⟨ops,UJ⟩:=aI9 sa sb sc sp (.ref a) (.ref sl);refine .alloc S (iB.jM lo hi st) (aq (aL7 iB _ _ _) hz) λQ E q=>aQ2 K S.qJ ⟨_,hA,rfl⟩ UJ (aW2 hA rfl hs ha.is hb.is hc.is h0 (iB.size▸hz) ⟨_,rfl, ?_⟩);simp only[uO]at q;exact q
 | _=>exact .none
def aht (K:N7 Γ)(S:SR Γ ρ H s){sa sb sc:Option aG}(ho:VR Γ ρ s.heap o u)(ha:VR Γ ρ s.heap a va)(hb:VR Γ ρ s.heap b vb)(hc:VR Γ ρ s.heap c vc)(hs:s.heap.IsSliceOf sl va vb vc):
  iY Γ l lk A ρ s (Ez H o a b c) (lX value (.Slice sa sb sc sp) u (.ref sl)) (u6 Γ):=by
 refine .opt λlo e1=> .opt λhi e2=> .opt λst e3=> ?_;by_cases h0:st=aa 0
 ·rw[bN h0];exact .none
 rw[bk h0];cases o with
 | str x=>obtain⟨t⟩:=ho;exact cut_str S (ha.part e1) (hb.part e2) (hc.part e3) h0 hs
 | ref j=>exact .opt λx hj=>ahs K S (ha.part e1) (hb.part e2) (hc.part e3) h0 hs ho hj
 | _=>exact .none
end
section
variable {Γ:Cx}{n m:Nat}{k:Kd}
def ahu (K:N7 Γ)(ho:v9 Γ n k o mo)(hi:v9 Γ n k i mi)(hc:jt i=aB):v9 Γ (n+1) k (.Subscript o i p) (.sub mo mi):=λenv l A φ H ρ s O a S F=>
 (ho env l A φ H ρ s O a.pred S F).jb (λQ E w=>Subscript_ w) λv cU aY aU u cQ cg hv=>
  (hi env l A φ cU aY aU O a.pred cg (F.ext cQ)).jb (λQ E w=>w) λahi oE dz bK uJ du fU oJ=>ahr K hc fU (hv.ext du) oJ
def UT (ih:U0 Γ n m k)(o:Option aG)(env:fP)(l:List fP)(A:bO)(φ:Fm)(H:Hp)(ρ:fj)(s:aW)(O:v8 Γ k env)(a:jy A l n)(S:SR Γ ρ H s)(F:FR Γ l ρ s.heap env φ.loc φ.cX):iY Γ l φ.lk A ρ s (dD Γ.G n φ (Fj (cE m k) o) H) (evalPart o env) (u6 Γ):=by
 cases o with
 | some e=>exact ih e env l A φ H ρ s O a S F
 | none=>
  cases n with
  | zero=>exact .none
  | succ n=>exact .pure S rfl
def ahv (K:N7 Γ)(ih:U0 Γ n m k){sa sb sc:Option aG}(ho:v9 Γ n k o mo):v9 Γ (n+1) k (.Subscript o (.Slice sa sb sc sp) p) (.vC mo (Fj (cE m k) sa) (Fj (cE m k) sb) (Fj (cE m k) sc)):=λenv l A φ H ρ s O a S F=>
 (ho env l A φ H ρ s O a.pred S F).jb (λQ E w=>Subscript_ w) λv cU aY aU u cQ cg hv=>
  (UT ih sa env l A φ cU aY aU O a.pred cg (F.ext cQ)).jb (λQ E w=>wpAny_Slice w) λahi oE dz bK uJ du fU oJ=>
   (UT ih sb env l A φ oE dz bK O a.pred fU ((F.ext cQ).ext du)).jb (λQ E w=>w) λaJu Ag qz lL Uw qg tH yu=>
    (UT ih sc env l A φ Ag qz lL O a.pred tH (((F.ext cQ).ext du).ext qg)).jb (λQ E w=>w) λbaf aJx aqf wI a7s vU Cw UW=>
     have kp:=N6 wI.heap {cls:= .type "slice",data:= .fields #[uJ,Uw,a7s]};have rQ:=Ext.keeps kp
     λq H' e Q E P=>aht K (Cw.keeps kp) ((hv.ext (du.trans (qg.trans vU))).ext rQ) ((oJ.ext (qg.trans vU)).ext rQ) ((yu.ext vU).ext rQ) (UW.ext rQ) (yW _ _ _ _) q H' e Q E (P.ext rQ)
end
end
end Mine.Internal
end
section
namespace Mine.Internal
open PySem PySem.W PySem.Calls PyProof.Rows Builtin.ObjectAttr
variable {Γ:Cx}
structure Fv (Γ:Cx):Prop where
 hasDict:∀c,∀J:(Γ.G.bW c "__init__").isSome=au,RM Γ.K c=au
 get:∀c,∀J:(Γ.G.bW c "__init__").isSome=au,∀J:c≠Γ.G.gh,gn Γ.K (.ref c) "__getattribute__"=aa (aa (.builtin "object.__getattribute__"))
 set:∀c,∀J:(Γ.G.bW c "__init__").isSome=au,gn Γ.K (.ref c) "__setattr__"=aa (aa (.builtin "object.__setattr__"))
 over:∀c,∀J:(Γ.G.bW c "__init__").isSome=au,∃cd,Hv Γ.K c=aa cd∧(onlyObject cd.mro=au∨cd.mro= [.ref c,.type "list",.type "object"])
 attr:∀c,∀J:(Γ.G.bW c "__init__").isSome=au,∀n,∀J:G7.contains n=au,gn Γ.K (.ref c) n=aa aB
section
variable {ρ:fj}{h:bM}{v:V}{u:aD}
def VR.handed (x:VR Γ ρ h v u)(hg:SM v=au):handedIn u=au:=by
 cases v with
 | gl w=>exact qI hg
 | none=>obtain rfl:=x;rfl
 | bool b=>obtain rfl:=x;rfl
 | int i=>obtain⟨t⟩:=x;rfl
 | str i=>obtain⟨t⟩:=x;rfl
 | tup l=>obtain⟨a,vs,n,_,_⟩:=x;rfl
 | ref i=>obtain⟨a,r,_⟩:=x;rfl
 | exc c m=>obtain⟨e,o,vs,t,tk,n,_⟩:=x;rfl
 | BK k=>obtain⟨a,o,c,oc,_,_,_,_,_⟩:=x;rfl
 | mat=>obtain⟨a,o,_,_,_⟩:=x;rfl
 | QZ i=>obtain⟨a,d,_,_⟩:=x;rfl
inductive a7t (P:aD->Prop)(r:Option (Option aD)):Prop
 | mk (u:aD) (e:r=aa (aa u)) (hu:P u):a7t P r
def Va:QM y (⟨hh,.str y t,u⟩::es)=aa (aa u):=by simp [QM,Value.isStr]
def Mu (q:x≠y):QM x (⟨hh,.str y t,u⟩::es)=QM x es:=by simp [QM,Value.isStr,(J0 λz=>q z.symm),DictEntry.refKey]
def DR.look:∀{d:j7}{es:List iK},∀J:DR Γ ρ h d es,∀x,(∀v,∀J:d.lookup x=aa v,a7t (VR Γ ρ h v) (QM x es))∧(∀J:d.lookup x=aB,QM x es=aa aB):=by
 intro zz
 induction zz with
 | nil=>
  intro _ r x;obtain rfl:=r;exact⟨λv e=>t7 e,λU=>rfl⟩
 | cons hd0 d ih=>
  obtain⟨y,w⟩:=hd0;rintro _ ⟨hh,t,u,es,hv,hs⟩ x;by_cases q:x=y
  ·subst q
   exact aO List.lookup_cons_self (aO Va ⟨λv e=>⟨u,rfl,ak e▸hv⟩,λe=>nxS e⟩)
  ·refine aO (Mu q) (aO yh (aO (J0 q) ?_))
   exact ih hs x
theorem DR.some (r:DR Γ ρ h d es)(x:aJ):(QM x es).isSome=au:=by
 cases e:d.lookup x with
 | none=>refine aO ((r.look x).2 e) ?_;rfl
 | some v=>obtain⟨u,hu,_⟩:=(r.look x).1 v e;refine aO hu ?_;rfl
def DR.len:∀{d:j7}{es:List iK},∀J:DR Γ ρ h d es,es.length=d.length:=by
 intro zz
 induction zz with
 | nil=>
  intro _ r;exact congrArg Lh r
 | cons _ _ ih=>
  rintro _ ⟨_,_,_,_,_,hs⟩;exact congrArg tK (ih hs)
def DR.put (hv:VR Γ ρ h v u):∀{d:j7}{es:List iK},∀J:DR Γ ρ h d es,DR Γ ρ h (upd d x v) (putL x hsh (.str x tk) u es):=by
 intro zz
 induction zz with
 | nil=>
  intro _ r;obtain rfl:=r;exact .mk hsh tk u [] hv rfl
 | cons hd0 d ih=>
  obtain⟨y,w⟩:=hd0;rintro _ ⟨hh,t,u',es,hw,hs⟩;by_cases q:y=x
  ·subst q
   exact aO (show putL y hsh (.str y tk) u (⟨hh,.str y t,u'⟩::es)=⟨hh,.str y t,u⟩::es from bN (beq_self_eq_true y)) (aO Sv (aO (bN rfl) (.mk hh t u es hv hs)))
  ·have e:putL x hsh (.str x tk) u (⟨hh,.str y t,u'⟩::es)=⟨hh,.str y t,u'⟩::putL x hsh (.str x tk) u es:=bk λh=>q (gM h)
   exact aO e (aO Sv (aO (bk q) (.mk hh t u' _ hw (ih hs))))
end
section
variable {A:bO}{E:PQ aD}{s:aW}{x:aV}{ox:ou}{od:Option ou}
def aC7:gJ "list.__getattribute__"=aa .slot∨gJ "list.__getattribute__"=aa .method:=by decide+kernel
def aD0 (K:N7 Γ)(X:Γ.K.In s.heap)(I:InstAt s.heap x ox Γ.G.gh od)(hf:findObj Γ.K Γ.G.gh od name=aa r)
  (h:match r with
   | .value v=>handedIn v=au∧Q v {s with toks:=s.toks+1}
   | .bind g a=>aP Γ.M A.in1 (call g [a,.ref x,.ref Γ.G.gh]) (λv s'=>aP Γ.M A (handedOut v) Q E s') (λU U=>False) {s with toks:=s.toks+1}
   | .missing=>False):aP Γ.M A (En (.ref x) name expr) Q E s:=by
 refine aj (adu (bJ (aj ?_)));have X':Γ.K.In ({s with toks:=s.toks+1}:aW).heap:=X;have I':InstAt ({s with toks:=s.toks+1}:aW).heap x ox Γ.G.gh od:=I;refine I'.type.here (aj ((fD X' K.ga).here ?_));refine aj ?_;refine(fD X' K.Ux).here ?_;refine aj (yj (bJ ?_));refine pM (bk (by cases expr<;>decide)) ?_;simp only[PySem.F.slot_list_getattribute.bind];refine aj (aA ?_);refine an9 K X' (InstAt.ty I') aC7 (by decide+kernel:xm "list.__getattribute__"=aa ("list","__getattribute__")) (by decide+kernel) am_entry_list_getattribute (PySem.F.args_list_getattribute_2 _ _) ?_;refine aj (aA ?_);refine aj (aA ?_);refine aj (I'.type.here (aj ((looks_find X' I' hf).here ?_)));cases r with
 | value v=>
  refine aA ⟨v,rfl, ?_⟩;refine pM (handedOut_of h.1) ?_;exact aA h.2
 | bind g a=>
  exact aj (bJ (bH h (λv s' z=>aA ⟨v,rfl,z⟩) λU U z=>z.elim))
 | missing=>exact h.elim
def a7u (K:N7 Γ)(C:Fv Γ)(X:Γ.K.In s.heap)(I:InstAt s.heap x ox c (aa (iD es nn)))(hc:(Γ.G.bW c "__init__").isSome=au)(hn:G7.contains name=au)
  (hl:QM name es=aa (aa v)) (hv:handedIn v=au) (h:Q v {s with toks:=s.toks+1}):aP Γ.M A (En (.ref x) name au) Q E s:=by
 have f:findObj Γ.K c (aa (iD es nn)) name=aa (.value v):=findObj_own (C.hasDict c hc) (C.attr c hc name hn) rfl (by simp only[Bs];exact hl);by_cases q:c=Γ.G.gh
 ·subst q
  exact aD0 K X I f ⟨hv,h⟩
 ·exact get_value X I (C.get c hc q) f hv h
end
inductive Cy (Γ:Cx)(ρ:fj)(H:Hp)(h:bM)(i:Nat)(d:j7)(m:j7->m6):aD->Prop
 | mk (a dx c:aV) (ox:ou) (es:List iK) (n:Nat) (hi:H[i]?=aa (m d)) (hr:ρ[i]?=aa [a,dx]) (I:InstAt h a ox c (aa (iD es n))) (Bm:ox.dict=aa dx) (hd:h.get? dx=aa (iD es n)) (vg:a≠dx) (pB:DR Γ ρ h d es) (tG:(Γ.G.bW c "__init__").isSome=au)
   (re:∀h' d' Ah n',∀J:(∀b o,∀J:h.get? b=aa o,∀J:¬M3 o,h'.get? b=aa o),∀J:h'.get? a=aa ox,∀J:h'.get? dx=aa (iD Ah n'),∀J:DR Γ ρ h' d' Ah,OR Γ ρ h' (m d') [a,dx]):Cy Γ ρ H h i d m (.ref a)
section
variable {ρ:fj}{H:Hp}{s:aW}{i:Nat}{u w:aD}{l:List fP}{lk:List Nat}{A:bO}{E:PQ aD}{o v:V}{x:aJ}
def au0.dict (y:au0 Γ ρ H s.heap i c d u):Cy Γ ρ H s.heap i d (.inst c) u:=by obtain⟨a,dx,es,n,hi,hr,ha,hd,pB,h1,h2⟩:=y;exact⟨a,dx,c,_,es,n,hi,hr,⟨ha,rfl,rfl,hd⟩,rfl,hd,(λe=>by simp only[e,hd]at ha;cases ha),pB,h1,λh' d' Ah n' im e1 e2 e3=> .mk a dx Ah n' e1 e2 e3 h1 h2⟩
def Ad.dict (y:Ad Γ ρ H s.heap i c d xs u):Cy Γ ρ H s.heap i d (.acc c · xs) u:=by obtain⟨a,dx,es,n,us,k,hi,hr,ha,hd,pB,hs,hz,hc,h1⟩:=y;subst hc;exact⟨a,dx,_,_,es,n,hi,hr,⟨ha,rfl,rfl,hd⟩,rfl,hd,(λe=>by simp only[e,hd]at ha;cases ha),pB,h1,λh' d' Ah n' im e1 e2 e3=> .mk a dx Ah n' us k e1 e2 e3 (hs.mono (I2.refl ρ s.heap) im) hz rfl h1⟩
inductive a7v (Γ:Cx)(ρ:fj)(H:Hp)(h:bM)(i:Nat)(d:j7)(u:aD):Prop
 | mk (m:j7->m6) (y:Cy Γ ρ H h i d m u):a7v Γ ρ H h i d u
def Vb (S:SR Γ ρ H s)(hv:VR Γ ρ s.heap (.ref i) u)(hi:H[i]?=aa ob)(e:aI6 ob=aa d):a7v Γ ρ H s.heap i d u:=by
 cases ob with
 | inst c d'=>obtain rfl:=ak e;exact⟨_,(VR.inst hv S hi).dict⟩
 | acc c d' xs=>obtain rfl:=ak e;exact⟨_,(VR.acc hv S hi).dict⟩
 | _=>exact t7 e
def Vc (K:N7 Γ)(C:Fv Γ)(S:SR Γ ρ H s)(ho:VR Γ ρ s.heap o u):iY Γ l lk A ρ s (opt (Ls H o x) λv=>ok v H) (En u x au) (u6 Γ):= .opt λv e=> .ok λQ E P=>by refine I3 e λhn e=> ?_;refine j5 e λi e1 e=> ?_;refine j5 e λob hi e=> ?_;refine j5 e λd hd e=> ?_;refine j5 e λw hw e=> ?_;refine I3 e λhg e=> ?_;obtain rfl:=ak e;obtain rfl:=aq0 e1;obtain⟨m,⟨a,dx,c,ox,es,n,_,_,I,_,_,_,pB,tG,_⟩⟩:=Vb S ho hi hd;obtain⟨y,hy,hr⟩:=(pB.look x).1 w hw;exact a7u K C S.qJ I tG hn hy (hr.handed hg) (P.ok S hr)
def aW3 (self:aD):refuseLoop self "__setattr__" [.type "list",.type "object"]=pure ():=rfl
def axc {l:List aD}(h:onlyObject l=au∨l= [.ref c,.type "list",.type "object"])(self:aD):refuseLoop self "__setattr__" l=pure ()∧l.contains (.type "object")=au∧l.isEmpty=aC:=by
 rcases h with h | rfl
 ·exact⟨refuse_only self h,only_has h,by cases l with | nil=>cases h | cons _ _=>rfl⟩
 ·exact⟨by simp only[refuseLoop_ref,aW3],rfl,rfl⟩
def Vd (name:aJ)(hsh:Int)(key v:aD):∀es:List iK,(putL name hsh key v es).length≤es.length+1:=by
 intro zz
 induction zz with
 | nil=>
  exact aN _
 | cons e r ih=>
  show(@ite _ _ _ _ (e::putL name hsh key v r)).length≤_
  split
  ·exact eY _
  ·exact dK (ih)
def Ve {h:bM}{name:aJ}{hsh:Int}{key v:aD}(D:h.get? dx=aa (iD es nn)):(h.update dx (vq name hsh key v)).get? dx=aa (iD (putL name hsh key v es) (putN name es nn)):=by rw[←putName_dict];exact jl _ D (by rw[putName_dict];rfl)
set_option tactic.hygienic true in
def Vf {v:aD}(D:s.heap.get? dx=aa (iD es nn))(hl:(QM name es).isSome=au)(hz:es.length≤1000)
  (h:∀hsh,Q () {s with heap:=s.heap.update dx (vq name hsh (.str name s.toks) v),toks:=s.toks+1}):aP M A (nsSet dx name v) Q E s:=by
 refine aj (aj (wpAny_askSetting (aA (aj (adu (aj (kY D ?_)))))));have cc:(!es.toArray.any (·.key.isStr name)&&es.toArray.any (·.refKey))=aC:=by
  refine wj adv (wj adv ?_);unfold QM at hl
  split at hl
  ·rename_i en he
   rw[jW.mpr ⟨en,mJ he,aon he⟩];rfl
  ·split at hl
   ·exact qI hl
   ·rename_i z
    simp only[z,gY]
 refine aO (show(iD es nn).data= .dict es.toArray nn from rfl) ?_;dsimp only;rw[aRefKeyMayBeTheName_at];refine aO cc ?_;exact wpAny_updatePart D (h _)
def aJy (C:Fv Γ){v:aD}(X:Γ.K.In s.heap)(I:InstAt s.heap xa ox c (aa (iD es nn)))(hd:ox.dict=aa dx)(D:s.heap.get? dx=aa (iD es nn))
  (hc:(Γ.G.bW c "__init__").isSome=au) (hn:G7.contains name=au) (hl:(QM name es).isSome=au) (hz:es.length≤1000)
  (h:∀hsh,R (.ok (.ret .none)) {s with heap:=s.heap.update dx (vq name hsh (.str name s.toks) v),toks:=s.toks+1}):
  iw Γ.M A (.call (.builtin "object.__setattr__") ⟨[.ref xa,.str name tk,v], []⟩) R s:=by
 refine oG (C.over c hc) λcd Rh hm=> ?_;refine HY (axc hm (.ref xa)) λm1 m2 m3=> ?_;have SF:=PySem.F.store_object;refine aol SF.slot.plain SF.entry (@check_slot Γ.M _ _ s "object.__setattr__" "object" "__setattr__" (.ref xa) [.str name tk,v] [] _ SF.kind SF.split (I.type.andThen (qP X (by delta RD;refine aO Rh ?_;rw[lY,bk (by rw[m3];decide),m2]))) (SF.args (.ref xa) (.str name tk) v) ?_);rw[osa_eq,refuse_eq];refine aj (aj (I.type.here (aj (((wR X Rh).andThen .now:lC Γ.M s.heap (mroOf (.ref c)) cd.mro).here ?_))));refine aO m1 ?_;refine aA (aj (I.type.here (aj ((fD X (C.attr c hc name hn)).here (aj (aA ?_))))));obtain⟨hx,wJ,hno,-⟩:=id I;obtain⟨oc,odi,oda,osl⟩:=ox;dsimp only at wJ hd;subst wJ hd;refine aj (aA (aj (aj (kY hx (aj ((wR X Rh).here ?_))))));refine aO (show cd.hasDict=au from(any_some (C.hasDict c hc)).elim λcd' q=>ak (Rh.symm.trans q.1)▸q.2) ?_;exact aA (aj (aA (aj (Vf D hl hz λhsh=>aj (wpAny_lookBehind (Ve D) (by
  exact pastItsLine_dict (by refine aO xq ?_;exact aq (Vd name _ _ v es) (aq (dK hz) (by decide)))) (aA (h hsh)))))))
def aD1 (C:Fv Γ)(S:SR Γ ρ H s)(hv:VR Γ ρ s.heap v w){m:j7->m6}(y:Cy Γ ρ H s.heap i d m u)(hn:G7.contains x=au)(hz:d.length<100):iY Γ l lk A ρ s (put lk H i (m (upd d x v)) ()) (setAttr u x w) TT:= .put λju Q E P=>by
 obtain⟨a,dx,c,ox,es,n,hi,hr,I,Bm,hd,vg,pB,tG,re⟩:=y;refine set_plain S.qJ I (C.set c tG) (aJy C S.qJ I Bm hd tG hn (pB.some x) (pB.len▸aq (bz hz) (by decide)) λhsh=> ?_);have other:∀b,∀J:b≠dx,(s.heap.update dx (vq x hsh (.str x (s.toks+1)) w)).get? b=s.heap.get? b:=λb hb=>kI _ _ (Ne.symm hb);have D':=Ve (name:=x) (hsh:=hsh) (key:= .str x (s.toks+1)) (v:=w) hd;have A':=(other a vg).trans I.at_;have cQ:Ext Γ (n6 l) (Wr Γ lk ρ) ρ s ρ {s with heap:=s.heap.update dx (vq x hsh (.str x (s.toks+1)) w),toks:=s.toks+1+1}:=Ext.Fq S hi hr ju (λb o hb e=>(other b λz=>hb (z▸ .tail _ (.head _))).trans e) λb hb=>by
  rcases bc.mp hb with rfl | q
  ·exact⟨_,A'⟩
  ·cases aH.mp q
   exact⟨_,D'⟩
 exact P ρ _ () cQ (S.Fq hi hr (λb o hb e=>(other b λz=>hb (z▸ .tail _ (.head _))).trans e) (re _ _ _ _ cQ.vf.vG A' D' (DR.put (hv.mono (I2.refl ρ s.heap) cQ.vf.vG) (pB.mono (I2.refl ρ s.heap) cQ.vf.vG)))) trivial
def Vg (C:Fv Γ)(S:SR Γ ρ H s)(ho:VR Γ ρ s.heap o u)(hv:VR Γ ρ s.heap v w):iY Γ l lk A ρ s (X4 lk H o x v) (setAttr u x w) TT:=by
 refine .fu λhn=> .opt λi e=> .opt λob hi=> ?_;obtain rfl:=aq0 e;cases ob with
 | inst c d=>exact .fu λhz=>aD1 C S hv (VR.inst ho S hi).dict hn (gH hz)
 | acc c d xs=>exact .fu λhz=>aD1 C S hv (VR.acc ho S hi).dict hn (gH hz)
 | _=>exact .none
end
def az6 (h:af5 o=au)(x:aJ)(env:fP)(w:Sem aD):lZ o x env w=w:=by
 cases o with
 | Call f l ks p=>
  cases f with
  | Name y q=>
   cases l with
   | nil=>
    cases ks with
    | nil=>exact qI h
    | cons _ _=>rfl
   | cons _ _=>rfl
  | _=>rfl
 | _=>rfl
def Vh (K:N7 Γ)(C:Fv Γ)(ho:v9 Γ n k o mo)(hb:af5 o=au):v9 Γ (n+1) k (.Attribute o x p) (.attr mo x):=λenv l A φ H ρ s O a S F=>
 (ho env l A φ H ρ s O a.pred S F).jb (λQ E w=>by
  show aP _ _ (do
   let ov←lZ o x env (eval o env)
   nJ p.atName
   let r←pR [ov] (En ov x au)
   letTemporaryGo o ov r
   pure r) _ _ _
  rw[az6 hb];exact aj (bH w (λu s' z=>aj (dM (aj (bJ (bH z (λr bK z=>aj (wN (aA z))) λU U z=>z))))) λU U z=>z)) λv cU aY aU u cQ cg hv=>Vc K C cg hv
end Mine.Internal
end
section
namespace Mine.Internal
open PySem PySem.W PySem.Calls PyProof.Rows
section
def vV (Γ:Cx)(k:Kd)(lk:List Nat)(ρ:fj)(env:fP)(b:aV):Prop:=Wr Γ lk ρ b∨b=env.locals∨∃x,k x=aa .cell∧env.cells.lookup x=aa b
inductive ahw (P:aD->Prop):Flow->Prop
 | mk (u:aD) (hu:P u):ahw P (.ret u)
def zg (Γ:Cx)(ρ:fj)(h:bM):Fl->Flow->Prop
 | .next=>(·= .next)
 | .brk=>(·= .brk)
 | .cont=>(·= .cont)
 | .ret v=>ahw (VR Γ ρ h v)
def I9 (Γ:Cx)(k:Kd)(l:List fP)(env:fP)(lk:List Nat)(ρ:fj)(s:aW){α β:Type}(q:Res α)(jH:St)(R:fj->bM->α->β->Prop)(Q:PQ β)(E:PQ aD):Prop:=match q with
 | .ok v=>∀fK s' u,∀J:Ext Γ (n6 l) (vV Γ k lk ρ env) ρ s fK s',∀J:SR Γ fK jH.hp s',∀J:FR Γ l fK s'.heap env jH.loc jH.cX,∀J:R fK s'.heap v u,Q u s'
 | .exc c m=>∀fK s' e X,∀J:Ext Γ (n6 l) (vV Γ k lk ρ env) ρ s fK (tE s' X),∀J:SR Γ fK jH.hp (tE s' X),∀J:FR Γ l fK (tE s' X).heap env jH.loc jH.cX,∀J:Fly s.heap l c m X s'.heap e,E e s'
def I8 (Γ:Cx)(k:Kd)(l:List fP)(env:fP)(lk:List Nat)(ρ:fj)(s:aW){α β:Type}(r:G5 α)(W:∀J:(PQ β),∀J:(PQ aD),Prop)(R:fj->bM->α->β->Prop):Prop:=
 ∀q jH,∀J:r=aa (q,jH),∀(Q:PQ β)(E:PQ aD),∀J:I9 Γ k l env lk ρ s q jH R Q E,W Q E
section
variable {Γ:Cx}{k:Kd}{l:List fP}{env:fP}{lk:List Nat}{A:bO}{ρ aY fK:fj}{H H':Hp}{s aU s':aW}{σ ir jH:St}{α β γ δ:Type}{R:fj->bM->α->β->Prop}{R':fj->bM->γ->∀J:δ,Prop}{Q:PQ β}{E:PQ aD}{W:∀J:(PQ β),∀J:(PQ aD),Prop}
def vV.back (g:I2 ρ h fK)(q:vV Γ k lk fK env b):vV Γ k lk ρ env b∨h.get? b=aB:=
 q.elim (λq=>(g.wr q).imp .inl id) λq=> .inl (.inr q)
def Ext.toS (x:Ext Γ (n6 l) (Wr Γ lk ρ) ρ s fK s'):Ext Γ (n6 l) (vV Γ k lk ρ env) ρ s fK s':=x.weaken λU q=> .inl q
def I9.ext (P:I9 Γ k l env lk ρ s q jH R Q E)(x:Ext Γ (n6 l) (vV Γ k lk ρ env) ρ s aY aU):I9 Γ k l env lk aY aU q jH R Q E:=by
 cases q with
 | ok _=>exact λfK s' u x' S' F' r=>P fK s' u (x.trans' x' λb q=>q.back x.grow) S' F' r
 | exc _ _=>exact λfK s' e X x' S' F' r=>P fK s' e X (x.trans' x' λb q=>q.back x.grow) S' F' (r.less x.live)
def I9.take (ev:aa (r,σ)=aa (q,jH))(P:I9 Γ k l env lk ρ s q jH R Q E):I9 Γ k l env lk ρ s r σ R Q E:=by cases ev;exact P
def I9.done (P:I9 Γ k l env lk ρ s (.ok v) σ R Q E)(S:SR Γ ρ σ.hp s)(F:FR Γ l ρ s.heap env σ.loc σ.cX)(r:R ρ s.heap v u):Q u s:=P ρ s u .refl S F r
def I8.none:I8 Γ k l env lk ρ s (aB:G5 α) W R:=λU U e=>iz e
theorem I8.ok (h:∀Q E,∀J:I9 Γ k l env lk ρ s (.ok v) σ R Q E,W Q E):I8 Γ k l env lk ρ s (aa (.ok v,σ)) W R:=λU U e Q E P=>h Q E (P.take e)
theorem I8.opt {f:α->G5 γ}{W:∀J:(PQ δ),∀J:(PQ aD),Prop}(h:∀a,∀J:o=aa a,I8 Γ k l env lk ρ s (f a) W R'):I8 Γ k l env lk ρ s (opt o f) W R':=by
 cases o with
 | none=>exact .none
 | some a=>exact h a rfl
theorem I8.fu (h:∀J:b=au,I8 Γ k l env lk ρ s r W R):I8 Γ k l env lk ρ s (fu b r) W R:=by
 cases b with
 | true=>exact h rfl
 | false=>exact .none
def I8.of (h:I8 Γ k l env lk ρ s r W R)(i:∀Q E,∀J:W Q E,W' Q E):I8 Γ k l env lk ρ s r W' R:=λq H' e Q E P=>i Q E (h q H' e Q E P)
def I8.lift (h:q7 Γ l lk ρ s r W R)(F:FR Γ l ρ s.heap env σ.loc σ.cX):I8 Γ k l env lk ρ s (lq σ r) W R:=λq jH ev Q E P=>by
 rcases r with _ | ⟨v | ⟨c,m⟩,cU⟩
 ·exact iz ev
 ·exact h _ _ rfl _ _ λaY aU u x cg r=>P.take ev aY aU u x.toS cg (F.ext x) r
 ·exact h _ _ rfl _ _ λaY aU e X x cg f=>(P.take ev:I9 Γ k l env lk ρ s (.exc c m) {σ with hp:=cU} R Q E) aY aU e X x.toS cg (F.ext x) f
def I8.step {f:α->St->G5 γ}(h:I8 Γ k l env lk ρ s r W R)(ev:Q5 r f=aa (q,jH))(P:I9 Γ k l env lk ρ s q jH R' Q' E)
  (kk:∀v ir aY aU u,∀J:f v ir=aa (q,jH),∀J:Ext Γ (n6 l) (vV Γ k lk ρ env) ρ s aY aU,∀J:SR Γ aY ir.hp aU,∀J:FR Γ l aY aU.heap env ir.loc ir.cX,∀J:R aY aU.heap v u,∀J:I9 Γ k l env lk aY aU q jH R' Q' E,Q u aU):W Q E:=by
 rcases r with _ | ⟨v | ⟨c,m⟩,ir⟩
 ·exact iz ev
 ·exact h _ _ rfl _ _ λaY aU u x cg oF r=>kk v ir aY aU u ev x cg oF r (P.ext x)
 ·exact h _ _ rfl _ _ (P.take ev:I9 Γ k l env lk ρ s (.exc c m) ir R' Q' E)
def I8.DN {f:α->St->G5 γ}{uI:β->aW->∀J:(PQ δ),∀J:(PQ aD),Prop}(h:I8 Γ k l env lk ρ s r W R)(Du:∀Q E,∀J:W (λu s'=>uI u s' Q E) E,W' Q E)
  (kk:∀v ir aY aU u,∀J:Ext Γ (n6 l) (vV Γ k lk ρ env) ρ s aY aU,∀J:SR Γ aY ir.hp aU,∀J:FR Γ l aY aU.heap env ir.loc ir.cX,∀J:R aY aU.heap v u,I8 Γ k l env lk aY aU (f v ir) (uI u aU) R'):I8 Γ k l env lk ρ s (Q5 r f) W' R':=
 λU U ev Q E P=>Du Q E (h.step ev P λv ir aY aU u lU x cg oF r Fw=>kk v ir aY aU u x cg oF r _ _ lU Q E Fw)
def q7.zQ {f:α->St->G5 γ}(h:q7 Γ l lk ρ s r W R)(F:FR Γ l ρ s.heap env σ.loc σ.cX)(ev:Q5 (lq σ r) f=aa (q,jH))(P:I9 Γ k l env lk ρ s q jH R' Q' E)
  (kk:∀v cU aY aU u,∀J:f v {σ with hp:=cU}=aa (q,jH),∀J:Ext Γ (n6 l) (Wr Γ lk ρ) ρ s aY aU,∀J:SR Γ aY cU aU,∀J:R aY aU.heap v u,∀J:I9 Γ k l env lk aY aU q jH R' Q' E,Q u aU):W Q E:=by
 rcases r with _ | ⟨v | ⟨c,m⟩,cU⟩
 ·exact iz ev
 ·exact h _ _ rfl _ _ λaY aU u x cg r=>kk v cU aY aU u ev x cg r (P.ext x.toS)
 ·exact h _ _ rfl _ _ λaY aU e X x cg f=>(P.take ev:I9 Γ k l env lk ρ s (.exc c m) {σ with hp:=cU} R' Q' E) aY aU e X x.toS cg (F.ext x) f
def q7.Cz {f:α->St->G5 γ}{uI:β->aW->∀J:(PQ δ),∀J:(PQ aD),Prop}(h:q7 Γ l lk ρ s r W R)(F:FR Γ l ρ s.heap env σ.loc σ.cX)(Du:∀Q E,∀J:W (λu s'=>uI u s' Q E) E,W' Q E)
  (kk:∀v cU aY aU u,∀J:Ext Γ (n6 l) (Wr Γ lk ρ) ρ s aY aU,∀J:SR Γ aY cU aU,∀J:R aY aU.heap v u,I8 Γ k l env lk aY aU (f v {σ with hp:=cU}) (uI u aU) R'):I8 Γ k l env lk ρ s (Q5 (lq σ r) f) W' R':=
 λU U ev Q E P=>Du Q E (h.zQ F ev P λv cU aY aU u lU x cg r Fw=>kk v cU aY aU u x cg r _ _ lU Q E Fw)
def iY.stmt {f:α->St->G5 γ}{uI:β->aW->∀J:(PQ δ),∀J:(PQ aD),Prop}(h:iY Γ l lk A' ρ s r t R)(F:FR Γ l ρ s.heap env σ.loc σ.cX)(Du:∀Q E,∀J:aP Γ.M A' t (λu s'=>uI u s' Q E) E s,W' Q E)
  (kk:∀v cU aY aU u,∀J:Ext Γ (n6 l) (Wr Γ lk ρ) ρ s aY aU,∀J:SR Γ aY cU aU,∀J:R aY aU.heap v u,I8 Γ k l env lk aY aU (f v {σ with hp:=cU}) (uI u aU) R'):I8 Γ k l env lk ρ s (Q5 (lq σ r) f) W' R':=
 q7.Cz h F Du kk
end
structure Own (k:Kd)(env:fP)(l:List fP):Prop where
 kd:∀x,env.kindOf x=k x
 head:∃r,l=env::r
 frame:env.frame=aa env.locals
def W0 (Γ:Cx)(n:Nat)(k:Kd)(st:pK)(ms:t6):Prop:=
 ∀(env:fP)(l:List fP)(A:bO)(lk:List Nat)(σ:St)(ρ:fj)(s:aW),∀J:v8 Γ k env,∀J:Own k env l,∀J:jy A l n,∀J:SR Γ ρ σ.hp s,∀J:FR Γ l ρ s.heap env σ.loc σ.cX,I8 Γ k l env lk ρ s (ik Γ.G n lk ms σ) (λQ E=>aP Γ.M A (adw st env) Q E s) (zg Γ)
def CG (Γ:Cx)(n:Nat)(k:Kd)(t:aG)(mt:j0):Prop:=
 ∀(env:fP)(l:List fP)(A:bO)(lk:List Nat)(v:V)(σ:St)(ρ:fj)(s:aW)(u:aD),∀J:v8 Γ k env,∀J:jy A l n,∀J:SR Γ ρ σ.hp s,∀J:FR Γ l ρ s.heap env σ.loc σ.cX,∀J:VR Γ ρ s.heap v u,I8 Γ k l env lk ρ s (I6 Γ.G n lk mt v σ) (λQ E=>aP Γ.M A (wU t env u) Q E s) TT
abbrev yx (Γ:Cx)(n:Nat):Prop:=∀m k st,W0 Γ n k st (cS m k st)
section
variable {Γ:Cx}{k:Kd}{l:List fP}{lk:List Nat}{A:bO}{ρ:fj}{H:Hp}{s s':aW}{h h':bM}{c:aV}{o o':ou}{env:fP}{loc cX:j7}{x:aJ}{v:V}{u:aD}{W:aV->Prop}{FS:List aV}
def qL.vh {m:aJ->Option aD}(x:h.Ns a m):V2 h a:=by obtain⟨o,es,ep,ho,hd,_⟩:=x;exact⟨o,ho,.inr (.inr (.inr (.inr (.inr (.inr (.inl ⟨es,ep,hd⟩))))))⟩
def uY.vh {v:Option aD}(x:h.IsCell a v):V2 h a:=oG x λo ho hd=>⟨o,ho,.inr (.inr (.inr (.inr (.inr (.inr (.inr (.inl ⟨v,hd⟩)))))))⟩
def aJ0 (T:V2 h c)(sb:∀b,∀J:b≠c,h'.get? b=h.get? b)(b:aV)(o:ou)(e:h.get? b=aa o)(n:¬M3 o):h'.get? b=aa o:=
 (sb b λq=>T.casesOn λU ho hm=>n (ak ((q▸ho).symm.trans e)▸hm)).trans e
def SR.apart1 (S:SR Γ ρ H s)(T:V2 s.heap c)(hr:c∉ρ.flatten)(ht:c∉Γ.tabs)(hg0:Γ.g0.get? c=aB)(sb:∀b,∀J:b≠c,s'.heap.get? b=s.heap.get? b)(hg:s'.gens=s.gens:=by rfl):SR Γ ρ H s':=⟨S.len,S.nodup,λi o' e=>(S.objs i o' e).imp λr q=>⟨q.1,q.2.mono (I2.refl ρ s.heap) (aJ0 T sb) λb hb o'' e'=>(sb b λz=>hr (cM.mpr ⟨r,bV q.1,z▸hb⟩)).trans e'⟩,λb o' e=>(sb b λq=>by simp only[q,hg0]at e;exact iz e).trans (S.base b o' e),S.apart,S.mz,hg▸S.gens,S.Mh (λb o hb e=>(sb b λq=>ht (q▸hb)).trans e) (aJ0 T sb)⟩
def Ext.apart1 (T:V2 s.heap c)(hW:W c)(uf:s'.heap.get? c=aa o')(sb:∀b,∀J:b≠c,s'.heap.get? b=s.heap.get? b)(h1:s'.os=s.os:=by rfl)(h2:s'.drawn=s.drawn:=by rfl):Ext Γ FS W ρ s ρ s':=
 T.casesOn λo ho hm=>⟨.refl _ _,.TV ho hm hW λb o e q=>(sb b e).trans q,λb o q=>if e:b=c then⟨o',e▸uf⟩ else⟨o,(sb b e).trans q⟩,h1,h2⟩
def ac6:(upd e x v).lookup y=if y=x then aa v else e.lookup y:=by
 induction e with
 | nil=>
  simp only[show upd [] x v= [(x,v)] from rfl,nY];by_cases h:y=x
  ·subst h;simp
  ·simp [h,J0 h]
 | cons p r ih=>
  obtain⟨z,u⟩:=p;refine aO Sv ?_;by_cases h:z=x
  ·subst h
   simp only[if_true,nY];by_cases h':y=z
   ·subst h';simp
   ·simp [h',J0 h']
  ·simp only[bk h,nY]
   by_cases h':y=z
   ·subst h';simp [h]
   ·simp [J0 h',ih]
def VR.one (T:V2 h c)(sb:∀b,∀J:b≠c,h'.get? b=h.get? b)(x:VR Γ ρ h v u):VR Γ ρ h' v u:=x.mono (I2.refl ρ h) (aJ0 T sb)
def TY.one (y:TY h b)(sb:∀J:b≠c,h'.get? b=h.get? b)(hc:∀J:b=c,TY h' b):TY h' b:=by
 by_cases q:b=c
 ·exact hc q
 ·obtain⟨o,w,ho,hd⟩:=y
  exact⟨o,w,(sb q).trans ho,hd⟩
def H8.one (K:H8 Γ l ρ h)(sb:∀b,∀J:b≠c,h'.get? b=h.get? b)(hc:∀o es n,∀J:h.get? c=aa o,∀J:o.data= .dict es n,∃o' es n,h'.get? c=aa o'∧o'.data= .dict es n):H8 Γ l ρ h':=λe he=>by
 obtain⟨L,o,es,n,hk,hf,ho,hd,r1,r2,r3⟩:=K e he;by_cases q:L=c
 ·subst q
  obtain⟨o',Ah,n',h1,h2⟩:=hc o es n ho hd;exact⟨L,o',Ah,n',hk,hf,h1,h2,r1,r2,r3⟩
 ·exact⟨L,o,es,n,hk,hf,(sb L q).trans ho,hd,r1,r2,r3⟩
def FR.Vi {m':aJ->Option aD}(F:FR Γ l ρ h env loc cX)(T:V2 h env.locals)(zc:h'.Ns env.locals m')(sb:∀b,∀J:b≠env.locals,h'.get? b=h.get? b)(hl:∀y v,∀J:zj.lookup y=aa v,∃u,m' y=aa u∧VR Γ ρ h v u)(lw:∀J:(zj.lookup ("errors":aJ)).isSome=au,Γ.sE env):FR Γ l ρ h' env zj cX:=by
 refine⟨F.uc.one sb λU U U U U=> ?_,⟨_,zc,λy w e=>(hl y w e).imp λu q=>⟨q.1,q.2.one T sb⟩⟩,λy w e=> ?_,F.wH,F.xH,F.xJ,F.sU,F.Ac,F.vR,λy c e=>(F.oH y c e).one (sb c) λq=>absurd q (F.neL y c e),F.apart,F.neL,lw⟩
 ·obtain⟨o',es,ep,uf,zf,_⟩:=zc
  exact⟨o',es,ep,uf,zf⟩
 ·obtain⟨c,u',hc,⟨o,ho,hd⟩,hv'⟩:=F.cells y w e
  exact⟨c,u',hc,⟨o,(sb c (F.neL y c hc)).trans ho,hd⟩,hv'.one T sb⟩
def FR.stLoc {m:aJ->Option aD}(hxs:∀J:x=("errors":aJ),Γ.sE env)(F:FR Γ l ρ h env loc cX)(hn:h.Ns env.locals m)(hl:∀y v,∀J:loc.lookup y=aa v,∃u,m y=aa u∧VR Γ ρ h v u)
  (zc:h'.Ns env.locals (λy=>if y=x then aa u else m y)) (sb:jE env.locals h h') (hv:VR Γ ρ h v u):FR Γ l ρ h' env (upd loc x v) cX:=by
 refine F.Vi (qL.vh hn) zc sb.2 (λy w e=> ?_) λh=> ?_
 ·rw[ac6]at e
  by_cases q:y=x
  ·rw[bN q]at e
   exact⟨u,bN q,ak e▸hv⟩
  ·rw[bk q]at e
   exact(hl y w e).imp λu' q'=>⟨(bk q).trans q'.1,q'.2⟩
 ·by_cases q:x=("errors":aJ)
  ·exact hxs q
  ·exact F.Fp (by rwa [ac6,bk (λz=>q z.symm)]at h)
def FR.a7x (F:FR Γ l ρ h env loc cX)(hx:env.cells.lookup x=aa c)(hc:h.IsCell c bak)(hc':h'.IsCell c (aa u))(sb:jE c h h')(hv:VR Γ ρ h v u):FR Γ l ρ h' env loc (upd cX x v):=by
 have T:=uY.vh hc;obtain⟨m,hn,hl⟩:=F.ns;refine⟨F.uc.one sb.2 λo es n e1 e2=> ?_,⟨m,hn.sameBut sb (λq=>F.neL x c hx q.symm),λy w e=>(hl y w e).imp λu' q=>⟨q.1,q.2.one T sb.2⟩⟩,λy w e=> ?_,F.wH,F.xH,F.xJ,F.sU,F.Ac,F.vR,λy c1 e=>(F.oH y c1 e).one (sb.2 c1) λq=> ?_,F.apart,F.neL,F.Fp⟩
 ·refine oG hc λo2 e3 e4=> ?_
  obtain rfl:=ak (e1.symm.trans e3);cases e2.symm.trans e4
 ·rw[ac6]at e
  by_cases q:y=x
  ·rw[bN q]at e
   exact⟨c,u,q▸hx,hc',(ak e▸hv).one T sb.2⟩
  ·rw[bk q]at e
   obtain⟨c1,u',hc1,hi,hv'⟩:=F.cells y w e;exact⟨c1,u',hc1,hi.sameBut sb (λq'=>q (F.apart y x c1 hc1 (q'▸hx))),hv'.one T sb.2⟩
 ·refine oG hc' λo' uf zf=> ?_
  exact⟨o',_,q▸uf,zf⟩
def Fx {σ:St}(O:v8 Γ k env)(hx:k x=aa .local)(S:SR Γ ρ σ.hp s)(F:FR Γ l ρ s.heap env σ.loc σ.cX)(hv:VR Γ ρ s.heap v u)
  (P:∀s',∀J:Ext Γ (n6 l) (vV Γ k lk ρ env) ρ s ρ s',∀J:SR Γ ρ σ.hp s',∀J:FR Γ l ρ s'.heap env (upd σ.loc x v) σ.cX,Q () s'):aP Γ.M A (storeName env x u) Q E s:=by
 obtain⟨m,hn,hl⟩:=F.ns;refine qt (O.loc x hx) hn (λh' zc sb=> ?_) (by refine aO O.kind ?_;rfl);obtain⟨o',uf,_⟩:=qL.vh zc;exact P _ (.apart1 (qL.vh hn) (.inr (.inl rfl)) uf sb.2) (S.apart1 (qL.vh hn) F.wH F.xJ F.Ac sb.2) (FR.stLoc (λe=>O.Fp (e▸hx)) F hn hl zc sb hv)
def axd {σ:St}(O:v8 Γ k env)(hx:k x=aa .cell)(hxc:x≠("__class__":aJ))(S:SR Γ ρ σ.hp s)(F:FR Γ l ρ s.heap env σ.loc σ.cX)(hv:VR Γ ρ s.heap v u)
  (P:∀s',∀J:Ext Γ (n6 l) (vV Γ k lk ρ env) ρ s ρ s',∀J:SR Γ ρ σ.hp s',∀J:FR Γ l ρ s'.heap env σ.loc (upd σ.cX x v),Q () s'):aP Γ.M A (storeName env x u) Q E s:=by
 refine tL (λhk hs=> ?_) (O.agg x hx);obtain⟨c,hc⟩:=bT.mp hs;obtain⟨o,w,ho,hd⟩:=F.oH x c hc;have hi:s.heap.IsCell c w:=⟨o,ho,hd⟩;have T:=uY.vh hi;refine wpAny_storeName_cell O.kind hk hc hi λh' Fz sb=> ?_;obtain⟨o',uf,_⟩:=uY.vh Fz;exact P _ (.apart1 T (.inr (.inr ⟨x,hx,hc⟩)) uf sb.2) (S.apart1 T (F.xH x c hc) (F.sU x c hc) (F.vR x c hc hxc) sb.2) (F.a7x hc hi Fz sb hv)
end
section
variable {Γ:Cx}{n:Nat}{k:Kd}
def Vj (hx:k x=aa .local):CG Γ (n+1) k (.Name x p) (.loc x):=λenv l A lk v σ ρ s u O a S F hv=> .ok λQ E P=>
 ud (Fx O hx S F hv λs' x' S' F'=>P ρ s' () x' S' F' trivial)
def Vk (hx:k x=aa .cell)(hxc:x≠("__class__":aJ)):CG Γ (n+1) k (.Name x p) (.cX x):=λenv l A lk v σ ρ s u O a S F hv=> .ok λQ E P=>
 ud (axd O hx hxc S F hv λs' x' S' F'=>P ρ s' () x' S' F' trivial)
def af0:CG Γ n k t .bad:=by
 cases n with
 | zero=>exact λU U U U U U U U U U U U U U=> .none
 | succ n=>exact λU U U U U U U U U U U U U U=> .none
def Mv (C:Fv Γ)(ho:v9 Γ n k o mo):CG Γ (n+1) k (.Attribute o x p) (.attr mo x):=λenv l A lk v σ ρ s u O a S F hv=>by
 refine .lift ((ho env l A (σ.fm lk) σ.hp ρ s O a.pred S F).jb (λQ E w=> ?_) λov cU aY aU CJ cQ cg qQ=>Vg (A:=A) C cg qQ (hv.ext cQ)) F;show aP _ _ (do
  let ov←pR [u] (eval o env)
  nJ p.atName
  pR [u,ov] (setAttr ov x u)
  release [u,ov] []) _ _ _
 exact aj (bJ (bH w (λov s' z=>aj (dM (aj (bJ (bH z (λU U z=>QQ z) λU U z=>z))))) λU U z=>z))
end
end
section
structure O9 (Γ:Cx):Prop where
 bW:∀c x g,∀J:Γ.G.bW c x=aa g,gn Γ.K (.ref c) x=aa (aa (.ref g))∧sI Γ.K (.ref g)=aa (.type "function")∧(Γ.G.fn g).isSome
 get:∀c x g,∀J:Γ.G.bW c x=aa g,(∃ga,gn Γ.K (.ref c) "__getattribute__"=aa (aa (.builtin ga))∧jV ga="object.__getattribute__")∧gn Γ.K (.ref c) "__getattr__"=aa aB
structure ag8 (Γ:Cx):Prop where
 plain:∀c,∀J:(Γ.G.bW c "__init__").isSome=au,Hx Γ.K c=au
set_option backward.match.sparseCases true in
abbrev Ret (Q:PQ aD)(E:PQ aD):PQ Ba:=λr s'=>match r with | .ok (.ret v)=>Q v s' | .ok _=>False | .error e=>E e s'
def CK (Γ:Cx)(n:Nat):Prop:=
 ∀(l:List fP)(A:bO)(lk:List Nat)(a:aV)(vs ks:List V)(kn:List aJ)(H:Hp)(ρ:fj)(s:aW)(us mG:List aD),∀J:jy A l n,∀J:SR Γ ρ H s,∀J:H8 Γ l ρ s.heap,∀J:gD Γ ρ s.heap vs us,∀J:gD Γ ρ s.heap ks mG,q7 Γ l lk ρ s (o6 Γ.G n lk a vs kn ks H) (λQ E=>iw Γ.M A (.call (.ref a) ⟨us,kn.zip mG⟩) (Ret Q E) s) (u6 Γ)
section
variable {M:Br}{A:bO}{E:PQ aD}{s:aW}{l:aV}{o:ou}{items:Array aD}{nn:Nat}{F:PQ Fin}
def aW4 (ho:s.heap.get? l=aa o)(hd:o.data= .seq items nn)(Uz:eQ k=au)(hk:jP k items.size=aa j)(hj:j<items.size)
  (h:F (.done (.ret .none)) {s with heap:=s.heap.update l (dY (·.setIfInBounds j v))}):aP M A (fB.«list.__setitem__» ⟨[.ref l,.int k t,v], []⟩) F E s:=by
 show aP _ _ (iJ (.int k t)>>=_) _ _ s;refine aj (RL Uz ?_);cases k with
 | ofNat p=>
  have hp:=(ao0 hk).elim (λq=>q.2) λq=>absurd q.1 (ig.mpr (cA p));subst hp;exact aj (aj (wpAny_seqItemAt ho hd (aA (aO (fG hj) (aj (wpAny_setSeqItemAt ho hd (aA h)))))))
 | negSucc p=>
  refine aj (aj ?_);refine aj (nq ho hd (aA (aA ?_)));refine aO hk ?_;rw[lY];refine aO (fG hj) ?_;exact(aj (wpAny_setSeqItemAt ho hd (aA h)))
def aQ4 {n m a b:Nat}(h:a≤b):min a n+m+(n-b)≤n+m:=by rw[gq];exact aK ((Nat.le_total b n).elim (λq=>aq (aK (aq (aus _ _) h) _) (cN (afh q))) λq=>aO (Li q) (tM _ _)) m
def Vl (h:a≤b):min a n-0+m+(min n n-b)≤n+m:=by rw[Nat.min_self];exact aQ4 h
def aQ5 (x y:Int):x.toNat≤(max x y).toNat:=Int.toNat_le_toNat (aut x y)
def aD2 {lo hi:Option Int}(ho:s.heap.get? l=aa o)(hd:o.data= .seq items nn)(hs:s.heap.IsSliceOf sl vl vu .none)(pl:wQ vl lo)(pu:wQ vu hi)
  (hj:s.heap.get? j=aa oj) (hjd:oj.data= .seq new nj) (hjc:oj.cls= .type "list") (hz:items.size+new.size≤sJ)
  (h:F (.done (.ret .none)) {s with heap:=s.heap.update l (dY λxs=>xs.extract 0 (eU lo hi aB items.size).1.toNat++new++xs.extract (max (eU lo hi aB items.size).1 (eU lo hi aB items.size).2.1).toNat xs.size)}):
  aP M A (fB.«list.__setitem__» ⟨[.ref l,.ref sl,.ref j], []⟩) F E s:=by
 show aP _ _ (iJ (.ref sl)>>=_) _ _ s;refine aj (ax1 hs ?_);refine Su (id hs) λos hos DP hds=> ?_;refine aj (zG ⟨os,hos,DP⟩ ?_);refine pM (bk (by decide)) ?_;refine aj (aQ3 hs pl pu .none (by simp) ?_);have N:∀{Q:PQ (Array aD)},∀J:Q new s,aP M A (Builtin.List.listAllItems (.ref j) "must assign iterable to extended slice") Q E s:=λq=>by exact aj (zG ⟨oj,hj,hjc⟩ (pM (bN (by decide)) (am1 hj hjd q)))
 dsimp only
 split
 case' isTrue=>refine aj (am1 hj hjd ?_)
 case' isFalse=>refine aj (N ?_)
 all_goals
  refine aj (am1 ho hd ?_);refine aj (gj (sliceIndices_raw lo hi aB items.size (by simp)) ?_);show aP _ _ (if ((1:Int)==1)=au then _ else _) _ _ s;rw[bN (by decide)];refine aj (lG ?_);rw[bk (by delta xj;simpa using hz)];refine aj (vM ho hd ?_ (aq (bh _ _) (by assumption)) ?_)
  ·exact aj (aoo (aA h))
  ·simp only[wM,wM,QR,QR]
   exact iT (aq (Vl (aQ5 _ _)) hz)
end
section
variable {Γ:Cx}{ρ:fj}{H:Hp}{s:aW}{h:bM}{i:Nat}{u v w x:aD}{l:List fP}{lk:List Nat}{A:bO}{E:PQ aD}{Q:PQ Unit}
def aQ6 {m:List V->m6}(S:SR Γ ρ H s)(hi:H[i]?=aa (m xs))(hr:ρ[i]?=aa (b::r))(ha:s.heap.get? b=aa {cls:=c,dict:=d,data:= .seq us n})(hb:b∉r)(lv:∀a∈r,∃o,s.heap.get? a=aa o)
  (re:∀h' l' us' n',∀J:(∀b o,∀J:s.heap.get? b=aa o,∀J:¬M3 o,h'.get? b=aa o),∀J:h'.get? b=aa {cls:=c,dict:=d,data:= .seq us' n'},∀J:(∀a∈r,h'.get? a=s.heap.get? a),∀J:gD Γ ρ h' l' us'.toList,∀J:l'.length≤16777216,OR Γ ρ h' (m l') (b::r))
  (ju:i∉lk) (f:Array aD->Array aD) (hv:gD Γ ρ s.heap xs' (f us).toList) (hz:xs'.length≤16777216) (tk:Nat) {R:fj->bM->Unit->Unit->Prop} (P:∀x:Ext Γ (n6 l) (Wr Γ lk ρ) ρ s ρ {s with heap:=s.heap.update b (dY f),toks:=tk},∀J:SR Γ ρ (H.set i (m xs')) {s with heap:=s.heap.update b (dY f),toks:=tk},Q () {s with heap:=s.heap.update b (dY f),toks:=tk}):
  Q () {s with heap:=s.heap.update b (dY f),toks:=tk}:=by
 have hB:∃n',(s.heap.update b (dY f)).get? b=aa {cls:=c,dict:=d,data:= .seq (f us) n'}:=⟨_,jl _ ha rfl⟩;obtain⟨n',hB⟩:=hB;have other:∀a,∀J:a≠b,(s.heap.update b (dY f)).get? a=s.heap.get? a:=λa h=>kI _ _ (Ne.symm h);have x:Ext Γ (n6 l) (Wr Γ lk ρ) ρ s ρ {s with heap:=s.heap.update b (dY f),toks:=tk}:=Ext.Fq S hi hr ju (λa o h e=>(other a λz=>h (z▸ .head _)).trans e) λa h=>by
  rcases bc.mp h with rfl | q
  ·exact⟨_,hB⟩
  ·exact(lv a q).imp λo e=>((λa h=>other a λe=>hb (e▸h)) a q).trans e
 exact P x (S.Fq hi hr (λa o h e=>(other a λz=>h (z▸ .head _)).trans e) (re _ _ _ _ x.vf.vG hB (λa h=>other a λe=>hb (e▸h)) (hv.ext x) hz))
def ab8 (S:SR Γ ρ H s)(hi:H[i]?=aa (.list xs))(hr:ρ[i]?=aa [b])(ha:s.heap.get? b=aa (listOf us n))(ju:i∉lk)(f:Array aD->Array aD)(hv:gD Γ ρ s.heap xs' (f us).toList)(hz:xs'.length≤16777216)(tk:Nat)
  (P:∀x:Ext Γ (n6 l) (Wr Γ lk ρ) ρ s ρ {s with heap:=s.heap.update b (dY f),toks:=tk},∀J:SR Γ ρ (H.set i (.list xs')) {s with heap:=s.heap.update b (dY f),toks:=tk},Q () {s with heap:=s.heap.update b (dY f),toks:=tk}):Q () {s with heap:=s.heap.update b (dY f),toks:=tk}:=
 aQ6 (R:=TT) S hi hr ha nofun nofun (λh' l' us' n' im e U hv hz'=> .mk b us' n' e hv hz') ju f hv hz tk P
def au2 (S:SR Γ ρ H s)(hi:H[i]?=aa (.acc Γ.G.gh d xs))(hr:ρ[i]?=aa [b,dx])(ha:s.heap.get? b=aa {cls:= .ref Γ.G.gh,dict:=aa dx,data:= .seq us n})(hd:s.heap.get? dx=aa (iD es nd))(pB:DR Γ ρ s.heap d es)(tG:(Γ.G.bW Γ.G.gh "__init__").isSome=au)
  (ju:i∉lk) (f:Array aD->Array aD) (hv:gD Γ ρ s.heap xs' (f us).toList) (hz:xs'.length≤16777216) (tk:Nat)
  (P:∀x:Ext Γ (n6 l) (Wr Γ lk ρ) ρ s ρ {s with heap:=s.heap.update b (dY f),toks:=tk},∀J:SR Γ ρ (H.set i (.acc Γ.G.gh d xs')) {s with heap:=s.heap.update b (dY f),toks:=tk},Q () {s with heap:=s.heap.update b (dY f),toks:=tk}):Q () {s with heap:=s.heap.update b (dY f),toks:=tk}:=
 aQ6 (R:=TT) S hi hr ha (λq=>(λe=>by rw[e,ha]at hd;cases hd) (aH.mp q).symm) (λc hc=>⟨_,aH.mp hc▸hd⟩) (λh' l' us' n' im e er hv hz'=> .mk b dx es nd us' n' e ((er dx (.head _)).trans hd) (pB.mono (I2.refl ρ s.heap) im) hv hz' rfl tG) ju f hv hz tk P
def gD.aKb (hu:VR Γ ρ h a u):∀{xs:List V}{us:List aD}(j:Nat),∀J:gD Γ ρ h xs us,gD Γ ρ h (xs.set j a) (us.set j u):=by
 intro l
 induction l with
 | nil=>exact λU x=>x.nil▸rfl
 | cons v l ih=>
  rintro _ j ⟨u',us,hv,hs⟩;cases j with
  | zero=>exact .mk _ us hu hs
  | succ j=>exact .mk _ _ hv (ih j hs)
set_option tactic.hygienic true in
def Mw {α:Type}{xs r:List α}{k:Int}{a:α}(e:setAt xs k a=aa r):∃j,jP k xs.length=aa j∧j<xs.length∧r=xs.set j a:=by
 unfold setAt at e;unfold jP
 split at e
 ·rename_i h0
  split at e
  ·rename_i h1
   refine⟨k.toNat, ?_,(xP h0).mpr h1,(ak e).symm⟩;rw[bk (ig.mpr h0),bN];simp only[fX,decide_eq_true_eq,decide_eq_true_eq];exact⟨h0,h1⟩
  ·exact iz e
 ·rename_i h0
  split at e
  ·rename_i h1
   refine⟨(k+xs.length).toNat, ?_,(xP h1).mpr (rE (QS (rD.mp h0) _) (oX (Int.zero_add _))),(ak e).symm⟩;rw[bN (rD.mp h0),bN];simp only[fX,decide_eq_true_eq,decide_eq_true_eq];exact⟨h1,rE (QS (rD.mp h0) _) (oX (Int.zero_add _))⟩
  ·exact iz e
def ax2 {i v:aD}(ha:s.heap.get? b=aa (listOf us nn))
  (h:aP Γ.M A.in1 (fB.«list.__setitem__» ⟨[.ref b,i,v], []⟩) (λfin s'=>∃v,fin= .done (.ret v)∧Q () s') E s):aP Γ.M A (xn (.ref b) i v) Q E s:=by
 refine bJ (aj (wpAny_sequenceKey ⟨_,ha,rfl⟩ (by decide) ?_));refine aj (pF ⟨_,ha,rfl⟩ F.slot_list_setitem (iQ F.slot_list_setitem ⟨_,ha,rfl⟩ F.entry_list_setitem ?_ (F.args_list_setitem_3 _ _ _)));exact bH h (by rintro fin s' ⟨v,e,q⟩;exact⟨v,e,aA q⟩) λU U z=>z
def Vm (S:SR Γ ρ H s)(y:Y0 Γ ρ H s.heap i xs u)(hx:VR Γ ρ s.heap a x)(hk:small k=au)(e:setAt xs k a=aa r):iY Γ l lk A ρ s (put lk H i (.list r) ()) (xn u (.int k t) x) TT:= .put λju Q E P=>by obtain⟨b,us,nn,hi,hr,ha,hs,hz⟩:=y;obtain⟨j,h1,h2,rfl⟩:=Mw e;exact ax2 ha (aW4 ha rfl (aG0 hk) (hs.size▸h1) (hs.size▸h2) ⟨_,rfl,ab8 S hi hr ha ju _ (by refine aO Array.toList_setIfInBounds ?_;exact gD.aKb hx j hs) (aO cY hz) s.toks λx S'=>P ρ _ () x S' trivial⟩)
def Vn {Q:PQ aD}(h:iw Γ.M A (.call f ⟨args, []⟩) (Ret Q E) s):aP Γ.M A (call f args) Q E s:=
 mZ (zH h λr s' h=>by rcases r with e | (v | _ | _ | _)<;>first | exact h.elim | exact h)
def aQ7 (Mo:O9 Γ)(hF:CK Γ n)(a:jy A l n)(S:SR Γ ρ H s)(K:H8 Γ l ρ s.heap)(y:au0 Γ ρ H s.heap i c d u)(hg:Γ.G.bW c name=aa g)(hs:gD Γ ρ s.heap vs us)(hu:VR Γ ρ s.heap (.ref i) u):
  q7 Γ l lk ρ s (jf (o6 Γ.G n lk g (.ref i::vs) [] [] H) λU H=>ok () H) (λQ E=>aP Γ.M A (callSpecial? u name us) (λr s'=>∃v,r=aa v∧Q () s') E s) TT:=by
 have F:=hF l A lk g (.ref i::vs) [] [] H ρ s (u::us) [] a S K (Cp.mk u us hu hs) rfl;obtain⟨b,dx,es,n,hi,hr,ha,hd,pB,tG,hc⟩:=y;exact HY (Mo.bW c _ g hg) λm1 m2 m3=>(F.DN (λQ E w=>special_fn S.qJ (od:=aa (iD es n)) ⟨ha,rfl,rfl,hd⟩ m1 m2 (bH (Vn w) (λv s' z=>⟨v,rfl,z⟩) λU U z=>z)) λv cU aY aU w cQ cg U=> .ok λQ E P=>P.ok cg trivial)
def keyed (I:ag8 Γ)(S:SR Γ ρ H s)(y:au0 Γ ρ H s.heap i c d u){Q:PQ aD}(h:Q kv s):aP Γ.M A (sequenceKey u kv name) Q E s:=by obtain⟨b,dx,es,n,hi,hr,ha,hd,pB,tG,hc⟩:=y;exact aj ((show InstAt s.heap b (instObj c dx) c (aa (iD es n)) from⟨ha,rfl,rfl,hd⟩).type.here (aj ((anyM_none S.qJ (I.plain c tG)).here (pM (bN rfl) (aA h)))))
def aQ8 (Mo:O9 Γ)(I:ag8 Γ)(hF:CK Γ n)(a:jy A l n)(S:SR Γ ρ H s)(K:H8 Γ l ρ s.heap){ov iv v:V}(ho:VR Γ ρ s.heap ov u)(hi:VR Γ ρ s.heap iv w)(hv:VR Γ ρ s.heap v x):iY Γ l lk A ρ s (Ca Γ.G (o8 Γ.G n) lk ov iv v H) (xn u w x) TT:=by
 cases iv with
 | int k=>
  refine .opt λp e=> .fu λhk=> .opt λm hm=> ?_;obtain⟨t⟩:=hi;exact Vm S (ho.listAt S e) hv hk hm
 | str y=>
  refine .opt λp e=> .opt λf hf=> ?_;obtain rfl:=(ar5 e).elim λU q=>q.1;have y':=ho.lE S e;exact q7.of (aQ7 Mo hF a S K y' hf (.mk w _ hi (Cp.mk x [] hv rfl)) ho) λQ E z=>bJ (aj (keyed I S y' (aj (bH z (by rintro r s' ⟨v,e,z⟩;refine aO e ?_;exact aA z) λU U z=>z))))
 | _=>exact .none
def gD.erase:∀{xs:List V}{us:List aD}(j:Nat),∀J:gD Γ ρ h xs us,gD Γ ρ h (xs.eraseIdx j) (us.eraseIdx j):=by
 intro l
 induction l with
 | nil=>exact λU x=>x.nil▸rfl
 | cons v l ih=>
  rintro _ j ⟨u',us,hv,hs⟩;cases j with
  | zero=>exact hs
  | succ j=>exact .mk _ _ hv (ih j hs)
set_option tactic.hygienic true in
def Mx {α:Type}(us:Array α)(j:Nat):(us.eraseIdxIfInBounds j).toList=us.toList.eraseIdx j:=by
 delta Array.eraseIdxIfInBounds
 split
 ·simp
 ·rename_i h
  rw[List.eraseIdx_of_length_le (by simpa using h)]
def Vo (S:SR Γ ρ H s){k:Int}(y:Y0 Γ ρ H s.heap i xs u)(hk:0≤k∧k<xs.length):iY Γ l lk A ρ s (put lk H i (.list (xs.eraseIdx k.toNat)) ()) (delItem u (.int k t)) TT:= .put λju Q E P=>by
 obtain⟨b,us,nn,hi,hr,ha,hs,hz⟩:=y;have hsi:jP k us.size=aa k.toNat:=by unfold jP;dsimp only;refine aO (bk (ig.mpr hk.1)) ?_;rw[bN];simp only[fX,decide_eq_true_eq,decide_eq_true_eq];exact hs.size▸hk
 exact PySem.P.delItem_list ha (by delta eQ;simp only[fX,decide_eq_true_eq,decide_eq_true_eq];exact⟨dF (by decide) hk.1,rE hk.2 (dF (fM.mpr hz) (by decide))⟩) hsi
  (ab8 S hi hr ha ju (λxs=>xs.eraseIdxIfInBounds k.toNat) (by simp only[Mx];exact hs.erase _) (aq (List.length_eraseIdx_le ..) hz) s.toks λx S'=>P ρ _ () x S' trivial) (aO hs.size hz)
def Vp (Mo:O9 Γ)(I:ag8 Γ)(hF:CK Γ n)(a:jy A l n)(S:SR Γ ρ H s)(K:H8 Γ l ρ s.heap)(ho:VR Γ ρ s.heap ov u)(hi:VR Γ ρ s.heap iv w):iY Γ l lk A ρ s (afv Γ.G (o8 Γ.G n) lk ov iv H) (delItem u w) TT:=by
 cases iv with
 | int k=>
  refine .opt λp e=> .fu λhk=> ?_;obtain⟨t⟩:=hi;exact Vo S (ho.listAt S e) ⟨gH (d8 hk),gH (m8 hk)⟩
 | str y=>
  refine .opt λp e=> .opt λf hf=> ?_;obtain rfl:=(ar5 e).elim λU q=>q.1;exact q7.of (aQ7 Mo hF a S K (ho.lE S e) hf (.mk w _ hi rfl) ho) λQ E z=>(bJ (aj (keyed I S (ho.lE S e) (aj (bH z (by rintro r s' ⟨v,e,z⟩;refine aO e ?_;exact aA z) λU U z=>z)))))
 | _=>exact .none
theorem gD.take:∀{xs:List V}{us:List aD}(j:Nat),∀J:gD Γ ρ h xs us,gD Γ ρ h (xs.take j) (us.take j)
 | _,_,0,_=>rfl
 | [],_,_+1,x=>by refine aO x.nil ?_;rfl
 | _::_,_,j+1,.mk _ _ hv hs=> .mk _ _ hv (gD.take j hs)
theorem gD.drop:∀{xs:List V}{us:List aD}(j:Nat),∀J:gD Γ ρ h xs us,gD Γ ρ h (xs.drop j) (us.drop j)
 | _,_,0,x=>x
 | [],_,_+1,x=>by refine aO x.nil ?_;rfl
 | _::_,_,j+1,.mk _ _ _ hs=>gD.drop j hs
def aG1 {us ns:Array aD}{lo hi:Option Int}(hv:gD Γ ρ h xs us.toList)(hn:gD Γ ρ h new ns.toList):
  gD Γ ρ h (Y8 xs new lo hi) (us.extract 0 (eU lo hi aB us.size).1.toNat++ns++us.extract (max (eU lo hi aB us.size).1 (eU lo hi aB us.size).2.1).toNat us.size).toList:=by
 simp only[hv.size,dC,dC,pU,pU,mK,mK,qU,ur];refine((hv.take _).append hn).append ?_;have:=(hv.drop (max (eU lo hi aB xs.length).1 (eU lo hi aB xs.length).2.1).toNat).take (xs.length-(max (eU lo hi aB xs.length).1 (eU lo hi aB xs.length).2.1).toNat);rwa [Eo (by simp)]at this
def aG2 (xs new:List V)(lo hi:Option Int):(Y8 xs new lo hi).length≤xs.length+new.length:=aO az (aO az (aO tu (aO ym (aQ4 (aQ5 _ _)))))
def aX8 (K:N7 Γ)(S:SR Γ ρ H s)(ho:VR Γ ρ s.heap o u)(ha:VR Γ ρ s.heap a va)(hb:VR Γ ρ s.heap b vb)(hw:VR Γ ρ s.heap c w)(hs:s.heap.IsSliceOf sl va vb .none):iY Γ l lk A ρ s (ar0 lk H o a b c) (xn u (.ref sl) w) TT:=by
 refine .opt λp e=> .opt λlo e1=> .opt λhi e2=> .opt λj e3=> .opt λob hj=> ?_;obtain rfl:=aq0 e3;obtain⟨bn,ns,n2,_,_,han,Ri,_⟩:=hw.listAt S e;have h1:=(ha.part e1).is;have h2:=(hb.part e2).is;cases ob with
 | list xs=>
  refine .fu λhr=> .put λju Q E P=> ?_;obtain⟨b',us,nn,hi,My,hA,iB,hz⟩:=VR.list ho S hj;exact ax2 hA (aD2 hA rfl hs h1 h2 han rfl rfl (by refine aO iB.size (aO Ri.size ?_);exact I5 hr) ⟨_,rfl,ab8 S hi My hA ju _ (aG1 iB Ri) (aq (aG2 _ _ _ _) (I5 hr)) s.toks λx S'=>P ρ _ () x S' trivial⟩)
 | acc c d xs=>
  refine .fu λhr=> .put λju Q E P=> ?_;obtain⟨b',dx,es,nn,us,kk,hi,My,hA,hd,pB,iB,hz,rfl,tG⟩:=VR.acc ho S hj;exact aW0 K S.qJ ⟨_,hA,rfl⟩ (aD2 hA rfl hs h1 h2 han rfl rfl (by refine aO iB.size (aO Ri.size ?_);exact I5 hr) ⟨_,rfl,au2 S hi My hA hd pB tG ju _ (aG1 iB Ri) (aq (aG2 _ _ _ _) (I5 hr)) s.toks λx S'=>P ρ _ () x S' trivial⟩)
 | _=>exact .none
end
end
section
section
variable {prog:oK}{w:vK}{A:bO}{E:PQ aD}
def Mz {P:Nat->aD->Prop}{St:Nat->bM->Prop}(W:Walks prog w A I fp wr n P St):∀(j i:Nat)(s:aW)(Q:PQ (List aD)),∀J:i+j≤n,∀J:St i s.heap,∀J:(∀vs h' tk,∀J:vs.length=j,∀J:(∀q v,∀J:vs[q]?=aa v,P (i+q) v),∀J:St (i+j) h',∀J:(∀b o,∀J:b∉wr,∀J:s.heap.get? b=aa o,h'.get? b=aa o),Q vs {s with heap:=h',toks:=tk}),aP (iG prog w) A (draw (.ref I) j) Q E s:=by
 intro j
 induction j with
 | zero=>
  intro i s Q hle st hQ;exact aA (hQ [] s.heap s.toks rfl (λq v h=>iz h) st λb o U e=>e)
 | succ j ih=>
  intro i s Q hle st hQ;have e1:i+(j+1)=i+1+j:=by rw[gq];rfl
  refine aj (W.item i s _ E (aM (kj (fO j)) hle) st λv h1 tk1 hv st1 kp1=> ?_);refine aj (bJ (ih (i+1) _ _ (e1▸hle) st1 λvs h2 tk2 hl iB st2 kp2=>aA ?_));refine hQ (v::vs) h2 tk2 (congrArg tK hl) (λq u h=> ?_) (e1▸st2) λb o hb e=>kp2 b o hb (kp1 b o hb e);cases q with
  | zero=>exact ak h▸hv
  | succ q=>exact(gq i 1 q▸iB q u h:P (i+q+1) u)
def ao1 (hh:A.handled=aB)(hL:s.heap.IsList b us)(hn:n=us.size)
  (h:∀h' tk,∀J:(∀b o,∀J:s.heap.get? b=aa o,h'.get? b=aa o),Q us.toList {s with heap:=h',toks:=tk}):aP (iG prog w) A (Bt (.ref b) n aB) Q E s:=by
 have vg:b≠s.heap.objs.size:=by obtain⟨o,ho,_⟩:=hL;exact cW (gf ho)
 subst hn;delta Bt;refine aj ?_;delta notIterableAtAll;refine aj (lN hL.typeIs slot_list_iter.lookup ?_);refine aA ?_;refine pM (bk aR) ?_;refine aj (bJ (wpAny_pyIter_list hL ?_));have W:Walks prog w A s.heap.objs.size [s.heap.objs.size,b] [s.heap.objs.size] us.size (λi v=>us[i]?=aa v) (λi h=>h.IsListIter s.heap.objs.size b i∧h.IsList b us):=Walks.list hh _ b vg us;refine aj (bJ (Mz W us.size 0 _ _ (cN (jd _)) ⟨⟨_,bx _ rfl,rfl,rfl⟩,hL.push _⟩ λvs h1 tk1 hl iB st1 kp1=> ?_));have e:vs=us.toList:=by
  apply adx;intro q;by_cases hq:q<vs.length
  ·have:=iB q vs[q] (bU hq)
   rw[jd]at this;rw[bU hq,cz,this]
  ·rw[uB (cV hq),cz,Array.getElem?_eq_none (hl▸cV hq)]
 subst e;rw[bk (by simp)];refine aj (bJ (W.done _ _ _ (by simpa using st1) λh2 tk2 kp2=> ?_));simp only[Option.isSome_none,RN,if_false];refine aA (h h2 tk2 λb' o e=> ?_);have nb:b'∉ [s.heap.objs.size]:=λq=>dW _ (aH.mp q▸gf e);exact kp2 b' o nb (kp1 b' o nb (aZ _ e))
def aW5 (hh:A.handled=aB){targets:List (Bool×(aD->Sem Unit))}(hL:s.heap.IsList b us)(hn:targets.length=us.size)(a7z:targets.findIdx? (·.1)=aB)
  (h:∀h' tk,∀J:(∀b o,∀J:s.heap.get? b=aa o,h'.get? b=aa o),aP (iG prog w) A (qM (targets.map (·.2)) us.toList) Q E {s with heap:=h',toks:=tk}):aP (iG prog w) A (unpack (.ref b) targets) Q E s:=by
 delta unpack;rw[a7z];exact aj (bJ (ao1 hh hL hn h))
end
section
variable {Γ:Cx}{n m:Nat}{k:Kd}
set_option backward.match.sparseCases true in
def aX9 (o i:aG)(p:sZ)(env:fP)(u:aD):wU (.Subscript o i p) env u=(do
  let ov←pR [u] (eval o env)
  let iv←pR [u,ov] (eval i env)
  nJ p
  pR [u,ov,iv] (xn ov iv u)
  release (match i with | .Slice _ _ aB _=> [iv,u,ov] | _=> [u,ov,iv]) []):=rfl
def aQ9
  (h:aP M A (eval o env) (λov aU=>aP M A (eval i env) (λiv bK=>aP M A (xn ov iv u) Q E bK) E aU) E s):aP M A (wU (.Subscript o i p) env u) Q E s:=by
 rw[aX9];exact aj (bJ (bH h (λov aU h=>aj (bJ (bH h (λiv bK h=>aj (dM (aj (bJ (bH h (λU U z=>QQ z) λU U z=>z))))) λU U z=>z))) λU U z=>z))
def Vq (Mo:O9 Γ)(I:ag8 Γ)(hF:CK Γ n)(ho:v9 Γ n k o mo)(hi:v9 Γ n k i mi):CG Γ (n+1) k (.Subscript o i p) (.sub mo mi):=λenv l A lk v σ ρ s u O a S F hv=>
 .lift ((ho env l A (σ.fm lk) σ.hp ρ s O a.pred S F).jb (λQ E w=>aQ9 w) λov cU aY aU CJ cQ cg qQ=>
  (hi env l A (σ.fm lk) cU aY aU O a.pred cg (F.ext cQ)).jb (λQ E w=>w) λiv oE dz bK uJ du fU oJ=>aQ8 Mo I hF a.pred fU ((F.ext cQ).ext du).uc (qQ.ext du) oJ ((hv.ext cQ).ext du)) F
def Vr (K:N7 Γ)(ih:U0 Γ n m k){sa sb:Option aG}(ho:v9 Γ n k o mo):CG Γ (n+1) k (.Subscript o (.Slice sa sb aB sp) p) (.vC mo (Fj (cE m k) sa) (Fj (cE m k) sb) mc):=λenv l A lk v σ ρ s u O a S F hv=>
 .lift ((ho env l A (σ.fm lk) σ.hp ρ s O a.pred S F).jb (λQ E w=>aQ9 w) λov cU aY aU CJ cQ cg qQ=>
  (UT ih sa env l A (σ.fm lk) cU aY aU O a.pred cg (F.ext cQ)).jb (λQ E w=>wpAny_Slice w) λva oE dz bK uJ du fU oJ=>
   (UT ih sb env l A (σ.fm lk) oE dz bK O a.pred fU ((F.ext cQ).ext du)).jb (λQ E w=>bH w (λU U z=>aA z) λU U z=>z) λvb Ag qz lL Uw qg tH yu=>
    have kp:=N6 lL.heap {cls:= .type "slice",data:= .fields #[uJ,Uw,.none]};have rQ:=Ext.keeps kp
    λq H' e Q E P=>aX8 K (tH.keeps kp) ((qQ.ext (du.trans qg)).ext rQ) ((oJ.ext qg).ext rQ) (yu.ext rQ) ((hv.ext (cQ.trans (du.trans qg))).ext rQ) (yW _ _ _ _) q H' e Q E (P.ext rQ)) F
def FJ (h:(S5 t).isNone=au)(rest:List aG)(env:fP):qF (t::rest) env=(aC,wU t env)::qF rest env:=by
 cases t with
 | Starred a p=>exact qI h
 | _=>rfl
abbrev MF (Γ:Cx)(n j:Nat)(r:aG->j0)(k:Kd):Prop:=∀t,CG Γ n k t (cT r k j t)
section
variable {env:fP}{l:List fP}{A:bO}{lk:List Nat}{j:Nat}{r:aG->j0}
def Vs (env:fP):∀{ts:List aG},∀J:(ts.all λt=>(S5 t).isNone)=au,(qF ts env).findIdx? (·.1)=aB∧(qF ts env).length=ts.length:=by
 intro zz
 induction zz with
 | nil=>
  intro _;exact⟨rfl,rfl⟩
 | cons t ts ih=>
  intro h;rw[FJ (d8 h)];exact⟨by rw[List.findIdx?_cons];simp [(ih (m8 h)).1],congrArg tK (ih (m8 h)).2⟩
def Vt (ih:MF Γ n j r k)(O:v8 Γ k env)(a:jy A l n):∀{ts:List aG}{vs:List V}{us:List aD}{σ:St}{ρ:fj}{s:aW},∀J:(ts.all λt=>(S5 t).isNone)=au,∀J:SR Γ ρ σ.hp s,∀J:FR Γ l ρ s.heap env σ.loc σ.cX,∀J:gD Γ ρ s.heap vs us,I8 Γ k l env lk ρ s (SQ (I6 Γ.G n lk) (ts.map (cT r k j)) vs σ) (λQ E=>aP Γ.M A (qM ((qF ts env).map (·.2)) us) Q E s) TT:=by
 intro l
 induction l with
 | nil=>
  intro vs us σ ρ s _ S F hv;cases vs with
  | nil=>
   obtain rfl:=hv.nil;exact .ok λQ E P=>aA (P.done S F trivial)
  | cons v vs=>exact .none
 | cons t ts ihs=>
  intro vs us σ ρ s h S F hv;cases vs with
  | nil=>exact .none
  | cons v vs=>
   obtain⟨u,us,hu,hs⟩:=hv;rw[FJ (d8 h)];exact(ih t env l A lk v _ _ _ u O a S F hu).DN (λQ E w=>(aj (bJ w):aP _ _ (do pR us (wU t env u);qM ((qF ts env).map (·.2)) us) Q E _)) λU ir aY aU U cQ cg oF U=>ihs (m8 h) cg oF (hs.ext cQ)
def aL8 {l:List V}(e:itemsOf H v=aa l):v= .tup l∨∃p,listAt H v=aa p∧p.2=l:=by
 cases v with
 | tup m=>exact .inl (congrArg V.tup (ak e))
 | ref i=>exact j5 e λp e1 e=> .inr ⟨p,e1,ak e⟩
 | _=>exact t7 e
def Vu (ih:MF Γ n j r k)(h:(ts.all λt=>(S5 t).isNone)=au):CG Γ (n+1) k (.Tuple ts i p) (.tup (ts.map (cT r k j))):=λenv l A lk v σ ρ s u O a S F hv=> .opt λvs e=> .fu λhl=>by
 obtain⟨i1,i2⟩:=Vs env h;have hl:ts.length=vs.length:=by have:=gH hl;rwa [aF]at this
 have fin:∀q jH,∀J:SQ (I6 Γ.G n lk) (ts.map (cT r k j)) vs σ=aa (q,jH),∀Q E,∀J:I9 Γ k l env lk ρ s q jH TT Q E,∀h' tk us,∀J:gD Γ ρ s.heap vs us,∀J:(∀b o,∀J:s.heap.get? b=aa o,h'.get? b=aa o),aP Γ.M A (qM ((qF ts env).map (·.2)) us) Q E {s with heap:=h',toks:=tk}:=λq jH ev Q E P h' tk us iB he=>by have x:Ext Γ (n6 l) (Wr Γ lk ρ) ρ s ρ {s with heap:=h',toks:=tk}:=Ext.keeps he;exact Vt ih O a.pred h (S.keeps he) (F.ext x) (iB.ext x) q jH ev Q E (P.ext x.toS)
 intro q jH ev Q E P;rcases aL8 e with rfl | ⟨p,e1,rfl⟩
 ·obtain⟨t,us,nn,ht,iB⟩:=hv
  refine wpAny_assign_Tuple a.hand ⟨_,ht,rfl,nn,rfl⟩ (i2.trans (hl.trans iB.size.symm)) i1 λh' he=> ?_;exact fin q jH ev Q E P h' s.toks _ iB λb o e=>he b o (cW (gf e)) e
 ·obtain⟨b,us,nn,hi,hr,hb,iB,hz⟩:=hv.listAt S e1
  refine aj (dM (aW5 a.hand (M7 hb) (i2.trans (hl.trans iB.size.symm)) i1 λh' tk he=> ?_));exact fin q jH ev Q E P h' tk _ iB he
end
def Vv (K:N7 Γ)(C:Fv Γ)(Mo:O9 Γ)(I:ag8 Γ)(hF:CK Γ n)(ih:U0 Γ n m k)(it:MF Γ n j (cE m k) k):MF Γ (n+1) (j+1) (cE m k) k:=λt=>by
 cases t with
 | Name x p=>
  show CG Γ (n+1) k (.Name x p) (gm _ (mb (k x) _));cases hx:decide (x≠("__class__":aJ)) with
  | false=>exact af0
  | true=>
   cases hk:k x with
   | none=>exact af0
   | some d=>
    cases d with
    | «local»=>exact Vj hk
    | cell=>exact Vk hk (gH hx)
    | _=>exact af0
 | Attribute o x p=>exact Mv C (ih o)
 | Tuple ts i p=>
  show CG Γ (n+1) k (.Tuple ts i p) (gm (ts.all λt=>(S5 t).isNone) (.tup (ts.map (cT (cE m k) k j))));cases h:(ts.all λt=>(S5 t).isNone) with
  | false=>exact af0
  | true=>exact Vu it h
 | Subscript o i p=>
  cases i with
  | Slice sa sb sc sp=>
   cases sc with
   | none=>exact Vr K ih (ih o)
   | some e=>exact af0
  | _=>exact Vq Mo I hF (ih o) (ih _)
 | _=>exact af0
section
variable {env:fP}{l:List fP}{A:bO}{lk:List Nat}
def ao2 {st:pK}:W0 Γ n k st .bad:=by
 cases n with
 | zero=>exact λU U U U U U U U U U U U=> .none
 | succ n=>exact λU U U U U U U U U U U U=> .none
def aa2 {α:Type}{st:pK}{o:Option α}{f:α->t6}(h:∀a,∀J:o=aa a,W0 Γ n k st (f a)):W0 Γ n k st (sb o f):=by
 cases o with
 | none=>exact ao2
 | some a=>exact h a rfl
def ac7 {st:pK}(h:∀J:b=au,W0 Γ n k st ms):W0 Γ n k st (gs b ms):=by
 cases b with
 | true=>exact h rfl
 | false=>exact ao2
def ao3 (ih:yx Γ n)(O:v8 Γ k env)(W:Own k env l)(a:jy A l n):∀(sts:List pK){σ:St}{ρ:fj}{s:aW},∀J:SR Γ ρ σ.hp s,∀J:FR Γ l ρ s.heap env σ.loc σ.cX,I8 Γ k l env lk ρ s (z8 (ik Γ.G n lk) (sts.map (cS m k)) σ) (λQ E=>aP Γ.M A (aop sts env) Q E s) (zg Γ):=by
 intro zz
 induction zz with
 | nil=>
  intro _ _ _ S F;exact .ok λQ E P=>oN (P.done S F rfl)
 | cons st sts ihr=>
  intro _ _ _ S F;exact(ih m k st env l A lk _ _ _ O W a S F).DN (λQ E w=>qG w) λfl ir aY aU u x cg oF r=>by
   cases fl with
   | next=>obtain rfl:u= .next:=r;exact ihr cg oF
   | brk=>obtain rfl:u= .brk:=r;exact .ok λQ E P=>P.done cg oF rfl
   | cont=>obtain rfl:u= .cont:=r;exact .ok λQ E P=>P.done cg oF rfl
   | ret v=>obtain⟨w,hv⟩:=r;exact .ok λQ E P=>P.done cg oF ⟨w,hv⟩
end
def MJ:W0 Γ (n+1) k (.Pass p) .pass:=λenv l A lk σ ρ s O W a S F=> .ok λQ E P=>aj (dM (aA (P.done S F rfl)))
def Vw:W0 Γ (n+1) k (.Break p) .brk:=λenv l A lk σ ρ s O W a S F=> .ok λQ E P=>aj (dM (aA (P.done S F rfl)))
def MK:W0 Γ (n+1) k (.Continue p) .cont:=λenv l A lk σ ρ s O W a S F=> .ok λQ E P=>aj (dM (aA (P.done S F rfl)))
def MN (he:v9 Γ n k e me)(hs:∀env,sy e aB p.line env=pure aC):W0 Γ (n+1) k (.Expr e p) (.expr me):=λenv l A lk σ ρ s O W a S F=>
 (he env l A (σ.fm lk) σ.hp ρ s O a.pred S F).stmt F (λQ E w=>wpAny_Expr_any w (by simp [aoq,O.kind]) (hs env)) λv cU aY aU u cQ cg hv=> .ok λQ E P=>P.done cg (F.ext cQ) rfl
def Vx (ih:U0 Γ n m k):W0 Γ (n+1) k (.Return o p) (.ret (Fj (cE m k) o)):=λenv l A lk σ ρ s O W a S F=>by
 cases o with
 | some e=>exact(ih e env l A (σ.fm lk) σ.hp ρ s O a.pred S F).stmt F (λQ E w=>zJ w) λv cU aY aU u cQ cg hv=> .ok λQ E P=>P.done cg (F.ext cQ) (ahw.mk u hv)
 | none=>
  cases n with
  | zero=>exact .none
  | succ n=>exact .ok λQ E P=>wpAny_Return_none (P.done S F (ahw.mk .none rfl))
def Vy {mt:j0}(ht:Z0 Γ n k t mt)(ih:yx Γ n):W0 Γ (n+1) k (.If t b o p) (.ite mt (b.map (cS m k)) (o.map (cS m k))):=λenv l A lk σ ρ s O W a S F=>
 (ht env l A (σ.fm lk) σ.hp ρ s O a.pred S F).stmt F (λQ E w=>wpAny_If w) λv cU aY aU u cQ cg hv=>by
  obtain rfl:u=v:=hv;cases u with
  | true=>exact ao3 ih O W a.pred b cg (F.ext cQ)
  | false=>exact ao3 ih O W a.pred o cg (F.ext cQ)
end
end
section
variable {Γ:Cx}{n m:Nat}{k:Kd}
def ar7 (hf:e.frame=aa L):n6 (e::r)=L::n6 r:=cO hf
def H8.aKf {base h jQ:bM}(kp:∀b o,∀J:jQ.get? b=aa o,h.get? b=aa o):∀{l:List fP},∀J:H8 Γ l ρ jQ,∀J:(∀L∈n6 l,base.get? L=aB),h.FunFrames base l:=by
 intro zz
 induction zz with
 | nil=>
  intro _ _;exact trivial
 | cons e r ih=>
  intro K hb;obtain⟨L,o,es,n,hk,hf,ho,hd,_⟩:=K e (.head _);replace hb:=(ar7 hf)▸hb;exact⟨hk,⟨L,o,hf,hb L (.head _),kp _ _ ho,λvs q=>nomatch hd.symm.trans q⟩,ih (λe' he'=>K e' (.tail _ he')) λL' hL=>hb L' (.tail _ hL)⟩
structure yd (FS:List aV)(h h':bM):Prop where
 keep:∀b o,∀J:h.get? b=aa o,∀J:b∉FS,h'.get? b=aa o
 fs:∀b o,∀J:h.get? b=aa o,∀J:b∈FS,∃sl,h'.get? b=aa {o with slots:=sl}
def yd.refl (FS:List aV)(h:bM):yd FS h h:=⟨λU U e U=>e,λU o e U=>⟨o.slots,e⟩⟩
def yd.trans (x:yd FS h jQ)(y:yd FS jQ rP):yd FS h rP:=
 ⟨λb o e n=>y.keep b o (x.keep b o e n) n,λb o e n=>(x.fs b o e n).elim λU e1=>(y.fs b _ e1 n).elim λsl' e2=>⟨sl',e2⟩⟩
def yd.sG (x:yd FS h h')(b:aV)(o:ou)(e:h.get? b=aa o):Cu h' b o:=by
 by_cases q:b∈FS
 ·exact(x.fs b o e q).elim λsl e'=>⟨_,e',rfl⟩
 ·exact⟨o,x.keep b o e q,rfl⟩
def yd.live (x:yd FS h h'):R5 h h':=λb o e=>(x.sG b o e).casesOn λo' e' U=>⟨o',e'⟩
def yd.of_keeps (kp:∀b o,∀J:h.get? b=aa o,h'.get? b=aa o):yd FS h h':=⟨λb o e U=>kp b o e,λb o e U=>⟨o.slots,kp b o e⟩⟩
def U3 (e:(fW h X).get? b=aa o):b∉X:=λhb=>iz ((pW X hb).symm.trans e)
def FN (T:aV):(Bu T !=tQ)=au:=rfl
section
variable {M:Br}{A:bO}{E:PQ aD}{s':aW}{h:bM}{l outer:List fP}{env:fP}{c:String}{mm:aJ}{a L:aV}{X:List aV}{ρ:fj}{Q:PQ Unit}
def ag9 (K:H8 Γ l ρ h)(hb:b∈n6 l):∃o es n,h.get? b=aa o∧o.data= .dict es n∧b∉ρ.flatten∧b∉Γ.tabs∧Γ.g0.get? b=aB:=by refine oG (wz.mp hb) λe he hfe=> ?_;obtain⟨L',o,es,n,_,hf,ho,hd,h1,h2,h3⟩:=K e he;obtain rfl:=ak (hf.symm.trans hfe);exact⟨o,es,n,ho,hd,h1,h2,h3⟩
def aL9 (fr:A.frames=aa (env::outer))(hf:env.frame=aa L)(K:H8 Γ (env::outer) ρ (fW s'.heap X))(lv:R5 h (fW s'.heap X))
  (hX:∀b∈X,h.get? b=aB) (aX:a∈X) (ha:aU.heap.get? a=aa o) (oc:o.cls= .type c) (cc:c="ValueError" ∨c="TypeError") (od:o.data= .fields vs) (h1:1<vs.size) (h0:vs[0]?=aa (.ref t)) (tX:t∉X) (tf:t∉n6 (env::outer))
  (ht:s'.heap.get? t=aa {cls:= .type "tuple",data:= .seq #[.str mm tk] n}) (k1:∀b,∀J:b∉X,aU.heap.get? b=s'.heap.get? b)
  (hQ:∀qD T,∀J:Bk h (env::outer) c mm a (T::X) qD (aa (kW L)),∀J:yd (n6 (env::outer)) (fW s'.heap X) (fW qD (T::X)),Q () {aU with heap:=qD}):
  aP M A (do let a'←frameOf env;let pl←entryPlaceOf L aFj;let b←EntryCells.newEntry hd a' .none (kW L) .none pl;setField (.ref a) 1 b) Q E aU:=by
 have axi:∀b o,∀J:(fW s'.heap X).get? b=aa o,aU.heap.get? b=aa o:=λb o e=>(k1 b (U3 e)).trans (iR _ e);refine wpAny_entryW fr (K.aKf axi λL' hL=>(λb hb=>pW _ (bI.mpr hb)) L' (.inl hL)) hf ha (λb o e=>iR _ e) ((λb hb=>pW _ (bI.mpr hb)) a (.inr aX)) od h1 h0 λqD hN=> ?_;refine uG λY Z=> ?_;obtain⟨N1,N2,⟨oe,ws,T,oT,ts,he,⟨hec,he0⟩,hed,hT1,hTb,hTa,hT,Vz,hT3⟩,N4⟩:=hN;refine Z ?_;have axj:∀b o,∀J:(fW s'.heap X).get? b=aa o,∀J:b∉n6 (env::outer),(fW aU.heap (n6 (env::outer)++X)).get? b=aa o:=λb o e nf=>jT _ (axi b o e) λq=>(bI.mp q).elim nf (U3 e);have a72:∀b o,∀J:(fW s'.heap X).get? b=aa o,b≠T:=λb o e q=>iz (hTb.symm.trans (axj T o (q▸e) (λq=>(N2.mem q).elim (by rintro _ ⟨o',uf,zf⟩;exact zf _ (ak (hT.symm.trans uf)▸Vz)))));have out:∀b o,∀J:(fW s'.heap X).get? b=aa o,b∉T::X:=λb o e q=>(bc.mp q).elim (a72 b o e) (U3 e);refine hQ qD T (.mk oe ws t tk n (λb hb=> ?_) (.tail _ aX) ⟨he,hec.trans oc,hed,cc,he0,N1 t _ (axj t _ (jT X ht tX) tf)⟩ (out t _ (jT X ht tX)) tf (.mk T oT ts hT1 (.head _) hTa hT Vz hT3)) ⟨λb o' e nf=>jT _ (N1 b o' (axj b o' e nf)) (out b o' e),λb o' e hb=> ?_⟩
 ·rcases bc.mp hb with rfl | hb
  ·cases q:h.get? b with
   | none=>rfl
   | some o2=>exact(lv b o2 q).elim λo3 e3=>absurd rfl (a72 b o3 e3)
  ·exact hX b hb
 ·obtain⟨o2,es,ep,uf,zf,_⟩:=ag9 K hb
  obtain rfl:=ak (e.symm.trans uf);exact(N4 b o' (axi b o' e) λvs q=>nomatch zf.symm.trans q).elim λsl hs=>⟨sl,jT _ hs (out b o' e)⟩
def aqi (L:aV)(x:Option aD):Prop:=x=aB∨x=aa .none∨x=aa (kW L)
def aD8 (fr:A.frames=aa (env::outer))(hf:env.frame=aa L)(K:H8 Γ (env::outer) ρ (fW s'.heap X))(lv:R5 h (fW s'.heap X))(f:Bk h (env::outer) c mm a X s'.heap x)(hx:aqi L x)
  (hQ:∀qD X',∀J:Bk h (env::outer) c mm a X' qD (aa (kW L)),∀J:yd (n6 (env::outer)) (fW s'.heap X) (fW qD X'),Q () {s' with heap:=qD}):aP M A (noteFrame (.ref a) env) Q E s':=by
 have f':=f;obtain⟨o,vs,t,tk,n,hX,aX,⟨ha,oc,od,cc,h0,ht⟩,tX,tf,w⟩:=f;delta noteFrame;refine aO hf ?_;rcases hx with rfl | rfl | rfl
 ·have w':=w
  exact aj (fQ ha od w' (aO (bk (by decide)) (aL9 fr hf K lv hX aX ha oc cc od (lO.mp w').1 h0 tX tf ht (λU U=>rfl) λqD T=>hQ qD _)))
 ·obtain⟨T,oT,ts,h1,TX,Ta,hT,Vz,h3⟩:=w
  refine aj (fQ ha od h1 ?_);rw[bN (FN T)];refine aj (fQ hT Vz h3 ?_);refine aO (bk (by simp [kW])) ?_;refine aj (pX hT Vz (lO.mp h3).1 ?_);have other:∀b,∀J:b≠T,(s'.heap.update T (Obj.mapFields (·.setIfInBounds 3 tQ))).get? b=s'.heap.get? b:=λb hb=>kI _ _ (Ne.symm hb);exact aL9 fr hf K lv hX aX ((other a (Ne.symm Ta)).trans ha) oc cc od (lO.mp h1).1 h0 tX tf ht (λb hb=>other b λq=>hb (q▸TX)) λqD T=>hQ qD _
 ·obtain⟨T,oT,ts,h1,TX,Ta,hT,Vz,h3⟩:=w
  refine aj (fQ ha od h1 ?_);rw[bN (FN T)];exact aj (fQ hT Vz h3 (aO (bN (by simp)) (aA (hQ _ X f' (.refl _ _)))))
def az7 (f:Bk h l c mm a X s'.heap (aa fl))
  (hQ:∀qD,∀J:Bk h l c mm a X qD (aa (to.elim .none λf=>kW f)),∀J:(∀b o,∀J:(fW s'.heap X).get? b=aa o,(fW qD X).get? b=aa o),Q () {s' with heap:=qD}):aP M A (setFlight (.ref a) to) Q E s':=by
 obtain⟨o,vs,t,tk,n,hX,aX,⟨ha,oc,od,cc,h0,ht⟩,tX,tf,w⟩:=f;obtain⟨T,oT,ts,h1,TX,Ta,hT,Vz,h3⟩:=w;have other:∀b,∀J:b≠T,(s'.heap.update T (Obj.mapFields (·.setIfInBounds 3 (to.elim tQ λf=>kW f)))).get? b=s'.heap.get? b:=λb hb=>kI _ _ (Ne.symm hb);have Mi:=(lO.mp h3).1;refine aj (fQ ha od h1 ?_);refine pM (bN (FN T)) ?_;exact pX hT Vz Mi (hQ _ (.mk o vs t tk n hX aX ⟨(other a (Ne.symm Ta)).trans ha,oc,od,cc,h0,(other t λq=>tX (q▸TX)).trans ht⟩ tX tf (.mk T _ _ h1 TX Ta
  (jl _ hT (uQ (kZ Vz _))) (kZ Vz _) (by simp [Mi]))) λb o e=>jT X ((other b λq=>U3 e (q▸TX)).trans (iR _ e)) (U3 e))
def FP (hf:env.frame=aa L)(hx:Ir (env::outer) x):aqi L x:=hx.imp id λq=>q.imp id λ⟨env',r,L',e1,e2,q⟩=>by obtain⟨rfl,rfl⟩:=bL e1;obtain rfl:=ak (hf.symm.trans e2);exact q
def Bk.left (hf:env.frame=aa L)(f:Bk h (env::outer) c mm a X qD x):Bk h outer c mm a X qD x:=f.casesOn λo vs t tk n r1 r2 r3 r4 r5 r6=> .mk o vs t tk n r1 r2 r3 r4 (λq=>r5 (ar7 hf▸ .tail _ q)) r6
def aM0 (fr:A.frames=aa (env::outer))(hf:env.frame=aa L)(K:H8 Γ (env::outer) ρ (fW s'.heap X))(lv:R5 h (fW s'.heap X))(f:Fly h (env::outer) c mm X s'.heap e)
  (hQ:∀qD X',∀J:Fly h outer c mm X' qD e,∀J:yd (n6 (env::outer)) (fW s'.heap X) (fW qD X'),Q () {s' with heap:=qD}):aP M A (leaving env e) Q E s':=by
 obtain⟨a,x,f,hx⟩:=f;exact aj (aD8 fr hf K lv f (FP hf hx) λqD X' f' st=>az7 f' λh3 f3 k3=>hQ h3 X' (.mk a _ (f3.left hf) (.inr (.inl rfl))) (st.trans (.of_keeps k3)))
def VB (fr:A.frames=aa (env::outer))(hf:env.frame=aa L)(K:H8 Γ (env::outer) ρ (fW s'.heap X))(lv:R5 h (fW s'.heap X))(f:Fly h (env::outer) c mm X s'.heap e)
  (hQ:∀qD X',∀J:Fly h (env::outer) c mm X' qD e,∀J:yd (n6 (env::outer)) (fW s'.heap X) (fW qD X'),R e {s' with heap:=qD}):notedBy M A env (cameBackBy M A env R) e s':=by
 obtain⟨a,x,f,hx⟩:=f;refine aD8 fr hf K lv f (FP hf hx) λqD X' f' st=> ?_;have f'':=f';obtain⟨o,vs,t,tk,n,_,_,⟨r3,_,r6,_,_,_⟩,_,_,w⟩:=f';obtain⟨T,oT,ts,h1,_,_,_,_,_⟩:=w;exact aj (fQ r3 r6 h1 (aO (bk (by simp)) (aO hf (az7 f'' λh3 f3 k3=>hQ h3 X' (.mk a _ f3 (.inr (.inr ⟨env,outer,L,rfl,hf,rfl⟩))) (st.trans (.of_keeps k3))))))
end
section
variable {ρ:fj}{H:Hp}{s aU:aW}{l:List fP}{W:aV->Prop}{env:fP}{loc cX:j7}
def yd.vG (st:yd (n6 l) h jQ)(K:H8 Γ l ρ h)(b:aV)(o:ou)(e:h.get? b=aa o)(nm:¬M3 o):jQ.get? b=aa o:=by
 by_cases q:b∈n6 l
 ·obtain⟨o',es,ep,uf,hd,_⟩:=ag9 K q
  obtain rfl:=ak (e.symm.trans uf);exact absurd (.inr (.inr (.inr (.inr (.inr (.inr (.inl ⟨es,ep,hd⟩))))))) nm
 ·exact st.keep b o e q
def yd.ext (st:yd (n6 l) s.heap aU.heap)(K:H8 Γ l ρ s.heap)(ho:aU.os=s.os:=by rfl)(hd:aU.drawn=s.drawn:=by rfl):Ext Γ (n6 l) W ρ s ρ aU:=
 ⟨.refl _ _,⟨st.vG K,λb o e U f=>st.keep b o e f,λb o e U f=>st.fs b o e f⟩,st.live,ho,hd⟩
def yd.sr (st:yd (n6 l) s.heap aU.heap)(K:H8 Γ l ρ s.heap)(S:SR Γ ρ H s)(hg:aU.gens=s.gens:=by rfl):SR Γ ρ H aU:=⟨S.len,S.nodup,λi o e=>(S.objs i o e).imp λr q=>⟨q.1,q.2.mono (I2.refl ρ s.heap) (st.vG K) λb hb o' e'=>st.keep b o' e' λz=>(ag9 K z).elim (by rintro _ ⟨_,_,_,_,h1,_⟩;exact h1 (cM.mpr ⟨r,bV q.1,hb⟩))⟩,λb o e=>st.keep b o (S.base b o e) λz=>(ag9 K z).elim (by rintro _ ⟨_,_,_,_,_,_,h3⟩;exact(iz (h3.symm.trans e))),S.apart,S.mz,hg▸S.gens,S.Mh (λb o hb e=>st.keep b o e λz=>(ag9 K z).elim (by rintro _ ⟨_,_,_,_,_,h2,_⟩;exact h2 hb)) (st.vG K)⟩
def FR.stp (F:FR Γ l ρ h env loc cX)(st:yd (n6 l) h h'):FR Γ l ρ h' env loc cX:=
 F.sG (λL o h1 U e=>⟨st.sG L o e,h1⟩) λv u x=>x.mono (I2.refl ρ h) (st.vG F.uc)
def MP {cls:String}{lk:List Nat}(hc:cls="ValueError" ∨cls="TypeError"){mm:aJ}{tk:RG}{α β:Type}{R:fj->bM->α->β->Prop}{Q:PQ β}{E:PQ aD}{e:aV}{h':bM}(S:SR Γ ρ H s)(K:H8 Γ l ρ s.heap)
  (P:Q7 Γ l lk ρ s (.exc cls mm) H R Q E) (hm:Heap.MadeExc s.heap h' e cls [.str mm tk]):E (.ref e) {s with heap:=h'}:=by
 refine Su hm.there λt he ht0 ht=> ?_;have kp:∀b o,∀J:s.heap.get? b=aa o,(fW h' [e]).get? b=aa o:=λb o q=>jT [e] (hm.keeps b o q) λz=>by rw[aH]at z;subst z;replace q:=hm.new▸q;exact iz q
 exact P ρ {s with heap:=h'} (.ref e) [e] (Ext.keeps kp) (S.keeps kp) (.mk e aB
  (.mk _ _ t tk 0 (λb hb=>aH.mp hb▸hm.new) (.head _) ⟨he,rfl,rfl,hc,rfl,ht⟩ (λz=>(λz=>by rw[z,he]at ht;cases ht) (aH.mp z)) (λz=>(ag9 K z).elim (by rintro _ ⟨_,_,ho,_⟩;exact iz (ht0.symm.trans ho))) rfl) (.inl rfl))
def I9.back {A:bO}{lk:List Nat}{α β:Type}{q:Res α}{jH:St}{R:fj->bM->α->β->Prop}{Q:PQ β}{E:PQ aD}
  (W:Own k env l) (a:jy A l n) (P:I9 Γ k l env lk ρ s q jH R Q E):I9 Γ k l env lk ρ s q jH R Q (notedBy Γ.M A env (cameBackBy Γ.M A env E)):=by
 cases q with
 | ok v=>exact P
 | exc c m=>
  intro fK s' e X x S F f;obtain⟨r,rfl⟩:=W.head;exact VB a.frames W.frame F.uc x.live f λqD X' f' st=>(P fK {s' with heap:=qD} e X' (x.trans' (st.ext (W:=λU=>False) F.uc) λb q=>q.elim) (st.sr F.uc S) (F.stp st) f')
end
end
section
variable {Γ:Cx}{n m:Nat}{k:Kd}
section
variable {l:List fP}{lk:List Nat}{A:bO}{ρ:fj}{H:Hp}{s:aW}{u v:aD}{a b:V}
def aie (S:SR Γ ρ H s)(hx:VR Γ ρ s.heap a u)(hy:VR Γ ρ s.heap b v):iY Γ l lk A ρ s (a6v H o a b) (inplaceOp o u v) (u6 Γ):=by
 cases o with
 | Add=>
  cases a with
  | int x=>
   refine .opt λy e=> ?_;obtain⟨t⟩:=(show LR x u from hx);obtain⟨t'⟩:=hy.intOf e;exact ai9 S λQ E h=>auu (h _ _)
  | str x=>
   refine .opt λy e=> ?_;obtain⟨t⟩:=(show Ma x u from hx);obtain⟨t'⟩:=hy.strOf e;exact aI8 (λhz Q E h=>iadd_str (λt' tk=>h t' tk) (by rw[aJ.qy]at hz;exact hz)) S
  | _=>exact .none
 | _=>exact .none
def MT (S:SR Γ ρ H s)(ho:VR Γ ρ s.heap a u)(hi:VR Γ ρ s.heap b v):q7 Γ l lk ρ s (opt (api H a b) λw=>ok w H) (λQ E=>aP Γ.M A (Em u v) Q E s) (u6 Γ):= .opt λw e=> .ok λQ E P=>by refine j5 e λp e1 e=> ?_;refine j5 e λk e2 e=> ?_;refine I3 e λhk e=> ?_;obtain⟨t⟩:=hi.intOf e2;obtain⟨a',us,nn,_,_,ha,hs,_⟩:=ho.listAt S e1;exact aC9 ha hk (aF9 hs e) λy hy=>P.ok S hy
end
def aif {α:Type}{o:Option V}{f:V->Hp->Out α}(H:Hp):jf (opt o λw=>ok w H) f=opt o λw=>f w H:=by cases o<;>rfl
def aJ1 (h:jt i=aB)(ov iv new:aD):augStore i ov iv new=(do pR [new,ov,iv] (xn ov iv new);release [new,ov,iv] [];pure .next):=by
 cases i with
 | Slice a b c p=>exact nxS h
 | _=>rfl
def Nb (Mo:O9 Γ)(I:ag8 Γ)(hF:CK Γ n)(ho:v9 Γ n k o mo)(hi:v9 Γ n k i mi)(he:v9 Γ n k e me)(hc:jt i=aB):W0 Γ (n+1) k (.AugAssign (.Subscript o i sp) op e p) (.afq mo mi op me):=λenv l A lk σ ρ s O W a S F=>
 q7.Cz ((ho env l A (σ.fm lk) σ.hp ρ s O a.pred S F).jb (λQ E w=>w) λov cU aY aU CJ cQ cg qQ=>
  (hi env l A (σ.fm lk) cU aY aU O a.pred cg (F.ext cQ)).jb (λQ E w=>w) λiv oE dz bK uJ du fU oJ=>
   aif oE▸(MT fU (qQ.ext du) oJ).DN (λQ E w=>w) λold Ag qz lL Uw qg tH yu=>
    (he env l A (σ.fm lk) Ag qz lL O a.pred tH (F.ext (cQ.trans (du.trans qg)))).jb (λQ E w=>w) λv aJx aqf wI a7s vU Cw UW=>
     (aie Cw (VR.ext yu vU) UW).jb (λQ E w=>w) λw ba4 yz kJ ba5 rQ Ai a73=>
      aQ8 Mo I hF a.pred Ai (F.ext (cQ.trans (du.trans (qg.trans (vU.trans rQ))))).uc (qQ.ext (du.trans (qg.trans (vU.trans rQ)))) (oJ.ext (qg.trans (vU.trans rQ))) a73)
  F (λQ E w=>wpAny_AugAssign_SubscriptAny w (aJ1 hc)) λU cU aY aU U cQ cg U=> .ok λQ E P=>P.done cg (F.ext cQ) rfl
def VD
  (h:aP M A (eval o env) (λov aU=>aP M A (eval i env) (λiv bK=>aP M A (delItem ov iv) (λU s'=>Q .next s') E bK) E aU) E s):aP M A (adw (.Delete [.Subscript o i sp] p) env) Q E s:=by
 refine wpAny_Delete (wpAny_deleteEach_cons ?_);show aP _ _ (do
  let ov←eval o env
  let iv←pR [ov] (eval i env)
  nJ sp
  pR [ov,iv] (delItem ov iv)
  release [ov,iv] []) _ _ _
 exact aj (bH h (λov aU h=>aj (bJ (bH h (λiv bK h=>aj (dM (aj (bJ (bH h (λU U z=>QQ (wpAny_deleteEach_nil z)) λU U z=>z))))) λU U z=>z))) λU U z=>z)
def VF (Mo:O9 Γ)(I:ag8 Γ)(hF:CK Γ n)(ho:v9 Γ n k o mo)(hi:v9 Γ n k i mi):W0 Γ (n+1) k (.Delete [.Subscript o i sp] p) (.del mo mi):=λenv l A lk σ ρ s O W a S F=>
 q7.Cz ((ho env l A (σ.fm lk) σ.hp ρ s O a.pred S F).jb (λQ E w=>w) λov cU aY aU CJ cQ cg qQ=>
  (hi env l A (σ.fm lk) cU aY aU O a.pred cg (F.ext cQ)).jb (λQ E w=>w) λiv oE dz bK uJ du fU oJ=>Vp Mo I hF a.pred fU (F.ext (cQ.trans du)).uc (qQ.ext du) oJ)
  F (λQ E w=>VD w) λU cU aY aU U cQ cg U=> .ok λQ E P=>P.done cg (F.ext cQ) rfl
def aM1 (Fc:ExcCallFacts cls nid iid)(Gc:ExcRaiseFacts cls)(hcc:cls="ValueError" ∨cls="TypeError")(hd:c≠("__debug__":aJ))(hk:k c=aa .globalImplicit)(hg:Bl Γ c (.type cls)):W0 Γ (n+1) k (.Raise (aa (.Call (.Name c np) [.Constant (.str msg) j ep] [] cp)) aB p) (.raise cls msg):=λenv l A lk σ ρ s O W a S F q jH ev Q E P=>by refine wpAny_Raise_call Fc Gc a.hand rfl (eX (ab5 O hk hg S ⟨rfl, ?_⟩) (J0 hd));refine nu ?_;show aP _ _ (spliced ((aC,eval (.Constant (.str msg) j ep) env):: [])) _ _ _;refine jk (wpAny_Constant_str (mY ⟨rfl,by simp [gV],λh' e hm=> ?_⟩));exact MP (R:=u6 Γ) (Q:=λU U=>True) hcc (S.same) (F.uc) (λfK s' e X x S' f=>(P.take ev:I9 Γ k l env lk ρ s (.exc cls msg) σ (zg Γ) Q E) fK s' e X ((Ext.same:Ext Γ (n6 l) (Wr Γ lk ρ) ρ s ρ _).trans x).toS S' (F.ext ((Ext.same:Ext Γ (n6 l) (Wr Γ lk ρ) ρ s ρ _).trans x)) f) hm
def aM2 (h:yq c=aa x):(c=("ValueError":aJ)∧x="ValueError")∨(c=("TypeError":aJ)∧x="TypeError"):=by
 unfold yq at h;by_cases q:c=("ValueError":aJ)
 ·replace h:=(bN q)▸h;exact .inl ⟨q,(ak h).symm⟩
 ·replace h:=(bk q)▸h
  by_cases q':c=("TypeError":aJ)
  ·rw[bN q']at h;exact .inr ⟨q',(ak h).symm⟩
  ·replace h:=(bk q')▸h;exact iz h
def aY0 (G:Z6 Γ)(hk:k c=aa .globalImplicit)(hx:yq c=aa x):W0 Γ (n+1) k (.Raise (aa (.Call (.Name c np) [.Constant (.str msg) j ep] [] cp)) aB p) (.raise x msg):=by
 rcases aM2 hx with⟨rfl,rfl⟩ | ⟨rfl,rfl⟩
 ·exact aM1 PySem.F.excCall_ValueError PySem.F.excRaise_ValueError (.inl rfl) (by decide) hk G.ve
 ·exact aM1 PySem.F.excCall_TypeError PySem.F.excRaise_TypeError (.inr rfl) (by decide) hk G.te
def VG {mt:j0}(ht:Z0 Γ n k t mt)(ih:yx Γ n):W0 Γ (n+1) k (.While t b [] p) (.whl mt (b.map (cS m k))):=λenv l A lk σ ρ s O W a S F q jH ev Q E P=>by
 refine wpAny_While (codeAny_whileLoop (λj aU=>∃ir aY,BZ (λσ=>lq σ (uH Γ.G n (σ.fm lk) mt σ.hp)) (z8 (ik Γ.G n lk) (b.map (cS m k))) j ir=aa (q,jH)∧SR Γ aY ir.hp aU∧FR Γ l aY aU.heap env ir.loc ir.cX∧I9 Γ k l env lk aY aU q jH (zg Γ) Q E)
  (λj aU hI=> ?_) 64 ⟨σ,ρ,ev,S,F,P⟩)
 refine uG λY Z=> ?_;obtain⟨ir,aY,lU,cg,oF,Fw⟩:=hI;refine Z ?_;cases j with
 | zero=>exact t7 lU
 | succ j=>
  refine q7.zQ (ht env l A (ir.fm lk) ir.hp aY aU O a.pred cg oF) oF lU (Fw.back W a) λv oE dz bK u aqj du fU hv axk=> ?_;obtain rfl:u=v:=hv;cases u with
  | false=>
   exact oN (axk.take aqj dz bK .next .refl fU (oF.ext du) rfl)
  | true=>
   refine I8.step (ao3 (σ:={ir with hp:=oE}) ih O W a.pred b fU (oF.ext du)) aqj axk λfl aqk qz lL u Ja qg tH Nf r ba7=> ?_;have Jb:=(Fw.ext du.toS).ext qg;cases fl with
   | next=>obtain rfl:u= .next:=r;exact⟨j,eE j,aqk,qz,Ja,tH,Nf,Jb⟩
   | cont=>obtain rfl:u= .cont:=r;exact⟨j,eE j,aqk,qz,Ja,tH,Nf,Jb⟩
   | brk=>obtain rfl:u= .brk:=r;exact(Jb.take Ja).done tH Nf rfl
   | ret v=>obtain⟨w,hv⟩:=r;exact(Jb.take Ja).done tH Nf ⟨w,hv⟩
end
section
variable {Γ:Cx}{n m:Nat}{k:Kd}
structure Off (X:aV->Prop)(h h':bM):Prop where
 keep:∀b o,∀J:¬X b,∀J:h.get? b=aa o,h'.get? b=aa o
 turns:∀b o,∀J:X b,∀J:h.get? b=aa o,M3 o
structure VH (Γ:Cx)(ρ:fj)(b:aV):Prop where
 obj:b∉ρ.flatten
 tab:b∉Γ.tabs
 base:Γ.g0.get? b=aB
structure aKh (l:List fP)(env:fP)(b:aV):Prop where
 fs:b∉n6 l
 loc:b≠env.locals
 cX:∀y c,∀J:env.cells.lookup y=aa c,b≠c
section
variable {X:aV->Prop}{ρ aY:fj}{H:Hp}{h h':bM}{s s' aU bK:aW}{l:List fP}{env:fP}{loc cX:j7}{FS:List aV}{W:aV->Prop}{lk lk':List Nat}{b:aV}
def Off.vG (x:Off X h h')(b:aV)(o:ou)(e:h.get? b=aa o)(nm:¬M3 o):h'.get? b=aa o:=x.keep b o (λq=>nm (x.turns b o q e)) e
def SR.off (S:SR Γ ρ H s)(x:Off X s.heap s'.heap)(hx:∀b,∀J:X b,VH Γ ρ b)(hg:s'.gens=s.gens:=by rfl):SR Γ ρ H s':=
 ⟨S.len,S.nodup,λi o e=>(S.objs i o e).imp λr q=>⟨q.1,q.2.mono (I2.refl ρ s.heap) x.vG λb hb o' e'=>x.keep b o' (λz=>(hx b z).obj (cM.mpr ⟨r,bV q.1,hb⟩)) e'⟩,λb o e=>x.keep b o (λq=>by replace e:=((hx b q).base)▸e;exact iz e) (S.base b o e),S.apart,S.mz,hg▸S.gens,S.Mh (λb o hb e=>x.keep b o (λq=>(hx b q).tab hb) e) x.vG⟩
def Ext.aKi (x:Off X s.heap s'.heap)(lv:R5 s.heap s'.heap)(hw:∀b,∀J:X b,W b)(h1:s'.os=s.os:=by rfl)(h2:s'.drawn=s.drawn:=by rfl):Ext Γ FS W ρ s ρ s':=
 ⟨.refl _ _,⟨x.vG,λb o e n U=>x.keep b o (λq=>n (hw b q)) e,λb o e n U=>⟨o.slots,x.keep b o (λq=>n (hw b q)) e⟩⟩,lv,h1,h2⟩
def FR.off (F:FR Γ l ρ s.heap env loc cX)(x:Off X s.heap s'.heap)(hx:∀b,∀J:X b,aKh l env b):FR Γ l ρ s'.heap env loc cX:=by
 obtain⟨m,hn,hl⟩:=F.ns;refine⟨λe he=> ?_,⟨m, ?_,λy v e=>(hl y v e).imp λu q=>⟨q.1,(λz=>z.mono (I2.refl ρ s.heap) x.vG) q.2⟩⟩,λy v e=> ?_,F.wH,F.xH,F.xJ,F.sU,F.Ac,F.vR,λy c e=> ?_,F.apart,F.neL,F.Fp⟩
 ·obtain⟨L,o,es,n,hk,hf,ho,hd,r1,r2,r3⟩:=F.uc e he
  exact⟨L,o,es,n,hk,hf,x.keep L o (λq=>(hx L q).fs (wz.mpr ⟨e,he,hf⟩)) ho,hd,r1,r2,r3⟩
 ·obtain⟨o,es,ep,ho,r⟩:=hn
  exact⟨o,es,ep,x.keep _ o (λq=>(hx _ q).loc rfl) ho,r⟩
 ·obtain⟨c,u,hc,⟨o,ho,hd⟩,hv⟩:=F.cells y v e
  exact⟨c,u,hc,⟨o,x.keep c o (λq=>(hx c q).cX y c hc rfl) ho,hd⟩,(λz=>z.mono (I2.refl ρ s.heap) x.vG) hv⟩
 ·obtain⟨o,v,ho,hd⟩:=F.oH y c e
  exact⟨o,v,x.keep c o (λq=>(hx c q).cX y c e rfl) ho,hd⟩
def Ext.axm (x:Ext Γ FS W ρ s aY aU)(kp:∀b o,∀J:¬X b,∀J:aU.heap.get? b=aa o,bK.heap.get? b=aa o)(new:∀b,∀J:X b,s.heap.get? b=aB)(h1:bK.os=aU.os:=by rfl)(h2:bK.drawn=aU.drawn:=by rfl):Ext Γ FS W ρ s aY bK:=
 have nx:∀b o,∀J:s.heap.get? b=aa o,¬X b:=λb o e q=>iz ((new b q).symm.trans e)
 ⟨x.grow,⟨λb o e nm=>kp b o (nx b o e) (x.vf.vG b o e nm),λb o e nw nf=>kp b o (nx b o e) (x.vf.keep b o e nw nf),λb o e nw hf=>(x.vf.fs b o e nw hf).imp λsl e'=>kp b _ (nx b o e) e'⟩,λb o e=>(x.live b o e).imp λo' e'=>kp b _ (nx b o e) e',h1.trans x.os,h2.trans x.drawn⟩
def vV.less (hl:∀i∈lk,i∈lk')(q:vV Γ k lk' ρ env b):vV Γ k lk ρ env b:=q.imp (λq=>q.imp id (by rintro⟨i,r,e,hm,hn⟩;exact⟨i,r,e,hm,λz=>hn (hl i z)⟩)) id
def I9.lock {α β:Type}{q:Res α}{jH:St}{R:fj->bM->α->β->Prop}{Q:PQ β}{E:PQ aD}(P:I9 Γ k l env lk ρ s q jH R Q E)(hl:∀i∈lk,i∈lk'):I9 Γ k l env lk' ρ s q jH R Q E:=by
 cases q with
 | ok _=>exact λfK s' u x=>P fK s' u (x.weaken λU q=>q.less hl)
 | exc _ _=>exact λfK s' e X x=>P fK s' e X (x.weaken λU q=>q.less hl)
def I7 (S:SR Γ ρ H s)(hb:s.heap.get? b=aB):VH Γ ρ b:=by
 refine⟨λq=> ?_,λq=> ?_, ?_⟩
 ·obtain⟨o,e,_⟩:=S.live q;replace e:=hb▸e;exact iz e
 ·exact(Γ.nT _ S.tabs b q).elim λo e=>iz (hb.symm.trans e.1)
 ·cases q:Γ.g0.get? b with
  | none=>rfl
  | some o=>exact iz (hb.symm.trans (S.base b o q))
structure Still (Γ:Cx)(k:Kd)(l:List fP)(env:fP)(lk:List Nat)(ρ:fj)(b:aV):Prop where
 wr:¬vV Γ k lk ρ env b
 fs:b∉n6 l
def ax3 (S:SR Γ ρ H s)(F:FR Γ l ρ s.heap env loc cX)(hb:s.heap.get? b=aB):Still Γ k l env lk ρ b:=by
 have B:=I7 S hb;refine⟨λq=> ?_,λq=>(ag9 F.uc q).elim (by rintro _ ⟨_,_,ho,_⟩;exact iz (hb.symm.trans ho))⟩;rcases q with(q | ⟨i,r,e,hm,_⟩) | q | ⟨x,_,q⟩
 ·exact B.tab q
 ·exact B.obj (cM.mpr ⟨r,bV e,hm⟩)
 ·obtain⟨o,ho⟩:=F.ns.there
  simp only[←q,hb]at ho;exact iz ho
 ·obtain⟨o,_,ho,_⟩:=F.oH x b q
  replace ho:=hb▸ho;exact iz ho
def Jc (S:SR Γ ρ H s)(F:FR Γ l ρ s.heap env loc cX)(hb:s.heap.get? b=aa o)(hm:¬M3 o):Still Γ k l env lk ρ b:=by
 have no:¬V2 s.heap b:=λt=>t.casesOn λo' uf Rg=>hm (ak (uf.symm.trans hb)▸Rg);refine⟨λq=>no ?_,λq=>(ag9 F.uc q).elim (by rintro o' ⟨es,ep,ho,hd,_⟩;exact no ⟨o',ho,.inr (.inr (.inr (.inr (.inr (.inr (.inl ⟨es,ep,hd⟩))))))⟩)⟩;rcases q with(q | ⟨i,r,e,hr,_⟩) | q | ⟨x,_,q⟩
 ·exact(Γ.nT _ S.tabs b q).elim λo' e=>⟨o',e.1,.inr (.inr (.inr (.inr (.inr (.inl e.2)))))⟩
 ·exact S.live (cM.mpr ⟨r,bV e,hr⟩)
 ·obtain⟨m,hn,_⟩:=F.ns
  exact q▸qL.vh hn
 ·obtain⟨o',v,uf,hd⟩:=F.oH x b q
  exact uY.vh ⟨o',uf,hd⟩
def aD9 (S:SR Γ ρ H s)(F:FR Γ l ρ s.heap env loc cX)(hr:ρ[i]?=aa r)(hb:b∈r)(hi:i∈lk):Still Γ k l env lk ρ b:=by
 have hm:=cM.mpr ⟨r,bV hr,hb⟩;refine⟨λq=> ?_,λq=>(ag9 F.uc q).elim (by rintro _ ⟨_,_,_,_,h1,_⟩;exact h1 hm)⟩;rcases q with(q | ⟨j,r',e,Rg,hj⟩) | q | ⟨x,_,q⟩
 ·exact S.mz b hm q
 ·exact aL3 S.nodup hr e (λz=>hj (z▸hi)) hb Rg
 ·exact F.wH (q▸hm)
 ·exact F.xH x b q hm
end
structure wW (Γ:Cx)(A:bO)(I:aV)(fp wr:List aV)(n:Nat)(P:Nat->aD->Prop)(St:Nat->bM->Prop):Prop where
 sub:∀b∈wr,b∈fp
 frame:∀i h h',St i h->∀J:(∀b∈fp,∀o,∀J:h.get? b=aa o,h'.get? b=aa o),St i h'
 item:∀i (s:aW) (Q:PQ (Option aD)) (E:PQ aD),∀J:i<n,St i s.heap->
  ∀J:(∀v h' tk,∀J:P i v,St (i+1) h'->∀J:(∀b o,∀J:b∉wr,∀J:s.heap.get? b=aa o,h'.get? b=aa o),Q (aa v) {s with heap:=h',toks:=tk}),aP Γ.M A (Bb (.ref I)) Q E s
 done:∀(s:aW)(Q:PQ (Option aD))(E:PQ aD),St n s.heap->
  ∀J:(∀h' tk,∀J:(∀b o,∀J:b∉wr,∀J:s.heap.get? b=aa o,h'.get? b=aa o),Q aB {s with heap:=h',toks:=tk}),aP Γ.M A (Bb (.ref I)) Q E s
 turns:∀i h,St i h->∀b∈wr,V2 h b
 self:∀i (s:aW) (Q:PQ aD) (E:PQ aD),St i s.heap->∀J:Q (.ref I) s,aP Γ.M A (vy (.ref I)) Q E s
 go:∀(i:Nat)(target:aG)(v:aD)(s:aW)(Q:PQ Unit)(E:PQ aD),∀J:0<i,∀J:i≤n,St i s.heap->∀J:Q () s,aP Γ.M A (lQ target (.ref I) v) Q E s
structure ItC (Γ:Cx)(A:bO)(tg:aG)(I:aV)(fp wr:List aV)(n:Nat)(P:Nat->aD->bM->Prop)(St:Nat->bM->Prop):Prop where
 sub:∀b∈wr,b∈fp
 frame:∀i h h',St i h->∀J:(∀b∈fp,∀o,∀J:h.get? b=aa o,h'.get? b=aa o),St i h'
 item:∀i (s:aW) (Q:PQ aD) (E:PQ aD),∀J:i<n,St i s.heap->∀J:(∀v h' tk,∀J:P i v h',St (i+1) h'->∀J:(∀b o,∀J:b∉wr,∀J:s.heap.get? b=aa o,h'.get? b=aa o),Q v {s with heap:=h',toks:=tk}),aP Γ.M A (Bb (.ref I)) (λr aU=>∃v,r=aa v∧aP Γ.M A (lQ tg (.ref I) v) (λU bK=>Q v bK) E aU) E s
 done:∀(s:aW)(Q:PQ (Option aD))(E:PQ aD),St n s.heap->∀J:(∀h' tk,∀J:(∀b o,∀J:b∉wr,∀J:s.heap.get? b=aa o,h'.get? b=aa o),Q aB {s with heap:=h',toks:=tk}),aP Γ.M A (Bb (.ref I)) Q E s
 turns:∀i h,St i h->∀b∈wr,V2 h b
 self:∀i (s:aW) (Q:PQ aD) (E:PQ aD),St i s.heap->∀J:Q (.ref I) s,aP Γ.M A (vy (.ref I)) Q E s
def wW.toC {P:Nat->aD->Prop}{St:Nat->bM->Prop}(T:wW Γ A I fp wr n P St)(tg:aG):ItC Γ A tg I fp wr n (λi v U=>P i v) St:=
 ⟨T.sub,T.frame,λi s U E hi st hQ=>T.item i s _ E hi st λv h' tk hv DQ kp=>⟨v,rfl,T.go (i+1) tg v _ _ E (fO _) hi DQ (hQ v h' tk hv DQ kp)⟩,T.done,T.turns,T.self⟩
def ItC.next {P:Nat->aD->bM->Prop}{St:Nat->bM->Prop}(T:ItC Γ A tg I fp wr n P St){Q:PQ aD}(hi:i<n)(st:St i s.heap)
  (hr:∀v aU,∀J:aP Γ.M A (lQ tg (.ref I) v) (λU bK=>Q v bK) E aU,Qr (aa v) aU) (h:∀v h' tk,∀J:P i v h',St (i+1) h'->∀J:(∀b o,∀J:b∉wr,∀J:s.heap.get? b=aa o,h'.get? b=aa o),Q v {s with heap:=h',toks:=tk}):
  aP Γ.M A (Bb (.ref I)) Qr E s:=
 bH (T.item i s Q E hi st h) (by rintro _ aU ⟨v,e,z⟩;exact e▸hr v aU z) λU U z=>z
inductive aql (Γ:Cx)(k:Kd)(A:bO)(tg:aG)(l:List fP)(env:fP)(lk:List Nat)(ρ:fj)(h₀ h:bM)(vs:List V):aD->Prop
 | mk (I:aV) (fp wr:List aV) (P:Nat->aD->bM->Prop) (St:Nat->bM->Prop) (yS:ItC Γ A tg I fp wr vs.length P St) (Rj:St 0 h) (val:∀(i:Nat)(v:aD)(x:V)(fK:fj)(h':bM),∀J:P i v h',∀J:vs[i]?=aa x,∀J:I2 ρ h fK,∀J:(∀b o,∀J:h.get? b=aa o,∀J:¬M3 o,h'.get? b=aa o),VR Γ fK h' x v) (live:∀b∈fp,∃o,h.get? b=aa o)
   (off:∀b∈fp,Still Γ k l env lk ρ b) (new:∀b∈wr,h₀.get? b=aB) (free:∀b∈wr,VH Γ ρ b) (cX:∀b∈wr,∀y c,∀J:env.cells.lookup y=aa c,b≠c):aql Γ k A tg l env lk ρ h₀ h vs (.ref I)
abbrev Aj (Γ:Cx)(k:Kd)(A:bO)(tg:aG)(l:List fP)(env:fP)(lk:List Nat)(h₀:bM):fj->bM->List V×List Nat->aD->Prop:=
 λρ h q it=>aql Γ k A tg l env (q.2++lk) ρ h₀ h q.1 it
def CN (Γ:Cx)(n:Nat)(k:Kd)(tg:aG)(it:aG)(mi:j0):Prop:=
 ∀(env:fP)(l:List fP)(A:bO)(φ:Fm)(H:Hp)(ρ:fj)(s:aW),∀J:v8 Γ k env,∀J:jy A l n,∀J:SR Γ ρ H s,∀J:FR Γ l ρ s.heap env φ.loc φ.cX,q7 Γ l φ.lk ρ s (vO (o8 Γ.G n) φ mi H) (λQ E=>aP Γ.M A (eval it env) (λx aU=>aP Γ.M A (vy x) Q E aU) E s) (Aj Γ k A tg l env φ.lk s.heap)
noncomputable def aJ2:List String:= ["enumerate","zip","dict_itemiterator","dict_reverseitemiterator","odict_iterator","itertools.zip_longest","itertools.pairwise"]
def a75 (ho:s.heap.get? I=aa o)(hc:o.cls= .type T)
  (hT:aJ2.contains T=aC) (hQ:Q () s):aP M A (lQ target (.ref I) v) Q E s:=by
 have arm:∀p:sZ,aP M A (lQ (.List [] p) (.ref I) v) Q E s:=λp=>by
  obtain⟨cl,di,da,sl⟩:=o;obtain rfl:cl= .type T:=hc;cases v with
  | ref a=>
   refine aj (HF ho ?_);cases da with
   | fields vs=>
    show aP _ _ (if (aJ2.contains T&&vs[0]?==aa (kW a))=au then _ else _) _ _ _;exact aO hT (aA hQ)
   | _=>exact aA hQ
  | _=>exact aA hQ
 cases target with
 | Tuple l j p=>exact arm p
 | List l p=>exact arm p
 | _=>exact aA hQ
def wW.ofWalks {P:Nat->aD->Prop}{St:Nat->bM->Prop}(W:Walks Γ.prog Γ.w A I fp wr n P St)(turns:∀i h,St i h->∀b∈wr,V2 h b)
  (go:∀i target v s Q E,St i s.heap->∀J:Q () s,aP Γ.M A (lQ target (.ref I) v) Q E s):wW Γ A I fp wr n P St:=
 ⟨W.sub,W.frame,W.item,W.done,turns,W.self,λi t v s Q E U U=>go i t v s Q E⟩
inductive ItO (h:bM)(I:aV):Prop
 | mk (o:ou) (T:String) (ho:h.get? I=aa o) (hc:o.cls= .type T) (hk:jh T∈itK) (hn:aJ2.contains T=aC):ItO h I
def wW.of1 {P:Nat->aD->Prop}{St:Nat->bM->Prop}(W:Walks Γ.prog Γ.w A I fp [I] n P St)(io:∀i h,St i h->ItO h I):wW Γ A I fp [I] n P St:=
 .ofWalks W (λi h st b hb=>(io i h st).casesOn λo T ho hc hk U=>⟨o,aH.mp hb▸ho,.inr (.inr (.inr (.inr (.inr (.inr (.inr (.inr (hc▸hk))))))))⟩)
  λi t v s Q E st hQ=>(io i _ st).casesOn λo T ho hc U hn=>a75 ho hc hn hQ
theorem wW.list (hh:A.handled=aB)(vg:ax≠I)(items:Array aD):wW Γ A I [I,ax] [I] items.size (λi v=>items[i]?=aa v) (λi h=>h.IsListIter I ax i∧h.IsList ax items):=
 .of1 (Walks.list hh I ax vg items) λi h st=>st.1.elim λo q=>⟨o,_,q.1,q.2.1,by decide,by decide⟩
theorem wW.tuple (hh:A.handled=aB)(vg:ax≠I)(items:Array aD):wW Γ A I [I,ax] [I] items.size (λi v=>items[i]?=aa v) (λi h=>h.IsTupleIter I ax i∧h.IsTuple ax items):=
 .of1 (Walks.tuple hh I ax vg items) λi h st=>st.1.elim λo q=>⟨o,_,q.1,q.2.1,by decide,by decide⟩
theorem wW.range (hh:A.handled=aB)(I:aV)(a c:Int)(n:Nat):wW Γ A I [I] [I] n (λi v=>∃t,v= .int (a+i*c) t) (λi h=>IsRangeIter h I (a+(i:Nat)*c) ((n:Int)-(i:Nat)) c):=
 .of1 (Walks.range hh I a c n) λi h st=>⟨_,_,st,rfl,by decide,by decide⟩
def wW.str (hh:A.handled=aB)(I:aV)(x:aJ)(t:RG)(hty:ty="str_ascii_iterator" ∨ty="str_iterator"):wW Γ A I [I] [I] x.cps.size (SignAt x) (λi h=>h.IsStrIter I ty x t i):=
 .of1 (hty.elim (λe=>e▸Walks.strAscii hh I x t) (λe=>e▸Walks.strWide hh I x t)) λi h st=>st.elim λo q=>⟨o,_,q.1,q.2.1,by rcases hty with rfl | rfl<;>decide,by rcases hty with rfl | rfl<;>decide⟩
def wW.items (hh:A.handled=aB)(vg:d≠I)(ep:Nat):wW Γ A I [I,d] [I] 0 (λU U=>False) (λi h=>∃ok ov,IsItemIter h I d i 0 ep ok ov∧h.DictAt (strKind Γ.prog Γ.w) d [] ep) where
 sub:=λb hb=>aH.mp hb▸ .head _
 frame:=λi h h' st hk=>by refine uG λY Z=> ?_;obtain⟨ok,ov,h1,o,es,ho,r⟩:=st;exact Z ⟨ok,ov,hk I (.head _) _ h1,o,es,hk d (.tail _ (.head _)) _ ho,r⟩
 item:=λi s Q E hi=>absurd hi (uA i)
 done:=λs Q E st hQ=>by exact exY st λok ov h1 h2=>(wpAny_pyNext_items_end hh h1 h2 rfl λh' he'=>hQ h' s.toks λb o hb e=>he' b o (λh=>hb (h▸ .head _)) e)
 turns:=λi h st b hb=>by exact exY st λok ov h1 _=>⟨_,aH.mp hb▸h1,.inr (.inr (.inr (.inr (.inr (.inr (.inr (.inr (by simp [itK]))))))))⟩
 go:=λi t v s Q E h0 h1=>absurd h0 (ady.mpr h1)
 self:=λi s Q E st h=>by exact exY st λok ov h1 h2=>(kcp_self h1 h)
def wW.len {P:Nat->aD->Prop}{St:Nat->bM->Prop}(x:wW Γ A I fp wr n P St)(e:n=n'):wW Γ A I fp wr n' P St:=e▸x
section
variable {A:bO}{l:List fP}{env:fP}{lk:List Nat}{ρ:fj}{H:Hp}{s:aW}{loc cX:j7}{Q:PQ aD}{E:PQ aD}{h₀:bM}
def an1 (S:SR Γ ρ H s)(F:FR Γ l ρ s.heap env loc cX)(lv:R5 h₀ s.heap){P:Nat->aD->Prop}{St:Nat->bM->Prop}(T:wW Γ A s.heap.objs.size fp [s.heap.objs.size] vs.length P St)
  (Rj:St 0 (s.heap.push o)) (fpo:∀b∈fp,b=s.heap.objs.size∨((∃o,s.heap.get? b=aa o)∧Still Γ k l env (uh++lk) ρ b)) (hv:∀i v x,∀J:P i v,∀J:vs[i]?=aa x,VR Γ ρ (s.heap.push o) x v)
  (hf:o.isFreed=aC) (Pq:Q7 Γ l lk ρ s (.ok (vs,uh)) H (Aj Γ k A tg l env lk h₀) Q E):Q (.ref s.heap.objs.size) {s with heap:=s.heap.push o}:=by
 have nb:=N5 s.heap;refine Pq ρ {s with heap:=s.heap.push o} _ (Ext.keeps (N6 s.heap o)) (S.keeps (N6 s.heap o)) (.mk _ fp _ _ St (T.toC tg) Rj (λi v x fK h' hp hx g im=>(hv i v x hp hx).mono g im) (λb hb=> ?_) (λb hb=> ?_) (λb hb=>aH.mp hb▸lv.none nb) (λb hb=>aH.mp hb▸I7 S nb) λb hb y c e z=> ?_)
 ·rcases fpo b hb with rfl | ⟨e,_⟩
  ·exact⟨o,bx _ hf⟩
  ·exact e.imp λo' e=>(N6 s.heap o) b o' e
 ·rcases fpo b hb with rfl | ⟨_,h⟩
  ·exact ax3 S F nb
  ·exact h
 ·obtain rfl:=aH.mp hb
  obtain⟨o',_,ho,_⟩:=F.oH y c e;simp only[←z,nb]at ho;exact iz ho
end
end
section
variable {Γ:Cx}{n m:Nat}{k:Kd}
section
variable {A:bO}{l:List fP}{env:fP}{lk:List Nat}{ρ:fj}{H:Hp}{s:aW}{loc cX:j7}{h₀:bM}{u:aD}{tg:aG}
abbrev ItS (Γ:Cx)(k:Kd)(A:bO)(tg:aG)(l:List fP)(env:fP)(lk:List Nat)(h₀:bM)(ρ:fj)(H:Hp)(s:aW)(q:List V×List Nat)(u:aD):Prop:=
 q7 Γ l lk ρ s (ok q H) (λQ E=>aP Γ.M A (vy u) Q E s) (Aj Γ k A tg l env lk h₀)
def axn (hh:A.handled=aB)(S:SR Γ ρ H s)(F:FR Γ l ρ s.heap env loc cX)(lv:R5 h₀ s.heap)(hv:Mf s.heap (gD Γ ρ s.heap vs) u):ItS Γ k A tg l env lk h₀ ρ H s (vs, []) u:= .ok λQ E P=>by
 obtain⟨t,us,nn,ht,iB⟩:=hv;refine sO (an8 ht) (an1 S F lv ((wW.tuple hh (cW (gf ht)) us).len iB.size) ⟨⟨_,bx _ rfl,rfl,rfl⟩,an8 (N6 _ _ _ _ ht)⟩ (λb hb=> ?_) (λi w x hw hx=> ?_) rfl P)
 ·exact(bc.mp hb).imp id λhb=>by refine aO (aH.mp hb) ?_;exact⟨⟨_,ht⟩,Jc S F ht al9⟩
 ·exact(iB.get hx (by refine aO (cz) ?_;exact hw)).mono (I2.refl ρ s.heap) λb o e U=>N6 _ _ b o e
def axo (hh:A.handled=aB)(S:SR Γ ρ H s)(F:FR Γ l ρ s.heap env loc cX)(lv:R5 h₀ s.heap)(hv:Y0 Γ ρ H s.heap i vs u):ItS Γ k A tg l env lk h₀ ρ H s (vs, [i]) u:= .ok λQ E P=>by
 obtain⟨t,us,nn,_,hr,ht,iB,_⟩:=hv;refine wpAny_pyIter_list (M7 ht) (an1 S F lv ((wW.list hh (cW (gf ht)) us).len iB.size) ⟨⟨_,bx _ rfl,rfl,rfl⟩,M7 (N6 _ _ _ _ ht)⟩ (λb hb=> ?_) (λi w x hw hx=> ?_) rfl P)
 ·exact(bc.mp hb).imp id λhb=>by refine aO (aH.mp hb) ?_;exact⟨⟨_,ht⟩,aD9 S F hr (.head _) (.head _)⟩
 ·exact(iB.get hx (by refine aO (cz) ?_;exact hw)).mono (I2.refl ρ s.heap) λb o e U=>N6 _ _ b o e
def axp (hh:A.handled=aB)(S:SR Γ ρ H s)(F:FR Γ l ρ s.heap env loc cX)(lv:R5 h₀ s.heap):ItS Γ k A tg l env lk h₀ ρ H s (x.cps.toList.map λc=> .str ⟨#[c]⟩, []) (.str x t):= .ok λQ E P=>by
 have val:∀h i w y,∀J:SignAt x i w,∀J:(x.cps.toList.map λc=>V.str ⟨#[c]⟩)[i]?=aa y,VR Γ ρ h y w:=λh i w y hw hy=>by obtain⟨c,tk,hc,rfl⟩:=hw;rw[gF,cz,hc]at hy;obtain rfl:=ak hy;exact .mk tk
 have len:x.cps.size=(x.cps.toList.map λc=>V.str ⟨#[c]⟩).length:=by simp only[aF,dR]
 by_cases ha:x.cps.all (·<128)=au
 ·exact wpAny_pyIter_ascii ha (an1 S F lv ((wW.str hh _ x t (.inl rfl)).len len) ⟨_,bx _ rfl,rfl,rfl⟩ (λb hb=> .inl (aH.mp hb)) (val _) rfl P)
 ·exact wpAny_pyIter_wide (by simpa using ha) (an1 S F lv ((wW.str hh _ x t (.inr rfl)).len len) ⟨_,bx _ rfl,rfl,rfl⟩ (λb hb=> .inl (aH.mp hb)) (val _) rfl P)
def axq (hh:A.handled=aB)(S:SR Γ ρ H s)(F:FR Γ l ρ s.heap env loc cX)(lv:R5 h₀ s.heap)(hv:awn ρ s.heap i u)(hi:H[i]?=aa .vD):ItS Γ k A tg l env lk h₀ ρ H s ([], [i]) u:= .ok λQ E P=>by obtain⟨b,d,hr,hb⟩:=hv;obtain⟨d,nn,Bm⟩:=(S.or hi hr);have nil:∀{h':bM},∀J:h'.get? d=aa (iD [] nn),h'.DictAt (strKind Γ.prog Γ.w) d [] nn:=λe=>⟨_, #[],e,⟨rfl,rfl,rfl⟩,rfl,λe he=>by simp at he,.nil,by decide⟩;refine wpAny_pyIter_items ⟨_,hb,rfl,rfl⟩ (nil Bm) (an1 S F lv (wW.items hh (cW (gf Bm)) nn) ⟨_,_,bx _ rfl,nil (N6 _ _ _ _ Bm)⟩ (λb' hb=> ?_) (λj w x hw hx=>hw.elim) rfl P);exact(bc.mp hb).imp id λhb=>by refine aO (aH.mp hb) ?_;exact⟨⟨_,Bm⟩,aD9 S F hr (.head _) (.head _)⟩
def axr (hh:A.handled=aB)(S:SR Γ ρ H s)(F:FR Γ l ρ s.heap env loc cX)(lv:R5 h₀ s.heap)(hv:VR Γ ρ s.heap v u):q7 Γ l lk ρ s (opt (Ra H v) λl=>ok (l,ag1 v) H) (λQ E=>aP Γ.M A (vy u) Q E s) (Aj Γ k A tg l env lk h₀):= .opt λvs e=>by
 cases v with
 | tup xs=>obtain rfl:=ak e;exact axn hh S F lv hv
 | str x=>obtain rfl:=ak e;obtain⟨t⟩:=hv;exact axp hh S F lv
 | ref i=>
  exact j5 e λo hi e=>(axo hh S F lv (VR.list hv S (lst_inv e▸hi)))
 | QZ i=>
  refine j5 e λo hi e=> ?_;cases o with
  | vD=>obtain rfl:=ak e;exact axq hh S F lv hv hi
  | _=>exact t7 e
 | _=>exact t7 e
end
def VJ:j0->Bool
 | .Bh _=>aC
 | .za _=>aC
 | _=>au
def aG3 (he:v9 Γ n k e me)(hp:VJ me=au):CN Γ n k tg e me:=λenv l A φ H ρ s O a S F=>by
 have e':vO (o8 Γ.G n) φ me H=jf (dD Γ.G n φ me H) λv H=>opt (Ra H v) λl=>ok (l,ag1 v) H:=by
  cases me with
  | Bh l=>exact qI hp
  | za e=>exact qI hp
  | _=>rfl
 exact aO e' ((he env l A φ H ρ s O a S F).jb (λQ E w=>w) λv cU aY aU u cQ cg hv=>axr a.hand cg (F.ext cQ) cQ.live hv)
end
section
variable {Γ:Cx}{n m:Nat}{k:Kd}
structure VK (Γ:Cx)(k:Kd)(l:List fP)(env:fP)(lk uh:List Nat)(wr:List aV)(Ng:Nat->bM->Prop)(iu:fj)(iC:aW)(dz:fj)(bK:aW)(i:Nat)(σ:St)(ρ:fj)(s:aW):Prop where
 S:SR Γ ρ σ.hp s
 F:FR Γ l ρ s.heap env σ.loc σ.cX
 Ak:Ext Γ (n6 l) (vV Γ k lk iu env) iu iC ρ s
 du:Ext Γ (n6 l) (λb=>vV Γ k (uh++lk) dz env b∨b∈wr) dz bK ρ s
 st:Ng i s.heap
section
variable {A:bO}{l:List fP}{env:fP}{lk uh:List Nat}{iu dz ρ fK:fj}{iC bK s s':aW}{vs:List V}{I:aV}{fp wr:List aV}{P:Nat->aD->bM->Prop}{tg:aG}{VL:Nat->bM->Prop}{i:Nat}{σ jH:St}
structure au3 (Γ:Cx)(k:Kd)(A:bO)(tg:aG)(l:List fP)(env:fP)(lk uh:List Nat)(dz:fj)(iC bK:aW)(vs:List V)(I:aV)(fp wr:List aV)(P:Nat->aD->bM->Prop)(VL:Nat->bM->Prop):Prop where
 yS:ItC Γ A tg I fp wr vs.length P VL
 val:∀(i:Nat)(v:aD)(x:V)(fK:fj)(h':bM),∀J:P i v h',∀J:vs[i]?=aa x,∀J:I2 dz bK.heap fK,∀J:(∀b o,∀J:bK.heap.get? b=aa o,∀J:¬M3 o,h'.get? b=aa o),VR Γ fK h' x v
 live:∀b∈fp,∃o,bK.heap.get? b=aa o
 off:∀b∈fp,Still Γ k l env (uh++lk) dz b
 new:∀b∈wr,iC.heap.get? b=aB
 free:∀b∈wr,VH Γ dz b
 cX:∀b∈wr,∀y c,∀J:env.cells.lookup y=aa c,b≠c
def VK.moved (T:au3 Γ k A tg l env lk uh dz iC bK vs I fp wr P VL)(L:VK Γ k l env lk uh wr VL iu iC dz bK i σ ρ s)(kp:∀b o,∀J:b∉wr,∀J:s.heap.get? b=aa o,h'.get? b=aa o):
  SR Γ ρ σ.hp {s with heap:=h',toks:=tk}∧FR Γ l ρ h' env σ.loc σ.cX∧Ext Γ (n6 l) (vV Γ k lk iu env) iu iC ρ {s with heap:=h',toks:=tk}:=by
 have OO:Off (·∈wr) s.heap h':=⟨λb o nb e=>kp b o nb e,λb o hb e=>(T.yS.turns i _ L.st b hb).casesOn λo' e' hm=>ak (e'.symm.trans e)▸hm⟩;have free:∀b,∀J:b∈wr,VH Γ ρ b:=λb hb=>⟨λhm=>by
  obtain⟨τ,rfl,hn⟩:=L.du.grow.more;rw[mV,bI]at hm;exact hm.elim (T.free b hb).obj λhm=>(T.live b (T.yS.sub b hb)).elim λo' uf=>(iz ((hn b hm).symm.trans uf)),(T.free b hb).tab,(T.free b hb).base⟩
 exact⟨L.S.off OO free,L.F.off (s':={s with heap:=h',toks:=tk}) OO λb hb=>⟨(T.off b (T.yS.sub b hb)).fs,λz=>(T.off b (T.yS.sub b hb)).wr (.inr (.inl z)),λy c e=>T.cX b hb y c e⟩,L.Ak.axm kp T.new⟩
def VK.item (T:au3 Γ k A tg l env lk uh dz iC bK vs I fp wr P VL)(L:VK Γ k l env lk uh wr VL iu iC dz bK i σ ρ s){tk:Nat}(kp:∀b o,∀J:b∉wr,∀J:s.heap.get? b=aa o,h'.get? b=aa o)(st:VL (i+1) h'):VK Γ k l env lk uh wr VL iu iC dz bK (i+1) σ ρ {s with heap:=h',toks:=tk}:=HY (L.moved T kp) λS F x=>⟨S,F,x,L.du.trans' (Ext.aKi ⟨λb o nb e=>kp b o nb e,λb o hb e=>(T.yS.turns i _ L.st b hb).casesOn λo' e' hm=>ak (e'.symm.trans e)▸hm⟩ (λb o e=>if z:b∈wr then((T.yS.turns (i+1) _ st b z).casesOn λo' e' U=>⟨o',e'⟩) else⟨o,kp b o z e⟩) λb hb=>hb) λb hb=> .inl (.inr hb),st⟩
def VK.turn (T:au3 Γ k A tg l env lk uh dz iC bK vs I fp wr P VL)(L:VK Γ k l env lk uh wr VL iu iC dz bK i σ ρ s)(y:Ext Γ (n6 l) (vV Γ k (uh++lk) ρ env) ρ s fK s')(S:SR Γ fK jH.hp s')(F:FR Γ l fK s'.heap env jH.loc jH.cX):VK Γ k l env lk uh wr VL iu iC dz bK i jH fK s':=
 ⟨S,F,L.Ak.trans' y λb z=>(z.back L.Ak.grow).imp (λz=>z.less λi h=>fZ _ h) id,L.du.trans' y λb z=>(z.back L.du.grow).imp .inl id,T.yS.frame _ _ _ L.st λb hb o e=>y.vf.keep b o e (λz=>(z.back L.du.grow).elim (T.off b hb).wr λz=>(T.live b hb).elim λo' uf=>(iz (z.symm.trans uf))) (T.off b hb).fs⟩
end
abbrev Jd (Γ:Cx)(n:Nat)(lk:List Nat)(mt:j0)(mb:List t6)(v:V)(σ:St):G5 Fl:=Q5 (I6 Γ.G n lk mt v σ) λU σ=>z8 (ik Γ.G n lk) mb σ
def VM {mt mi:j0}(ht:CG Γ n k t mt)(hi:CN Γ n k t it mi)(ih:yx Γ n)(hf:∀env x,pY it env x=pure x):W0 Γ (n+1) k (.For t it b o p) (.rA mt mi (b.map (cS m k)) (o.map (cS m k))):=λenv l A lk σ ρ s O W a S F q jH ev Q E P=>by
 refine wpAny_For ?_ (hf env);refine q7.zQ (hi env l A (σ.fm lk) σ.hp ρ s O a.pred S F) F ev P λq1 cU dz bK itv lU du fU hit axk=> ?_;obtain⟨I,fp,wr,PI,Ng,yS,Rj,val,live,off,new,free,cX⟩:=hit;have T:au3 Γ k A t l env lk q1.2 dz s bK q1.1 I fp wr PI Ng:=⟨yS,val,live,off,new,free,cX⟩;refine codeAny_forLoop_any (λj aU=>∃i ir aY,i≤q1.1.length∧j=q1.1.length-i∧Ly (Jd Γ n (q1.2++lk) mt (b.map (cS m k))) (z8 (ik Γ.G n lk) (o.map (cS m k))) (q1.1.drop i) ir=aa (q,jH)∧VK Γ k l env lk q1.2 wr Ng ρ s dz bK i ir aY aU)
  (λj aU hI=> ?_) q1.1.length ⟨0,{σ with hp:=cU},dz,bR _,rfl,lU,fU,F.ext du,du.toS,.refl,Rj⟩
 obtain⟨i,ir,aY,hle,rfl,lU,L⟩:=hI;by_cases Fz:i<q1.1.length
 ·rw[rN Fz]at lU
  refine yS.next Fz L.st (λv aU z=>z) λv h' tk hv DQ kp=> ?_;have L':=L.item (tk:=tk) T kp DQ;have sim:I8 Γ k l env (q1.2++lk) aY {aU with heap:=h',toks:=tk} (Jd Γ n (q1.2++lk) mt (b.map (cS m k)) q1.1[i] ir) _ (zg Γ):=
   (ht env l A (q1.2++lk) q1.1[i] ir aY _ v O a.pred L'.S L'.F (val i v _ _ _ hv (bU Fz) L'.du.grow L'.du.vf.vG)).DN (λQ E w=>w) λU aUi aqf wI U vU Cw aKm U=>ao3 ih O W a.pred b Cw aKm
  refine sim.step lU (I9.back W a ((P.ext L'.Ak).lock λi h=>fZ q1.2 h)) λfl Je yz kJ u zR rQ Ai VN r aKn=> ?_;have aij:=L'.turn T rQ Ai VN;cases fl with
  | next=>obtain rfl:u= .next:=r;exact⟨q1.1.length-(i+1),by lia,i+1,Je,yz,Fz,rfl,zR,aij⟩
  | cont=>obtain rfl:u= .cont:=r;exact⟨q1.1.length-(i+1),by lia,i+1,Je,yz,Fz,rfl,zR,aij⟩
  | brk=>obtain rfl:u= .brk:=r;exact P.take zR yz kJ .next aij.Ak Ai VN rfl
  | ret w=>obtain⟨w',hw⟩:=r;exact P.take zR yz kJ (.ret w') aij.Ak Ai VN ⟨w',hw⟩
 ·obtain rfl:i=q1.1.length:=jC hle (cV Fz)
  replace lU:=pO▸lU;exact yS.done aU _ _ L.st λh' tk kp=>(HY (L.moved T kp) λS' F' x'=>(ao3 ih O W a.pred o S' F' q jH lU _ _ (I9.back W a (P.ext x'))))
end
section
variable {Γ:Cx}{n m:Nat}{k:Kd}
def Y5 (Γ:Cx)(h:bM)(u:aD):Prop:=∃k,(k=Keeper.frame∨k=Keeper.machine∨k=Keeper.boundFrame)∧lC Γ.M h (keeperOf u) k
def keep_pure (e:keeperOf u=pure .machine):Y5 Γ h u:=⟨.machine,.inr (.inl rfl),nA e⟩
structure aKo (kw:List (Option aJ×Sem aD))(kn:List aJ):Prop where
 names:kw.filterMap (·.1)=kn
 all:kw.all (·.1.isSome)=au
 aB:kw.any (·.1.isNone)=aC
def aG4 (h:keysOf (x::r)=aa p):∃y q,x.arg=aa y∧keysOf r=aa q∧p=(y::q.1,x.value::q.2):=j5 h λy h1 h=>(j5 h λq h2 h=>⟨y,q,h1,h2,(ak h).symm⟩)
def aqm (pos:sZ)(env:fP):∀{ks:List xg}{p:List aJ×List aG},∀J:keysOf ks=aa p,aKo (uR pos (pG ks env)) p.1:=by
 intro zz
 induction zz with
 | nil=>
  intro _ h;obtain rfl:=ak h;exact⟨rfl,rfl,rfl⟩
 | cons hd0 r ih=>
  obtain⟨y,e,z⟩:=hd0;intro p h;obtain⟨y,q,rfl,h2,rfl⟩:=aG4 h;obtain⟨i1,i2,i3⟩:=ih h2;exact⟨congrArg (y::·) i1,i2,i3⟩
section
variable {env:fP}{l:List fP}{A:bO}{φ:Fm}{ρ:fj}{H:Hp}{s:aW}
def aKp (ih:U0 Γ n m k)(O:v8 Γ k env)(a:jy A l n)(pos:sZ):∀{ks:List xg}{p:List aJ×List aG}{H:Hp}{ρ:fj}{s:aW},∀J:keysOf ks=aa p,∀J:SR Γ ρ H s,∀J:FR Γ l ρ s.heap env φ.loc φ.cX,iY Γ l φ.lk A ρ s (O6 (dD Γ.G n φ) (p.2.map (cE m k)) H) (evalAll ((uR pos (pG ks env)).map (·.2))) (a7n Γ):=by
 intro zz
 induction zz with
 | nil=>
  intro _ _ _ _ hk S F;obtain rfl:=ak hk;exact .ok λQ E P=>wpAny_evalAll_nil (P.ok S rfl)
 | cons hd0 r ihr=>
  obtain⟨y,e,z⟩:=hd0;intro p _ _ _ hk S F;obtain⟨y,q,rfl,h2,rfl⟩:=aG4 hk;exact(ih e env l A φ _ _ _ O a S F).jb (λQ E w=>(wpAny_evalAll_cons (aj (bH w (λu s' z=>aj (dM (aA z))) λU U z=>z)):aP _ _ (evalAll ((do let v←eval e env;nJ pos;pure v)::(uR pos (pG r env)).map (·.2))) Q E _)) λv cU aY aU u cQ cg hv=>
   (ihr h2 cg (F.ext cQ)).jb (λQ E w=>w) λvs oE dz bK us du fU iB=> .ok λQ E P=>P.ok fU (Cp.mk u us (hv.ext du) iB)
def aO8 (h1:args.any (·.1)=aC)(h2:keywords.all (·.1.isSome)=au)
  (h:aP M A (spliced args) (λvs aU=>aP M A (evalAll (keywords.map (·.2))) (λks bK=>Q ⟨vs,(keywords.filterMap (·.1)).zip ks⟩ bK) E aU) E s):aP M A (evalArgs f au args keywords) Q E s:=by
 cases args with
 | nil=>exact evalArgs_kw_nil h2 λΓ p hΓ=>h Γ p hΓ Γ p hΓ
 | cons x rest=>
  obtain⟨b,x⟩:=x;rw[Bv,dI]at h1;obtain rfl:b=aC:=h1.1;exact evalArgs_kw h2 h
def VP (h:(S5 e).isNone=au)(env:fP)(rest:List aG):pQ (e::rest) env=(aC,eval e env)::pQ rest env:=by
 cases e with
 | Starred a p=>exact qI h
 | _=>rfl
def au4 (env:fP)(pos:sZ):∀{es:List aG},∀J:W5 es=au,(Ay pos (pQ es env)).any (·.1)=aC:=by
 intro zz
 induction zz with
 | nil=>
  intro _;exact rfl
 | cons e es ih=>
  intro h;rw[VP (d8 h)];simpa [Ay] using ih (m8 h)
def Jf (ih:U0 Γ n m k)(O:v8 Γ k env)(a:jy A l n){pos:sZ}{α β:Type}{R:fj->bM->α->β->Prop}{args:List aG}{ks:List xg}{p:List aJ×List aG}{f:List V->List V->Hp->Out α}{fv:aD}{first:List aD}{K:aD->aW->∀J:(PQ β),∀J:(PQ aD),Prop}
  (hn:W5 args=au) (hk:keysOf ks=aa p) (S:SR Γ ρ H s) (F:FR Γ l ρ s.heap env φ.loc φ.cX)
  (kk:∀vs kvs cU aY aU us mG,∀J:Ext Γ (n6 l) (Wr Γ φ.lk ρ) ρ s aY aU,∀J:SR Γ aY cU aU,∀J:ahd Γ args.length aY aU.heap vs us,∀J:gD Γ aY aU.heap kvs mG,q7 Γ l φ.lk aY aU (f vs kvs cU) (λQ E=>Y5 Γ aU.heap fv∧aP Γ.M A (call fv (first++us) (p.1.zip mG)) (λv s'=>K v s' Q E) E aU) R):
  q7 Γ l φ.lk ρ s (jf (O6 (dD Γ.G n φ) (args.map (cE m k)) H) λvs H=>jf (O6 (dD Γ.G n φ) (p.2.map (cE m k)) H) λks H=>f vs ks H)
   (λQ E=>aP Γ.M A (zK pos fv first (Ay pos (pQ args env)) (uR pos (pG ks env))) (λv s'=>K v s' Q E) E s) R:=by
 obtain⟨k1,k2,k3⟩:=aqm pos env hk;refine(awz ih O a pos args S F).jb
  (λQ E w=>pH (P:=λh=>Y5 Γ h fv) (by refine aO (au4 env pos hn) (aO k3 ?_);rfl) (λh p=>p) (aO8 (au4 env pos hn) k2 (aO k1 w))) λvs cU aY aU us cQ cg hv=> ?_
 exact(aKp ih O a pos hk cg (F.ext cQ)).jb (λQ E w=>w) λkvs oE dz bK mG du fU hkv=>kk vs kvs oE dz bK us mG (cQ.trans du) fU ⟨hv.1.ext du,hv.2⟩ hkv
end
def axu (Γ:Cx)(n:Nat):Prop:=
 ∀(env:fP)(l:List fP)(A:bO)(φ:Fm)(fv:V)(vs ks:List V)(kn:List aJ)(H:Hp)(ρ:fj)(s:aW)(u:aD)(us mG:List aD),∀J:jy A l (n+1),∀J:SR Γ ρ H s,∀J:FR Γ l ρ s.heap env φ.loc φ.cX,∀J:VR Γ ρ s.heap fv u,∀J:gD Γ ρ s.heap vs us,∀J:gD Γ ρ s.heap ks mG,q7 Γ l φ.lk ρ s (Ih Γ.G (o8 Γ.G n) φ fv vs kn ks H) (λQ E=>Y5 Γ s.heap u∧aP Γ.M A (call u us (kn.zip mG)) Q E s) (u6 Γ)
def VV (hV:axu Γ n)(ih:U0 Γ n m k)(hf:v9 Γ n k f mf)(hn:W5 args=au)(hk:keysOf ks=aa q)
  (hsh:∀env,eval (.Call f args ks p) env=(do zK p (←eval f env) [] (Ay p (pQ args env)) (uR p (pG ks env)))):v9 Γ (n+1) k (.Call f args ks p) (.call mf (args.map (cE m k)) q.1 (q.2.map (cE m k))):=λenv l A φ H ρ s O a S F=>
 (hf env l A φ H ρ s O a.pred S F).jb (λQ E w=>pM (hsh env) (aj w)) λv cU aY aU u cQ cg hv=>
  Jf ih O a.pred hn hk cg (F.ext cQ) λvs kvs oE dz bK us mG du fU iB hkv=>hV env l A φ v vs kvs q.1 oE dz bK u us mG a fU (F.ext (cQ.trans du)) (hv.ext du) iB.1 hkv
end
section
variable {Γ:Cx}{n m:Nat}{k:Kd}
inductive ak2:List Int->List aD->Prop
 | nil:ak2 [] []
 | cons (i:Int) (t:RG) (ns:List Int) (us:List aD) (h:ak2 ns us):ak2 (i::ns) (.int i t::us)
def aM3:∀{vs:List V}{ns:List Int}{us:List aD},∀J:BP vs=aa ns,∀J:gD Γ ρ h vs us,ak2 ns us:=by
 intro zz
 induction zz with
 | nil=>
  intro _ _ e x;obtain rfl:=ak e;obtain rfl:=x.nil;exact .nil
 | cons v vs ih=>
  rintro ns _ e ⟨u,us,hv,hs⟩;refine j5 e λi e1 e=> ?_;refine j5 e λWa e2 e=> ?_;obtain rfl:=ak e;obtain⟨t⟩:=hv.intOf e1;exact .cons i t Wa us (ih e2 hs)
def near (i:Int):Prop:= -2305843009213693952≤i∧i<2305843009213693952
def Jg (h:small (4*i)=au):near i:=⟨Int.le_of_mul_le_mul_left ((ab3 h).1) (by decide),Int.lt_of_mul_lt_mul_left ((ab3 h).2) (by decide)⟩
def fits (h1: -9223372036854775808≤i)(h2:i<9223372036854775808):jX i=au:=by delta jX;simp only[fX,decide_eq_true_eq,decide_eq_true_eq];exact⟨h1,h2⟩
def Nh (h:near i):jX i=au:=fits (dF (by decide) h.1) (Int.lt_trans h.2 (by decide))
def a77 (ha:near a)(hb:near b):jX (b-a).toNat=au:=
 fits (dF (by decide) (cA _)) (je.mpr ((Int.toNat_lt' (by decide)).mpr (rE (Int.add_lt_add_of_lt_of_le hb.2 (Int.neg_le_neg ha.1)) (by decide))))
open Builtin.Range in
def aqn {a b:Int}(ha:near a)(hb:near b):lu a b 1=au∧rangeSize a b 1=(b-a).toNat:=by
 have e:rangeSize a b 1=(b-a).toNat:=by
  delta rangeSize;rw[bN (by decide)];by_cases h:a<b
  ·rw[bN h,HH,adz];exact(qK (QT (xQ h))).symm
  ·rw[bk h];exact(congrArg Nat.cast (RP (QV (ig.mp h)))).symm
 refine⟨?_,e⟩;delta lu;refine aO e (aO (bN (by decide)) ?_);simp only[fX,lr];exact⟨⟨⟨⟨Nh ha,Nh hb⟩,by decide⟩,a77 ha hb⟩,.inr (Nh (by simp only[Int.sub_self,Int.add_zero];exact hb))⟩
open Builtin.Range in
def aik (ha:near a)(hb:near b):lu a b (-1)=au∧rangeSize a b (-1)=(a-b).toNat:=by
 have e:rangeSize a b (-1)=(a-b).toNat:=by
  delta rangeSize;rw[bk (by decide)];by_cases h:a>b
  ·rw[bN h,show(-(-1:Int))=1 by rfl,HH,adz];exact(qK (QT (xQ h))).symm
  ·rw[bk h];exact(congrArg Nat.cast (RP (QV (ig.mp h)))).symm
 refine⟨?_,e⟩;delta lu;refine aO e (aO (bk (by decide)) ?_);simp only[fX,lr];exact⟨⟨⟨⟨Nh ha,Nh hb⟩,by decide⟩,a77 hb ha⟩,.inr (Nh (by simp only[show(-1+1:Int)=0 from rfl,Int.add_zero];exact hb))⟩
section
variable {tg:aG}{l:List fP}{env:fP}{lk:List Nat}{ρ:fj}{H:Hp}{s:aW}{loc cX:j7}{A:bO}{Q:PQ aD}{E:PQ aD}{h₀:bM}
def FQ (hh:A.handled=aB)(S:SR Γ ρ H s)(F:FR Γ l ρ s.heap env loc cX)(lv:R5 h₀ s.heap){N tk:Nat}(hsm:lu a b c=au)(hN:Builtin.Range.rangeSize a b c=N)(hv:vs=(dm N).map λ(i:Nat)=>V.int (a+i*c))
  (P:Q7 Γ l lk ρ s (.ok (vs, [])) H (Aj Γ k A tg l env lk h₀) Q E):aP Γ.M A (vy (.ref s.heap.objs.size)) Q E {s with heap:=s.heap.push {cls:= .type "range",data:= .fields #[.int a t,.int b u,.int c v]},toks:=tk}:=by
 have kp:=N6 s.heap {cls:= .type "range",data:= .fields #[.int a t,.int b u,.int c v]};have du:Ext Γ (n6 l) (Wr Γ lk ρ) ρ s ρ {s with heap:=s.heap.push {cls:= .type "range",data:= .fields #[.int a t,.int b u,.int c v]},toks:=tk}:=Ext.keeps kp;refine wpAny_pyIter_range (bx _ rfl) hsm ?_;refine aO hN ?_;refine an1 (S.keeps kp) (F.ext du) (lv.trans du.live) ((wW.range hh _ a c N).len (by simp only[hv,aF,lH])) ?_ (λb hb=> .inl (aH.mp hb)) (λi w x hw hx=> ?_) rfl (P.ext du)
 ·show(Heap.push _ _).get? _=aa _
  rw[bx _ rfl];simp
 ·obtain⟨tk,rfl⟩:=hw
  rw[hv,gF]at hx;obtain⟨j,hj,rfl⟩:=aj0 hx;obtain⟨h1,h2⟩:=aL.mp hj;rw[List.getElem_range]at h2;subst h2;exact .mk tk
def ail (hh:A.handled=aB)(S:SR Γ ρ H s)(F:FR Γ l ρ s.heap env loc cX)(lv:R5 h₀ s.heap)(hu:ak2 ns us)(hs:(ns.all λi=>small (4*i))=au):
  q7 Γ l lk ρ s (opt (a6s ns) λl=>ok (l, []) H) (λQ E=>aP Γ.M A (call (.type "range") us []) (λx aU=>aP Γ.M A (vy x) Q E aU) E s) (Aj Γ k A tg l env lk h₀):= .opt λvs e=> .ok λQ E P=>by
 cases hu with
 | nil=>exact t7 e
 | cons i t ns us h=>
  have n1:=Jg (d8 hs);cases h with
  | nil=>
   obtain⟨o1,o2⟩:=aqn (a:=0) ⟨by decide,by decide⟩ n1;exact call_range_1 (FQ hh S F lv o1 o2 (by refine wj (ak e) ?_;delta upV;simp) P)
  | cons j t' ns us h=>
   have n2:=Jg (d8 (m8 hs));cases h with
   | nil=>
    obtain⟨o1,o2⟩:=aqn n1 n2;exact call_range_2 (FQ hh S F lv o1 o2 (by refine wj (ak e) ?_;delta upV;simp) P)
   | cons c t'' ns us h=>
    cases h with
    | nil=>
     refine I3 e λhc e=> ?_;obtain rfl:c= -1:=gH hc;obtain⟨o1,o2⟩:=aik n1 n2;exact call_range_3 (by decide) (FQ hh S F lv o1 o2 (by refine wj (ak e) ?_;exact qH λi U=>congrArg V.int (by lia)) P) (.inl (by delta Builtin.divisionGoesByPylong;rw[uC];exact .inl (by decide)))
    | cons d t ns us h=>exact t7 e
end
def Wb (G:Z6 Γ)(ih:U0 Γ n m k)(hk:k ("range":aJ)=aa .globalImplicit)(hn:W5 args=au):CN Γ n k tg (.Call (.Name ("range":aJ) np) args [] p) (.Bh (args.map (cE m k))):=λenv l A φ H ρ s O a S F=>by refine q7.of (Jf (p:=([], [])) ih O a hn rfl S F λvs kvs cU aY aU us mG cQ cg iB hkv=> .opt λns e=> .fu λhs=>(ail a.hand cg (F.ext cQ) cQ.live (aM3 e iB.1) hs).of λQ E w=>⟨keep_pure rfl,w⟩) λQ E w=>pZ (eX (ab5 O hk G.Bh S w) (by decide))
end
section
variable {Γ:Cx}{n m:Nat}{k:Kd}
section
variable {α:Type}{r r':List (aJ×α)}{x y:aJ}{v:α}
def G9:((x,v)::r).lookup x=aa v:=by simp only[nY,beq_self_eq_true]
def w5 (h:x≠y):((y,v)::r).lookup x=r.lookup x:=by simp only[nY,J0 h]
def Ni:∀{r:List (aJ×α)},∀J:x∉r.map (·.1),r.lookup x=aB:=by
 intro zz
 induction zz with
 | nil=>
  intro _;exact rfl
 | cons hd0 r ih=>
  obtain⟨y,v⟩:=hd0;intro h;exact(w5 λq=>h (bc.mpr (.inl q))).trans (ih λq=>h (.tail _ q))
def aE0:∀{r:List (aJ×α)}{v:α},∀J:r.lookup x=aa v,x∈r.map (·.1):=by
 intro zz
 induction zz with
 | nil=>
  intro _ e;exact iz e
 | cons hd0 r ih=>
  obtain⟨y,w⟩:=hd0;intro v e;exact if q:x=y then bc.mpr (.inl q) else .tail _ (ih ((w5 q).symm.trans e))
def aM4:∀{r:List (aJ×α)},∀J:r.lookup x=aB,(r++r').lookup x=r'.lookup x:=by
 intro zz
 induction zz with
 | nil=>
  intro _;exact rfl
 | cons hd0 r ih=>
  obtain⟨y,v⟩:=hd0;intro h;exact if q:x=y then nxS ((q▸G9:((y,v)::r).lookup x=aa v).symm.trans h) else(w5 q).trans (ih ((w5 q).symm.trans h))
def aY1:∀{r:List (aJ×α)},∀J:r.lookup x=aa v,(r++r').lookup x=aa v:=by
 intro zz
 induction zz with
 | nil=>
  intro h;exact iz h
 | cons hd0 r ih=>
  obtain⟨y,w⟩:=hd0;intro h;exact if q:x=y then(q▸G9:((y,w)::(r++r')).lookup x=aa w).trans ((q▸G9:((y,w)::r).lookup x=aa w).symm.trans h) else(w5 q).trans (ih ((w5 q).symm.trans h))
def aR0:∀{r:List (aJ×α)},∀J:(r.map (·.1)).Nodup,∀x,r.reverse.lookup x=r.lookup x:=by
 intro zz
 induction zz with
 | nil=>
  intro _ _;exact rfl
 | cons hd0 r ih=>
  obtain⟨y,v⟩:=hd0;intro nd x;refine aO xu ?_;by_cases q:x=y
  ·subst q
   exact(aM4 ((ih (gw.mp nd).2 x).trans (Ni (gw.mp nd).1))).trans (G9.trans G9.symm)
  ·refine aO (w5 q) (wj (ih (gw.mp nd).2 x) ?_)
   cases h:r.reverse.lookup x with
   | none=>exact(aM4 h).trans (w5 q)
   | some w=>exact aY1 h
def X6 (f:aJ->Bool):∀{b:List (aJ×α)}{x:aJ}{v:α},∀J:(b.filter λp=>f p.1).lookup x=aa v,f x=au∧b.lookup x=aa v:=by
 intro zz
 induction zz with
 | nil=>
  intro _ _ e;exact iz e
 | cons hd0 r ih=>
  obtain⟨y,w⟩:=hd0;intro x v e;by_cases h:f y=au
  ·rw[show((y,w)::r).filter (λp=>f p.1)=_ from bD h]at e
   by_cases q:x=y
   ·subst q;exact⟨h,G9.trans (G9.symm.trans e)⟩
   ·rw[w5 q]at e⊢;exact ih e
  ·rw[show((y,w)::r).filter (λp=>f p.1)=_ from bw h]at e
   have i:=ih e;exact⟨i.1,(w5 λq=>h ((congrArg (λz=>f z=au) q).mp i.1)).trans i.2⟩
end
inductive aqo (x:aJ)(P:aD->Prop)(Q:List (aJ×aD)->Prop):List (aJ×aD)->Prop
 | mk (u:aD) (bs:List (aJ×aD)) (hu:P u) (hs:Q bs):aqo x P Q ((x,u)::bs)
def BR (Γ:Cx)(ρ:fj)(h:bM):j7->List (aJ×aD)->Prop
 | []=>(·= [])
 | (x,v)::r=>aqo x (VR Γ ρ h v) (BR Γ ρ h r)
section
variable {ρ fK:fj}{h h' jQ:bM}
theorem BR.mono (g:I2 ρ jQ fK)(im:∀b o,∀J:h.get? b=aa o,∀J:¬M3 o,h'.get? b=aa o):∀{b:j7}{bs:List (aJ×aD)},∀J:BR Γ ρ h b bs,BR Γ fK h' b bs:=by
 intro zz
 induction zz with
 | nil=>
  intro _ x;exact x
 | cons hd0 r ih=>
  obtain⟨y,v⟩:=hd0;rintro _ ⟨u,bs,hv,hs⟩;exact .mk u bs (hv.mono g im) (ih hs)
def BR.names:∀{b:j7}{bs:List (aJ×aD)},∀J:BR Γ ρ h b bs,bs.map (·.1)=b.map (·.1):=by
 intro zz
 induction zz with
 | nil=>
  intro _ x;exact congrArg (List.map (·.1)) x
 | cons hd0 r ih=>
  obtain⟨y,v⟩:=hd0;rintro _ ⟨u,bs,hv,hs⟩;exact congrArg (y::·) (ih hs)
inductive az8 (Γ:Cx)(ρ:fj)(h:bM)(v:V)(bs:List (aJ×aD))(x:aJ):Prop
 | mk (u:aD) (hu:bs.lookup x=aa u) (hv:VR Γ ρ h v u):az8 Γ ρ h v bs x
def BR.look:∀{b:j7}{bs:List (aJ×aD)},∀J:BR Γ ρ h b bs,∀{x:aJ}{v:V},∀J:b.lookup x=aa v,az8 Γ ρ h v bs x:=by
 intro zz
 induction zz with
 | nil=>
  intro _ _ x v e;exact iz e
 | cons hd0 r ih=>
  obtain⟨y,w⟩:=hd0;rintro _ ⟨u,bs,hv,hs⟩ x v e;by_cases q:x=y
  ·subst q
   exact⟨u,G9,ak (G9.symm.trans e)▸hv⟩
  ·obtain⟨u',hu,hr⟩:=ih hs ((w5 q).symm.trans e)
   exact⟨u',(w5 q).trans hu,hr⟩
def BR.append:∀{b c:j7}{bs cs:List (aJ×aD)},∀J:BR Γ ρ h b bs,∀J:BR Γ ρ h c cs,BR Γ ρ h (b++c) (bs++cs):=by
 intro zz
 induction zz with
 | nil=>
  intro _ _ _ x y;refine aO x ?_;exact y
 | cons hd0 r ih=>
  obtain⟨z,v⟩:=hd0;rintro _ _ _ ⟨u,bs,hv,hs⟩ y;exact .mk u _ hv (ih hs y)
theorem BR.zip:∀{xs:List aJ}{vs:List V}{us:List aD},∀J:gD Γ ρ h vs us,BR Γ ρ h (xs.zip vs) (xs.zip us)
 | [],_,_,_=>rfl
 | x::xs, [],us,q=>by refine aO (gD.nil q) ?_;rfl
 | x::xs,v::vs,_,.mk u us hv hs=> .mk u _ hv (BR.zip hs)
end
inductive Jh (Γ:Cx)(f:Fn)(fd:jA):Prop
 | own (hc:fd.closure= []) (nf:∀x,kdOf fd.scope x≠aa .free):Jh Γ f fd
 | cls (hc:f.cells= []) (nc:∀x∈fd.scope.names,x.2≠ .cell) (fr:∀x,∀J:kdOf fd.scope x=aa .free,x=("__class__":aJ)) (c:aV) (o:ou) (v:Option aD) (wJ:fd.closure= [(("__class__":aJ),c)]) (hco:Γ.g0.get? c=aa o) (Rh:o.data= .cell v) (hct:c∉Γ.tabs):Jh Γ f fd
abbrev Fn.names (f:Fn):List aJ:=f.params++f.eN++f.kwarg.toList
def ar8 (f:Fn)(us:List aD)(r:List (aJ×aD))(s:aW)(Q:PQ (List (aJ×aD))):Prop:=match f.kwarg with
 | none=>Q (f.params.zip us++r) s
 | some kx=>Q (f.params.zip us++r++ [(kx,.ref s.heap.objs.size)]) {s with heap:=s.heap.push gG}
structure FrmOk (Γ:Cx)(f:Fn)(fd:jA):Prop where
 kind:fd.scope.kind= .function
 glob:fd.globals=bY
 blt:fd.builtins=dJ
 kinds:∀x∈f.names,kdOf fd.scope x=aa (if f.cells.contains x then .cell else .local)
 mode:Jh Γ f fd
 nodup:f.names.Nodup
 nos:("errors":aJ)∉f.names
structure FnAt (Γ:Cx)(a:aV)(f:Fn)(o:ou)(fd:jA)(body:List pK)(dU:List (aJ×aD)):Prop extends FrmOk Γ f fd where
 obj:Γ.g0.get? a=aa o
 data:o.data= .func fd
 co:fd.scope.isCoroutine=aC
 gen:fd.scope.isGenerator=aC
 stmts:fd.body= .stmts body
 code:Γ.g0.CodeRec fd.code fd.qualname
 noe:kdOf fd.scope ("errors":aJ)≠aa .local
 Rf:∀x v,∀J:f.dflt.lookup x=aa v,∀ρ h,az8 Γ ρ h v dU x
 bind:∀(np:Nat)(kn:List aJ),∀J:(np,kn)∈f.shapes,∀us mG:List aD,∀J:us.length=np,∀J:mG.length=kn.length,∀r',∀J:asks (given kn mG dU) (f.params.drop np++f.eN)=aa r',∀(M:Br)(A:bO)(Q:PQ (List (aJ×aD)))(E:PQ aD)(s:aW),∀J:(∀b o,∀J:Γ.g0.get? b=aa o,s.heap.get? b=aa o),∀J:ar8 f us r' s Q,aP M A (wV fd ⟨us,kn.zip mG⟩) Q E s
 tr:∃kf,f.body=TP kf (kdOf fd.scope) body
theorem aR1:∀{kn:List aJ}{ks:List V}{mG:List aD},∀J:mG.length=ks.length,∀{x:aJ},∀J:(kn.zip ks).lookup x=aB,(kn.zip mG).lookup x=aB
 | [],_,_,_,_,_=>rfl
 | a::kn,_, [],_,_,_=>by refine aO RQ ?_;rfl
 | a::kn, [],_::_,e,x,_=>nxY e
 | a::kn,v::ks,u::us,e,x,h=>by
  by_cases q:x=a
  ·subst q;exact nxS (G9.symm.trans h)
  ·exact(w5 q).trans (aR1 (nQ e) ((w5 q).symm.trans h))
def Nj (hk:gD Γ ρ h ks mG)(hd:∀x v,∀J:df.lookup x=aa v,az8 Γ ρ h v dU x)(e:given kn ks df x=aa v):∃u,given kn mG dU x=aa u∧VR Γ ρ h v u:=by
 unfold given at e⊢;cases q:(kn.zip ks).lookup x with
 | none=>
  replace e:=q▸e;obtain⟨u,hu,hr⟩:=hd x v e;exact⟨u,by rw[aR1 hk.length q];exact hu,hr⟩
 | some w=>
  rw[q]at e;obtain⟨u,hu,hr⟩:=(BR.zip hk).look q;exact⟨u,by rw[hu];rfl,ak e▸hr⟩
inductive a79 (Γ:Cx)(ρ:fj)(h:bM)(g:aJ->Option aD)(xs:List aJ)(r:j7):Prop
 | mk (r':List (aJ×aD)) (e:asks g xs=aa r') (b:BR Γ ρ h r r') (nm:r.map (·.1)=xs):a79 Γ ρ h g xs r
def Wc {f:aJ->Option V}{g:aJ->Option aD}(hg:∀x v,∀J:f x=aa v,∃u,g x=aa u∧VR Γ ρ h v u):∀{xs:List aJ}{r:j7},∀J:asks f xs=aa r,a79 Γ ρ h g xs r:=by
 intro zz
 induction zz with
 | nil=>
  intro r e;exact ak e▸⟨[],rfl,rfl,rfl⟩
 | cons x xs ih=>
  intro r e;refine j5 e λv hv e=> ?_;refine j5 e λq hq e=> ?_;refine oG (hg x v hv) λu hu hr=> ?_;obtain⟨r',h1,h2,h3⟩:=ih hq;obtain rfl:=ak e;exact⟨(x,u)::r',by rw[asks,hu,opt,h1];rfl,.mk u r' hr h2,congrArg (x::·) h3⟩
def aO9:∀(names:List (aJ×jR))(n:Nat)(acc:List (aJ×aV)),∀J:(acc.lookup x).isSome,((dX n names acc).lookup x).isSome:=by
 intro zz
 induction zz with
 | nil=>
  intro _ _ h;exact h
 | cons hd0 r ih=>
  obtain⟨y,kd⟩:=hd0;intro n acc h;unfold dX
  split
  ·refine ih _ _ ?_
   by_cases q:x=y
   ·subst q;refine aO G9 ?_;rfl
   ·refine aO (w5 q) ?_;exact h
  ·exact ih _ _ h
def ad9:∀(names:List (aJ×jR))(n:Nat)(acc:List (aJ×aV)),∀J:names.lookup x=aa .cell,((dX n names acc).lookup x).isSome:=by
 intro zz
 induction zz with
 | nil=>
  intro _ _ h;exact iz h
 | cons hd0 r ih=>
  obtain⟨y,kd⟩:=hd0;intro n acc h;unfold dX;by_cases q:x=y
  ·subst q
   obtain rfl:=ak (G9.symm.trans h);exact aO (bN (beq_self_eq_true _)) (aO9 r _ _ (by refine aO G9 ?_;rfl))
  ·rw[w5 q]at h
   split
   ·exact ih _ _ h
   ·exact ih _ _ h
def We {kindOf:aJ->Option jR}:∀{bs:List (aJ×aD)}{m:aJ->Option aD}{x:aJ}{u:aD},∀J:(bs.map (·.1)).Nodup,∀J:kindOf x=aa .local,∀J:bs.lookup x=aa u,bindL kindOf bs m x=aa u:=by
 intro zz
 induction zz with
 | nil=>
  intro _ _ _ _ _ e;exact iz e
 | cons hd0 r ih=>
  obtain⟨y,v⟩:=hd0;intro m x u nd hk e;by_cases q:x=y
  ·subst q
   have:∀{bs:List (aJ×aD)}{m:aJ->Option aD},∀J:x∉bs.map (·.1),bindL kindOf bs m x=m x:=λ{bs}=>by
    induction bs with
    | nil=>exact λU=>rfl
    | cons p r ih=>
     intro m h;simp only[bindL,ih λq=>h (.tail _ q)]
     split
     ·exact bk λq=>h (bc.mpr (.inl q))
     ·rfl
   rw[bindL,this (gw.mp nd).1,bN hk,bN rfl];exact G9.symm.trans e
  ·simp only[bindL]
   exact ih (gw.mp nd).2 hk ((w5 q).symm.trans e)
def Wf {kindOf:aJ->Option jR}:∀{bs:List (aJ×aD)}{m:aJ->Option aD}{x:aJ}{u:aD},∀J:(bs.map (·.1)).Nodup,∀J:kindOf x≠aa .local,∀J:bs.lookup x=aa u,bindC kindOf bs m x=aa u:=by
 intro zz
 induction zz with
 | nil=>
  intro _ _ _ _ _ e;exact iz e
 | cons hd0 r ih=>
  obtain⟨y,v⟩:=hd0;intro m x u nd hk e;by_cases q:x=y
  ·subst q
   have:∀{bs:List (aJ×aD)}{m:aJ->Option aD},∀J:x∉bs.map (·.1),bindC kindOf bs m x=m x:=λ{bs}=>by
    induction bs with
    | nil=>exact λU=>rfl
    | cons p r ih=>
     intro m h;simp only[bindC,ih λq=>h (.tail _ q)]
     split
     ·rfl
     ·exact bk λq=>h (bc.mpr (.inl q))
   rw[bindC,this (gw.mp nd).1,bk hk,bN rfl];exact G9.symm.trans e
  ·simp only[bindC]
   exact ih (gw.mp nd).2 hk ((w5 q).symm.trans e)
end
section
variable {Γ:Cx}{n m:Nat}{k:Kd}
structure AtF (a:aV)(fd:jA)(env:fP):Prop where
 func:env.func=aa a
 code:env.code=fd.code
 cls:∀c,∀J:fd.closure= [(("__class__":aJ),c)],env.cells.lookup ("__class__":aJ)=aa c
abbrev Wg (fd:jA)(h:bM)(env:fP):Prop:=∀c,∀J:(c=env.locals∨∃x,kdOf fd.scope x=aa .cell∧env.cells.lookup x=aa c),h.get? c=aB
structure Made (Γ:Cx)(a:aV)(f:Fn)(fd:jA)(l:List fP)(ρ:fj)(H:Hp)(s:aW)(b:j7)(env:fP)(bK:aW):Prop where
 O:v8 Γ (kdOf fd.scope) env
 W:Own (kdOf fd.scope) env (env::l)
 T:AtF a fd env
 S:SR Γ ρ H bK
 F:FR Γ (env::l) ρ bK.heap env (b.filter λp=> !f.cells.contains p.1) (b.filter λp=>f.cells.contains p.1)
 x:∀W:aV->Prop,Ext Γ (n6 l) W ρ s ρ bK
 new:Wg fd s.heap env
structure a8a (Γ:Cx)(ρ:fj)(h:bM)(L:aV)(x:aJ)(c:aV):Prop where
 is:TY h c
 obj:c∉ρ.flatten
 tab:c∉Γ.tabs
 base:∀J:x≠("__class__":aJ),Γ.g0.get? c=aB
 ne:c≠L
inductive aqq (h:bM)(cs:List (aJ×aV))(x:aJ)(u:aD):Prop
 | mk (c:aV) (hc:cs.lookup x=aa c) (ho:h.IsCell c (aa u)):aqq h cs x u
section
variable {a:aV}{f:Fn}{fd:jA}{A:bO}{l:List fP}{ρ:fj}{H:Hp}{s bK:aW}{Q:PQ fP}{E:PQ aD}{b:j7}{bs:List (aJ×aD)}{env:fP}
def FrmOk.loc (F:FrmOk Γ f fd)(hb:bs.map (·.1)=f.names)(h:f.cells.contains x=aC)(e:bs.lookup x=aa u):kdOf fd.scope x=aa .local:=by refine aO (F.kinds x (hb▸aE0 e)) (aO h ?_);rfl
def FrmOk.cX (F:FrmOk Γ f fd)(hb:bs.map (·.1)=f.names)(h:f.cells.contains x=au)(e:bs.lookup x=aa u):kdOf fd.scope x=aa .cell:=by refine aO (F.kinds x (hb▸aE0 e)) (aO h ?_);rfl
def aM5 (F:FrmOk Γ f fd)(S:SR Γ ρ H s)(K:H8 Γ l ρ s.heap)(B:BR Γ ρ s.heap b bs)(hb:b.map (·.1)=f.names)(kp:∀b o,∀J:s.heap.get? b=aa o,bK.heap.get? b=aa o)(hk:env.scope.kind= .function)(hf:env.frame=aa env.locals)(fL:s.heap.get? env.locals=aB)
  {m:aJ->Option aD} (ns:bK.heap.Ns env.locals m) (hl:∀x u,∀J:f.cells.contains x=aC,∀J:bs.lookup x=aa u,m x=aa u) (hc:∀x u,∀J:f.cells.contains x=au,∀J:bs.lookup x=aa u,aqq bK.heap env.cells x u)
  (cf:∀x c,∀J:env.cells.lookup x=aa c,a8a Γ ρ bK.heap env.locals x c) (ap:∀x y c,∀J:env.cells.lookup x=aa c,∀J:env.cells.lookup y=aa c,x=y):
  FR Γ (env::l) ρ bK.heap env (b.filter λp=> !f.cells.contains p.1) (b.filter λp=>f.cells.contains p.1):=by
 have B':=B.mono (I2.refl ρ s.heap) λb o e U=>kp b o e;have fr:=I7 S fL;refine⟨λe he=> ?_,⟨m,ns,λy v e=> ?_⟩,λy v e=> ?_,fr.obj,λy c e=>(cf y c e).obj,fr.tab,λy c e=>(cf y c e).tab,fr.base,λy c e=>(cf y c e).base,λy c e=>(cf y c e).is,ap,λy c e=>(cf y c e).ne,λh=> ?_⟩
 ·rcases bc.mp he with rfl | he
  ·obtain⟨o,es,n,ho,hd,_⟩:=ns
   exact⟨_,o,es,n,by refine aO hk ?_;decide,hf,ho,hd,fr.obj,fr.tab,fr.base⟩
  ·obtain⟨L,o,es,n,h1,h2,h3,h4,h5,h6,h7⟩:=K e he
   exact⟨L,o,es,n,h1,h2,kp L o h3,h4,h5,h6,h7⟩
 ·have q:=X6 (λz=> !f.cells.contains z) e
  obtain⟨u,hu,hv⟩:=B'.look q.2;exact⟨u,hl y u (xF _▸q.1) hu,hv⟩
 ·have q:=X6 (λz=>f.cells.contains z) e
  obtain⟨u,hu,hv⟩:=B'.look q.2;obtain⟨c,h1,h2⟩:=hc y u q.1 hu;exact⟨c,u,h1,h2,hv⟩
 ·obtain⟨v,e⟩:=bT.mp h
  exact absurd (hb▸aE0 (X6 (λz=> !f.cells.contains z) e).2) F.nos
abbrev CP (Γ:Cx)(a:aV)(fd:jA)(s:aW):Prop:=∀J:kdOf fd.scope ("errors":aJ)=aa .local,fd.closure= []∧Γ.sE (callEnvC fd s.heap.objs.size a)
def Nk (F:FrmOk Γ f fd)(S:SR Γ ρ H s)(K:H8 Γ l ρ s.heap)(B:BR Γ ρ s.heap b bs)(hb:b.map (·.1)=f.names)(lw:CP Γ a fd s)(wJ:fd.closure= [])(hnf:∀x,kdOf fd.scope x≠aa .free)
  (hQ:∀env bK,∀J:Made Γ a f fd l ρ H s b env bK,Q env bK):aP M A (nC fd.scope fd.globals fd.closure bs (fd.qualname++".<locals>.") (aa a) fd.code aB fd.builtins) Q E s:=by
 have hbs:=B.names.trans hb;refine aO wJ ?_;refine wpAny_newFunctionEnv_cells F.kind (λp hp=> ?_) λenv he bK I=> ?_
 ·have h:=(λp hp=>F.kinds p.1 (hbs▸cC.mpr ⟨p,hp,rfl⟩)) p hp
  cases q:f.cells.contains p.1 with
  | false=>rw[q]at h;exact .inl h
  | true=>rw[q]at h;exact .inr ⟨h,ad9 _ _ _ h⟩
 ·obtain rfl:env=callEnvC fd s.heap.objs.size a:=he
  obtain⟨h',tk,rfl⟩:=I.toInCall.same;have fC:∀x c,∀J:(callEnvC fd s.heap.objs.size a).cells.lookup x=aa c,s.heap.get? c=aB:=λx c hc=>(λc hc=>gQ hc) _ (bz (I.above x c (mem_of_lookup hc)));refine hQ _ _ ⟨⟨F.kind,F.glob,F.blt,λx hx=>hx,λx hx=>⟨hx,ad9 _ _ _ hx⟩,λx hx=>absurd hx (hnf x),λx hx=>hx,λhx=>(lw hx).2⟩,⟨λx=>rfl,⟨l,rfl⟩,rfl⟩,⟨rfl,rfl,λc e=>nxC (wJ.symm.trans e)⟩,S.keeps I.toInCall.keep, ?_,λU=>Ext.keeps I.toInCall.keep,λc hc=>hc.elim (λq=>q▸(λc hc=>gQ hc) _ (aN _)) (by rintro⟨x,_,q⟩;exact fC x c q)⟩;refine aM5 F S K B hb I.toInCall.keep F.kind rfl ((λc hc=>gQ hc) _ (aN _)) I.toInCall.ns (λx u h e=>We (hbs▸F.nodup) (F.loc hbs h e) e) (λx u h e=> ?_) (λx c e=> ?_) λx y c e1 e2=>name_of_addr I.apart (mem_of_lookup e1) (mem_of_lookup e2)
  ·have hk:=F.cX hbs h e
   obtain⟨c,hc⟩:=bT.mp (ad9 fd.scope.names (s.heap.objs.size+1) [] hk);exact⟨c,hc,Wf (hbs▸F.nodup) (show kdOf fd.scope x≠aa .local by refine aO hk ?_;decide) e▸I.cell x c hc⟩
  ·have fr:=I7 S (fC x c e)
   exact oG (I.cell x c e) λo' uf zf=>⟨⟨o',_,uf,zf⟩,fr.obj,fr.tab,λU=>fr.base,λq=>dW _ (q▸I.above x c (mem_of_lookup e))⟩
def Nm (F:FrmOk Γ f fd)(S:SR Γ ρ H s)(K:H8 Γ l ρ s.heap)(B:BR Γ ρ s.heap b bs)(hb:b.map (·.1)=f.names)(lw:CP Γ a fd s)(hfc:f.cells= [])(hnc:∀x∈fd.scope.names,x.2≠ .cell)(hfr:∀x,∀J:kdOf fd.scope x=aa .free,x=("__class__":aJ))
  (wJ:fd.closure= [(("__class__":aJ),c)]) (hco:Γ.g0.get? c=aa oc) (Rh:oc.data= .cell vc) (hct:c∉Γ.tabs)
  (hQ:∀env bK,∀J:Made Γ a f fd l ρ H s b env bK,Q env bK):aP M A (nC fd.scope fd.globals fd.closure bs (fd.qualname++".<locals>.") (aa a) fd.code aB fd.builtins) Q E s:=by
 have nce:∀x,f.cells.contains x=aC:=λx=>by refine aO hfc ?_;rfl
 have nc:∀x,kdOf fd.scope x≠aa .cell:=λx q=>hnc _ (mem_of_lookup q) rfl;have cc:∀y c',∀J: [(("__class__":aJ),c)].lookup y=aa c',y="__class__" ∧c'=c:=λy c' e=>
  if q:y="__class__" then⟨q,ak (e.symm.trans (q▸G9))⟩ else iz ((w5 q).symm.trans e)
 refine aO wJ ?_;refine aor hnc (λp hp=> ?_) (λh' hn sb=> ?_) F.kind
 ·exact(F.kinds p.1 ((B.names.trans hb)▸cC.mpr ⟨p,hp,rfl⟩)).trans (by rw[nce];rfl)
 ·have kp:∀b o,∀J:s.heap.get? b=aa o,h'.get? b=aa o:=λb o e=>(sb.2 b (cW (gf e))).trans (aZ _ e)
  refine hQ _ _ ⟨⟨F.kind,F.glob,F.blt,λx hx=>hx,λx hx=>absurd hx (nc x),λx hx=>⟨.inr hx,by refine aO (hfr x hx) ?_;rfl⟩,λx hx=>hx,λhx=>nxC ((lw hx).1.symm.trans wJ)⟩,⟨λx=>rfl,⟨l,rfl⟩,rfl⟩,⟨rfl,rfl,λc' e=>by replace e:=wJ▸e;cases e;rfl⟩,S.keeps kp, ?_,λU=>Ext.keeps kp,λc' hc=>hc.elim (λq=>q▸(N5 _)) (by rintro⟨x,q,_⟩;exact absurd q (nc x))⟩;refine aM5 F S K B hb kp F.kind rfl (N5 _) hn (λx u h e=>(aR0 ((B.names.trans hb)▸F.nodup) x).trans e) (λx u h e=>qI ((nce x).symm.trans h)) (λx c' e=> ?_) λx y c' e1 e2=>(cc x c' e1).1.trans (cc y c' e2).1.symm;obtain⟨rfl,rfl⟩:=cc x c' e;exact⟨⟨oc,vc,kp _ _ (S.base _ _ hco),Rh⟩,λq=>(iz ((S.apart c' q).symm.trans hco)),hct,λq=>absurd rfl q,λq=>(nxS ((S.base _ _ hco).symm.trans ((congrArg s.heap.get? q).trans (N5 _))))⟩
def au5 (F:FrmOk Γ f fd)(S:SR Γ ρ H s)(K:H8 Γ l ρ s.heap)(B:BR Γ ρ s.heap b bs)(hb:b.map (·.1)=f.names)(lw:CP Γ a fd s)(hQ:∀env bK,∀J:Made Γ a f fd l ρ H s b env bK,Q env bK):
  aP M A (nC fd.scope fd.globals fd.closure bs (fd.qualname++".<locals>.") (aa a) fd.code aB fd.builtins) Q E s:=by
 cases F.mode with
 | own hc nf=>exact Nk F S K B hb lw hc nf hQ
 | cls hc nc fr c o v wJ hco Rh hct=>exact Nm F S K B hb lw hc nc fr wJ hco Rh hct hQ
end
end
section
section
variable {Γ:Cx}{ρ:fj}{h:bM}{m:Nat}
def aJ3 {α:Type}{l:List α}{i:Nat}{a:α}(e:l[i]?=aa a)(hi:i<m):(l.take m)[i]?=aa a:=(Bw hi).trans e
def VR.gc:∀{v:V}{u:aD},∀J:VR Γ ρ h v u,∀J:v.lt m=au,VR Γ (ρ.take m) h v u:=by
 intro v;refine V.rec (motive_1:=λv=>∀{u:aD},∀J:VR Γ ρ h v u,∀J:v.lt m=au,VR Γ (ρ.take m) h v u) (motive_2:=λl=>∀{us:List aD},∀J:gD Γ ρ h l us,∀J:V.jN m l=au,gD Γ (ρ.take m) h l us) (λx U=>x) (λU u x U=>x) (λU u x U=>x) (λU u x U=>x) ?_ ?_ (λU u x U=>x) (λU U u x U=>x) (λU u x U=>x) (λx U=>x) ?_ (λx U=>x) ?_ v
 ·rintro l ih _ ⟨a,vs,n,ht,hs⟩ c
  exact .mk a vs n ht (ih hs c)
 ·rintro i _ ⟨a,r,e⟩ c
  exact .mk a r (aJ3 e (gH c))
 ·rintro i _ ⟨a,d,h1,h2⟩ c
  exact .mk a d (aJ3 h1 (gH c)) h2
 ·rintro v l ih1 ih2 _ ⟨u,us,hv,hs⟩ c
  exact .mk u us (ih1 hv (d8 c)) (ih2 hs (m8 c))
theorem gD.gc:∀{l:List V}{us:List aD},∀J:gD Γ ρ h l us,∀J:V.jN m l=au,gD Γ (ρ.take m) h l us:=by
 intro l
 induction l with
 | nil=>exact λx U=>x
 | cons v l ih=>
  rintro _ ⟨u,us,hv,hs⟩ c;exact .mk u us (hv.gc (d8 c)) (ih hs (m8 c))
theorem DR.gc:∀{d:j7}{es:List iK},∀J:DR Γ ρ h d es,∀J:W6 m d=au,DR Γ (ρ.take m) h d es:=by
 intro zz
 induction zz with
 | nil=>
  intro _ x _;exact x
 | cons hd0 _ ih=>
  obtain⟨_,_⟩:=hd0;rintro _ ⟨hh,t,u,es,hv,hs⟩ c;exact .mk hh t u es (hv.gc (d8 c)) (ih hs (m8 c))
theorem OR.gc:∀{o:m6}{r:List aV},∀J:OR Γ ρ h o r,∀J:O3 m o=au,OR Γ (ρ.take m) h o r:=by
 intro o;cases o with
 | list l=>
  rintro _ ⟨a,xs,n,ha,hs,hz⟩ c;exact .mk a xs n ha (hs.gc c) hz
 | inst c d=>
  rintro _ ⟨a,dx,es,n,ha,hd,pB,hi,hc⟩ c;exact .mk a dx es n ha hd (pB.gc c) hi hc
 | acc c d l=>
  rintro _ ⟨a,dx,es,n,xs,q,ha,hd,pB,hs,hz,hc,hi⟩ c;exact .mk a dx es n xs q ha hd (pB.gc (d8 c)) (hs.gc (m8 c)) hz hc hi
 | vD=>exact λx U=>x
def a8c:∀{H:Hp},∀J:H9 m H=au,∀J:o∈H,O3 m o=au:=by
 intro zz
 induction zz with
 | nil=>
  intro _ e;exact zZ e
 | cons _ _ ih=>
  intro c e;exact(bc.mp e).elim (λq=>q▸(d8 c)) (ih (m8 c))
def ak8 (hb:b∈(ρ.take m).flatten):b∈ρ.flatten:=oG (cM.mp hb) λr hr hb=>(cM.mpr ⟨r,uZ hr,hb⟩)
theorem SR.gc (S:SR Γ ρ (H++T) s)(c:H9 H.length H=au):SR Γ (ρ.take H.length) H s where
 len:=by refine aO tu (aO S.len (aO az ?_));exact lz (bh _ _)
 nodup:=by have nd:=S.nodup;rw[←uD H.length ρ,mV]at nd;exact(adq.mp nd).1
 objs:=λi o e=>by have hi:=(aL.mp e).1;refine oG (S.objs i o ((gC hi).trans e)) λr h1 h2=> ?_;exact⟨r,aJ3 h1 hi,h2.gc (a8c c (bV e))⟩
 base:=S.base
 apart:=λb hb=>S.apart b (ak8 hb)
 mz:=λb hb=>S.mz b (ak8 hb)
 gens:=S.gens
 tabs:=S.tabs
def Wh:∀{d:j7},∀J:W6 m d=au,∀J:d.lookup x=aa v,v.lt m=au:=by
 intro zz
 induction zz with
 | nil=>
  intro _ e;exact iz e
 | cons hd0 d ih=>
  obtain⟨y,u⟩:=hd0;intro c e;by_cases q:x=y
  ·subst q
   obtain rfl:=ak (G9.symm.trans e);exact(d8 c)
  ·exact ih (m8 c) ((w5 q).symm.trans e)
theorem FR.gc (F:FR Γ l ρ h env loc cX)(f:aJ->Bool)(hl:W6 m (loc.filter λp=>f p.1)=au)(hc:W6 m cX=au):FR Γ l (ρ.take m) h env (loc.filter λp=>f p.1) cX where
 uc:=λe he=>(F.uc e he).casesOn λL o es n hk hf ho hd hb ht hg=> .mk L o es n hk hf ho hd (λq=>hb (ak8 q)) ht hg
 ns:=F.ns.casesOn λmm hn hv=> .mk mm hn λx v e=>(hv x v (X6 f e).2).imp λu z=>⟨z.1,z.2.gc (Wh hl e)⟩
 cells:=λx v e=>(F.cells x v e).casesOn λc u h1 h2 h3=> .mk c u h1 h2 (h3.gc (Wh hc e))
 wH:=λq=>F.wH (ak8 q)
 xH:=λx c e q=>F.xH x c e (ak8 q)
 xJ:=F.xJ
 sU:=F.sU
 Ac:=F.Ac
 vR:=F.vR
 oH:=F.oH
 apart:=F.apart
 neL:=F.neL
 Fp:=λq=>by obtain⟨v,e⟩:=bT.mp q;exact F.Fp (by refine aO ((X6 f e).2) ?_;rfl)
end
def Ext.gc {W:aV->Prop}(x:Ext Γ FS W ρ s fK s'):Ext Γ FS W ρ s ρ s':=⟨.refl _ _,x.vf,x.live,x.os,x.drawn⟩
theorem I2.take (g:I2 ρ h fK):fK.take ρ.length=ρ:=by obtain⟨τ,rfl,_⟩:=g.more;exact auv
theorem q7.Rb (hk:ρ.length=k)(h:q7 Γ l lk ρ s r W (u6 Γ)):q7 Γ l lk ρ s (Rb k r) W (u6 Γ):=λq H' ev Q E P=>by
 subst hk
 match r,ev,h with
 | some (.exc c m,H),ev,h=>exact h _ _ ev _ _ P
 | some (.ok v,H),ev,h=>
  have ev:(if H.length=ρ.length then aa (.ok v,H) else if (v.lt ρ.length&&H9 ρ.length (H.take ρ.length))=au then aa (.ok v,H.take ρ.length) else aa (.ok v,H))=aa (q,H'):=ev;by_cases h1:H.length=ρ.length
  ·rw[bN h1]at ev;exact h _ _ ev _ _ P
  ·rw[bk h1]at ev
   by_cases h2:(v.lt ρ.length&&H9 ρ.length (H.take ρ.length))=au
   ·replace ev:=(bN h2)▸ev
    refine h _ _ rfl Q E λfK s' u x S R=>(P.take ev:Q7 Γ l lk ρ s (.ok v) (H.take ρ.length) (u6 Γ) Q E) ρ s' u x.gc ?_ (x.grow.take▸VR.gc R (d8 h2));have hl:(H.take ρ.length).length=ρ.length:=by rw[tu,lz];exact oG x.grow.more λτ e _=>(wj S.len (aO e (aO az (bh _ _))))
    have z:=(show SR Γ fK (H.take ρ.length++H.drop ρ.length) s' from by rw[uD];exact S).gc (by refine aO hl ?_;exact(m8 h2));rw[hl,x.grow.take]at z;exact z
   ·rw[bk h2]at ev;exact h _ _ ev _ _ P
end
section
variable {Γ:Cx}{n m:Nat}{k:Kd}
theorem jy.deeper (a:jy A l (n+1)):jy (A.deeper env) (env::l) n:=
 ⟨a.hand,uE a.frames,a.dep,a.uni (by decide)⟩
def jy.room (a:jy A l n):A.depth<mW:=bB (aq (bh _ _) (bh _ _)) a.depth
def Ext.call (x:Ext Γ (n6 l) (Wr Γ lk ρ) ρ s aY aU)(y:Ext Γ (n6 (env::l)) (vV Γ k lk aY env) aY aU fK s')(hf:env.frame=aa env.locals)(new:∀c,∀J:(c=env.locals∨∃x,k x=aa .cell∧env.cells.lookup x=aa c),s.heap.get? c=aB):Ext Γ (n6 l) (Wr Γ lk ρ) ρ s fK s':=by have nw:∀b o,∀J:s.heap.get? b=aa o,∀J:¬Wr Γ lk ρ b,¬vV Γ k lk aY env b:=λb o e nb q=>q.elim (λq=>(x.grow.wr q).elim nb λq=>(iz (q.symm.trans e))) λq=>(iz ((new b q).symm.trans e));have nf:∀b o,∀J:s.heap.get? b=aa o,∀J:b∉n6 l,b∉n6 (env::l):=λb o e nb q=>(bc.mp (ar7 hf▸q)).elim (λq=>iz ((new b (.inl q)).symm.trans e)) nb;refine⟨x.grow.trans y.grow x.live,⟨λb o e nm=>y.vf.vG b o (x.vf.vG b o e nm) nm,λb o e w f=>y.vf.keep b o (x.vf.keep b o e w f) (nw b o e w) (nf b o e f),λb o e w f=> ?_⟩,x.live.trans y.live,y.os.trans x.os,y.drawn.trans x.drawn⟩;obtain⟨sl,awo⟩:=x.vf.fs b o e w f;exact(y.vf.fs b _ awo (nw b o e w) (ar7 hf▸ .tail _ f)).elim λsl' agf=>⟨sl',agf⟩
inductive FnT (Γ:Cx)(a:aV)(f:Fn):Prop
 | mk (o:ou) (fd:jA) (body:List pK) (dU:List (aJ×aD)) (at_:FnAt Γ a f o fd body dU):FnT Γ a f
structure az9 (Γ:Cx):Prop where
 fns:∀a f,∀J:Γ.G.fn a=aa f,FnT Γ a f
 qR:Γ.g0.NoLimit
def Ji (Γ:Cx)(n:Nat)(a:aV)(fd:jA)(body:List pK):Prop:=∀(st:pK)(ms:t6),∀J:agd (kdOf fd.scope) st=aa ms,∀(env:fP)(l:List fP)(A:bO)(lk:List Nat)(σ:St)(ρ:fj)(s:aW),∀J:v8 Γ (kdOf fd.scope) env,∀J:Own (kdOf fd.scope) env l,∀J:AtF a fd env,∀J:jy A l n,∀J:SR Γ ρ σ.hp s,∀J:FR Γ l ρ s.heap env σ.loc σ.cX,I8 Γ (kdOf fd.scope) l env lk ρ s (ik Γ.G n lk ms σ) (λQ E=>_root_.PySem.wpAt Γ.M A (.func body env) (adw st env) Q E s) (zg Γ)
def Wi (Γ:Cx):Prop:=∀(n:Nat)(a:aV)(f:Fn)(o:ou)(fd:jA)(body:List pK)(dU:List (aJ×aD)),∀J:FnAt Γ a f o fd body dU,∀J:Γ.G.fn a=aa f,Ji Γ n a fd body
def aM6 {kf:Nat}{k:Kd}{st:pK}{sts:List pK}:∃ms,TP kf k (st::sts)=ms::TP kf k sts∧(ms=cS kf k st∨agd k st=aa ms):=by
 refine⟨_,rfl, ?_⟩;cases sts.isEmpty with
 | false=>exact .inl rfl
 | true=>
  cases agd k st with
  | none=>exact .inl rfl
  | some m=>exact .inr rfl
theorem Jj (Sp:Ji Γ n a fd body)
  (ih:yx Γ n)
  (O:v8 Γ (kdOf fd.scope) env) (W:Own (kdOf fd.scope) env l) (T:AtF a fd env) (ao:jy A l n):
  ∀(sts:List pK){σ:St}{ρ:fj}{s:aW},∀J:SR Γ ρ σ.hp s,∀J:FR Γ l ρ s.heap env σ.loc σ.cX,I8 Γ (kdOf fd.scope) l env lk ρ s (z8 (ik Γ.G n lk) (TP kf (kdOf fd.scope) sts) σ) (λQ E=>_root_.PySem.wpAt Γ.M A (.func body env) (aop sts env) Q E s) (zg Γ)
 | [],_,_,_,S,F=> .ok λQ E P=>qw (oN (P.done S F rfl))
 | st::sts,σ,ρ,s,S,F=>by
  refine oG (aM6 (kf:=kf) (k:=kdOf fd.scope) (st:=st) (sts:=sts)) λms e h=> ?_;refine aO e ?_;have one:I8 Γ (kdOf fd.scope) l env lk ρ s (ik Γ.G n lk ms σ) (λQ E=>_root_.PySem.wpAt Γ.M A (.func body env) (adw st env) Q E s) (zg Γ):=by
   rcases h with rfl | h
   ·exact(ih kf _ st env l A lk σ ρ s O W ao S F).of λQ E w=>qw w
   ·exact Sp st ms h env l A lk σ ρ s O W T ao S F
  refine one.DN (λQ E w=>yL w) λfl ir aY aU u x cg oF r=> ?_;cases fl with
  | next=>obtain rfl:u= .next:=r;exact Jj Sp ih O W T ao sts cg oF
  | brk=>obtain rfl:u= .brk:=r;exact .ok λQ E P=>P.done cg oF rfl
  | cont=>obtain rfl:u= .cont:=r;exact .ok λQ E P=>P.done cg oF rfl
  | ret v=>obtain⟨w,hv⟩:=r;exact .ok λQ E P=>P.done cg oF ⟨w,hv⟩
set_option backward.match.sparseCases true in
abbrev aKv (f:Flow):aD:=match f with
 | .ret v=>v
 | _=> .none
def Np (h:I8 Γ (kdOf fd.scope) (env::l) env lk aY aU r awq (zg Γ))(ao:jy A l (n+1))(hf:env.frame=aa env.locals)
  (x:Ext Γ (n6 l) (Wr Γ lk ρ) ρ s aY aU) (new:Wg fd s.heap env):
  q7 Γ l lk ρ s (Ij r) (λQ E=>awq (λf s'=>Q (aKv f) s') (λe s'=>aP Γ.M (A.deeper env) (leaving env e) (λU s''=>E e s'') (λe' s''=>E e' s'') s')) (u6 Γ):=λq H' ev Q E P=>by
 match r,ev,h with
 | some (.ok (.ret v),σ),ev,h=>
  refine h _ _ rfl _ _ λfK s' u y S F r=> ?_;obtain⟨w,hv⟩:=r;exact(P.take ev:Q7 Γ l lk ρ s (.ok v) σ.hp (u6 Γ) Q E) fK s' w (x.call y hf new) S hv
 | some (.ok .next,σ),ev,h=>
  refine h _ _ rfl _ _ λfK s' u y S F r=> ?_;obtain rfl:u= .next:=r;exact(P.take ev:Q7 Γ l lk ρ s (.ok .none) σ.hp (u6 Γ) Q E) fK s' .none (x.call y hf new) S rfl
 | some (.ok .brk,σ),ev,_=>exact t7 ev
 | some (.ok .cont,σ),ev,_=>exact t7 ev
 | some (.exc c mm,σ),ev,h=>
  exact h _ _ rfl _ _ λfK s' e X y S F f=>(aM0 (uE ao.frames) hf F.uc (x.live.trans y.live) (f.less x.live) λqD X' f' st=>((P.take ev:Q7 Γ l lk ρ s (.exc c mm) σ.hp (u6 Γ) Q E) fK {s' with heap:=qD} e X' (x.call (y.trans' (st.ext (W:=λU=>False) F.uc) λb q=>q.elim) hf new) (st.sr F.uc S) f'))
def aR2 (ih:yx Γ n)(Sp:Ji Γ n a fd body)(nl:Γ.g0.NoLimit)(ao:jy A l (n+1))(F:FrmOk Γ f fd)
  (Ak:Ext Γ (n6 l) (Wr Γ lk iu) iu iC ρ s) (S:SR Γ ρ H s) (K:H8 Γ l ρ s.heap) (B:BR Γ ρ s.heap b bs) (hb:b.map (·.1)=f.names) (lw:CP Γ a fd s):
  q7 Γ l lk iu iC (Ij (z8 (ik Γ.G n lk) (TP kf (kdOf fd.scope) body) ⟨b.filter λp=> !f.cells.contains p.1,b.filter λp=>f.cells.contains p.1,H⟩))
   (λQ E=>aP M A.in1 (nC fd.scope fd.globals fd.closure bs (fd.qualname++".<locals>.") (aa a) fd.code aB fd.builtins) (λenv bK=>bK.heap.NoLimit∧iw Γ.M A (.func body env) (Ret Q E) bK) E s) (u6 Γ):=λq H' ev Q E P=>
 au5 F S K B hb lw λenv bK D=>⟨nl.keeps D.S.base,ks_codeAny_funcAt
  (Np (Jj Sp ih D.O D.W D.T ao.deeper body D.S D.F) ao D.W.frame (Ak.trans' (D.x (Wr Γ lk iu)) λb q=> .inl q) (λc hc=>Ak.live.none (D.new c hc)) q H' ev Q E P)⟩
def H8.grow (K:H8 Γ l ρ h)(kp:∀b o,∀J:h.get? b=aa o,h'.get? b=aa o)(x:I2 ρ h fK):H8 Γ l fK h':=λe he=>(K e he).sG λL o hb U e=>⟨⟨o,kp L o e,rfl⟩,λq=>by
 obtain⟨τ,rfl,hn⟩:=x.more;rw[mV,bI]at q;exact q.elim hb λq=>iz ((hn L q).symm.trans e)⟩
theorem Jk {α:Type}:∀(xs:List aJ)(vs:List α),(xs.zip vs).map (·.1)=xs.take vs.length
 | [], []=>rfl
 | [],_::_=>rfl
 | x::xs, []=>rfl
 | x::xs,v::vs=>congrArg (x::·) (Jk xs vs)
inductive Wj (Γ:Cx)(ρ:fj)(H:Hp)(s:aW)(f:Fn)(us:List aD)(r':List (aJ×aD))(b:j7)(cU:Hp):Prop
 | plain (hk:f.kwarg=aB) (hH:cU=H) (B:BR Γ ρ s.heap b (f.params.zip us++r')) (hb:b.map (·.1)=f.names):Wj Γ ρ H s f us r' b cU
 | kw (kx:aJ) (hk:f.kwarg=aa kx) (hH:cU=H++ [.vD]) (B:BR Γ (ρ++ [[s.heap.objs.size]]) (s.heap.push gG) b (f.params.zip us++r'++ [(kx,.ref s.heap.objs.size)])) (hb:b.map (·.1)=f.names):Wj Γ ρ H s f us r' b cU
inductive aqs (Γ:Cx)(ρ:fj)(H:Hp)(s:aW)(f:Fn)(us mG:List aD)(kn:List aJ)(dU:List (aJ×aD))(b:j7)(cU:Hp):Prop
 | mk (r':List (aJ×aD)) (hs:(us.length,kn)∈f.shapes) (hl:mG.length=kn.length) (e:asks (given kn mG dU) (f.params.drop us.length++f.eN)=aa r') (x:Wj Γ ρ H s f us r' b cU):aqs Γ ρ H s f us mG kn dU b cU
def Nq (hlen:ρ.length=H.length)(hd:∀x v,∀J:f.dflt.lookup x=aa v,az8 Γ ρ s.heap v dU x)(hv:gD Γ ρ s.heap vs us)(hk:gD Γ ρ s.heap ks mG)(e:binds f vs kn ks H=aa p):
  aqs Γ ρ H s f us mG kn dU p.1 p.2:=by
 refine I3 e λhc e=> ?_;refine j5 e λr hr e=> ?_;obtain⟨r',h1,B,nm⟩:=Wc (λx v=>Nj hk hd) hr;have hb:(f.params.zip vs++r).map (·.1)=f.params++f.eN:=by rw[bu,Jk,nm,←aQ,uD]
 refine⟨r',by refine aO hv.length ?_;exact cJ.mp (d8 hc),hk.length.trans (gM (m8 hc)),by refine aO hv.length ?_;exact h1, ?_⟩;cases hw:f.kwarg with
 | none=>
  replace e:=hw▸e;obtain rfl:=ak e;exact .plain hw rfl ((BR.zip hv).append B) (by simp only[hb,Fn.names,hw];exact(bf _).symm)
 | some kx=>
  rw[hw]at e;obtain rfl:=ak e;refine .kw kx hw rfl ((((BR.zip hv).append B).mono (aD7 ρ s.heap) λb o e U=>N6 s.heap gG b o e).append (.mk _ [] ?_ rfl)) (by simp only[bu,hb,Fn.names,hw];rfl);exact⟨_, [],ai8 hlen⟩
def aKw (G:az9 Γ)(Sp:Wi Γ)(ih:yx Γ n):CK Γ (n+1):=λl A lk a vs ks kn H ρ s us mG ao S K hv hk=>
 .opt λf hf=> .opt λp hp=>by
  refine uG λY Z=> ?_;obtain⟨o,fd,body,dU,F⟩:=G.fns a f hf;obtain⟨kf,tr⟩:=F.tr;obtain⟨r',hs,hl,e,x⟩:=Nq S.len (λx v e=>F.Rf x v e ρ s.heap) hv hk hp;refine Z ?_;have lw:∀s,CP Γ a fd s:=λs q=>absurd q F.noe;refine aO tr ?_;refine q7.Rb S.len (q7.of ?_
   λQ E w=>vY ao.room (S.base _ _ F.obj) F.data F.co F.gen F.stmts (F.code.keeps S.base) (F.bind us.length kn hs us mG rfl hl r' e _ _ _ _ _ S.base w))
  delta ar8;cases x with
  | plain hw hH B hb=>
   exact aO hw (aO hH (aR2 ih (Sp n a f o fd body dU F hf) G.qR ao F.toFrmOk .refl S K B hb (lw _)))
  | kw kx hw hH B hb=>
   refine aO hw (aO hH ?_);have kp:=N6 s.heap gG;exact aR2 ih (Sp n a f o fd body dU F hf) G.qR ao F.toFrmOk (Ext.ug kp (ag6 s.heap)) (S.ug kp (ag6 s.heap) (by simp) ⟨_,0,bx _ rfl⟩) (K.grow kp (aD7 ρ s.heap)) B hb (lw _)
end
section
variable {Γ:Cx}{n m:Nat}{k:Kd}
section
variable {A:bO}{E:PQ aD}{s:aW}{env:fP}
def ab9 (h:iw M A (.call f ⟨args,kw⟩) (Ret Q E) s):aP M A (call f args kw) Q E s:=
 mZ (zH h λr s' h=>by rcases r with e | (v | _ | _ | _)<;>first | exact h.elim | exact h)
def Jl (h1:args.any (·.1)=aC)(h2:Ia.all (·.1.isSome)=au)(h3:n<20):HJ n args Ia=au:=by
 delta HJ;have e1:(args.all λx=> !x.1)=au:=by rw[bj];intro x hx;have:=List.any_eq_false.mp h1 x hx;simpa using this
 refine aO e1 (aO h2 ?_);simp only[rY,decide_eq_true_eq]
 split
 ·exact dG h3 (by decide)
 ·exact aM (bA h3 _) (by decide)
def aq3 (hb:af5 o=au)(hl:(ap.endLine==p.line)=au)
  (h1:(Ay p (pQ args env)).any (·.1)=aC) (h2:(uR p (pG ks env)).all (·.1.isSome)=au) (h3:args.length+ks.length<20)
  (h:aP Γ.M A (eval o env) (λov aU=>∀pl,aP Γ.M A (rZ ov name pl) (λfx bK=>aP Γ.M A (zK p fx.1 fx.2 (Ay p (pQ args env)) (uR p (pG ks env))) Q E bK) E aU) E s):
  aP Γ.M A (eval (.Call (.Attribute o name ap) args ks p) env) Q E s:=by
 have e:eval (.Call (.Attribute o name ap) args ks p) env=(do
   let ov←lZ o name env (eval o env)
   nJ ap.atName
   vz o name ap p env ov (args.length+ks.length) (Ay p (pQ args env)) (uR p (pG ks env))):=by cases args<;>rfl
 rw[e,az6 hb];refine aj (bH h (λov aU jQ=>aj (dM ?_)) λU U z=>z);delta vz;refine aO (Jl h1 h2 h3) ?_;refine aj (bJ ?_);refine pM (bN rfl) ?_;refine bH (jQ _) (λfx bK rP=> ?_) λU U z=>z;obtain⟨f,first⟩:=fx;exact aj (pM (bN ((lr _ _).mpr (.inr hl))) (aA rP))
def Nr (X:Γ.K.In s.heap)(I:InstAt s.heap x ox C od)
  (hga:gn Γ.K (.ref C) "__getattribute__"=aa (aa (.builtin ga))) (aKx:jV ga="object.__getattribute__") (hk:gn Γ.K (.ref C) "__getattr__"=aa aB) (hf:gn Γ.K (.ref C) name=aa (aa (.ref f)))
  (ht:sI Γ.K (.ref f)=aa (.type "function")) (hs:shadowIn od name=aa aC) (h:Q (.ref f, [.ref x]) s):aP M A (rZ (.ref x) name pl) Q E s:=by
 refine aj (aj (I.type.here ((fD X hga).here ?_)));dsimp only;refine aO aKx (aO (bk (by decide)) ?_);refine aj (aj (I.type.here ((fD X hk).here ?_)));refine aj (aj (I.type.here ((fD X hf).here (aj ((looks_typeIn X ht).here ?_)))));refine aO (bk (by decide+kernel)) ?_;refine aj (kY I.at_ ?_);have hd:=I.dict;cases e:ox.dict with
 | none=>exact aj (lG (aA h))
 | some dx=>
  cases od with
  | none=>replace hd:=e▸hd;exact hd.elim
  | some o=>
   rw[e]at hd;exact oG (cR.mp hs) λr a b=>(aj (aj (kY hd (pM (nsLook_of a) (aA (aO b (aj (lG (aA h)))))))))
end
def Found (Γ:Cx)(s:aW)(u:aD)(x:aJ)(fv:aD):Prop:=∀(A:bO)(pl:Sem Bool)(Q:PQ (aD×List aD))(E:PQ aD),∀J:Q (fv, [u]) s,aP Γ.M A (rZ u x pl) Q E s
section
variable {ρ:fj}{H:Hp}{s:aW}{u:aD}{x:aJ}
def aR3 (Mo:O9 Γ)(S:SR Γ ρ H s)(I:InstAt s.heap a ob c (aa (iD es nn)))(pB:DR Γ ρ s.heap d es)(hn:d.lookup x=aB)(hg:Γ.G.bW c x=aa f):Found Γ s (.ref a) x (.ref f):=λA pl Q E h=>by refine HY (Mo.bW c x _ hg) λm1 m2 m3=> ?_;obtain⟨⟨ga,g1,g2⟩,g3⟩:=Mo.get c x _ hg;refine Nr S.qJ I g1 g2 g3 m1 m2 ?_ h;show(lookIn x (iD es nn)).map _=_;simp only[Bs,(pB.look x).2 hn];rfl
def au6 (e:T9 G c d x=aa f):d.lookup x=aB∧G.bW c x=aa f:=by
 unfold T9 at e;cases q:d.lookup x with
 | some v=>rw[q]at e;exact t7 e
 | none=>rw[q]at e;exact⟨rfl,e⟩
def Wl (e:SX G i x mo=aa (.fn f)):(∃c d,mo= .inst c d∧T9 G c d x=aa f)∨∃c d l,mo= .acc c d l∧T9 G c d x=aa f:=by
 cases mo with
 | vD=>exact nomatch (J9 e).2
 | list l=>exact nomatch (J9 e).2
 | inst c d=>
  exact oG (cR.mp e) λg hg q=>(.inl ⟨c,d,rfl,by cases q;exact hg⟩)
 | acc c d l=>
  refine .inr ⟨c,d,l,rfl, ?_⟩;unfold SX at e;delta T9;cases q:d.lookup x with
  | some v=>simp only[q]at e;exact t7 e
  | none=>
   simp only[q]at e⊢;cases q':G.bW c x with
   | some g=>replace e:=q'▸e;cases e;rfl
   | none=>rw[q']at e;exact nomatch (J9 e).2
def axw (Mo:O9 Γ)(S:SR Γ ρ H s)(hv:VR Γ ρ s.heap ov u)(hl:Ii Γ.G H ov x=aa (.fn f)):Found Γ s u x (.ref f)∧(Γ.G.fn f).isSome:=by
 cases ov with
 | str t=>exact nomatch (J9 hl).2
 | ref i=>
  refine j5 hl λo hi e=> ?_;rcases Wl e with⟨c,d,rfl,q⟩ | ⟨c,d,l,rfl,q⟩
  ·obtain⟨hn,hg⟩:=au6 q
   obtain⟨b,dx,es,n,hi,hr,ha,hd,pB,tG,hc⟩:=hv.inst S hi;exact⟨aR3 Mo S ⟨ha,rfl,rfl,hd⟩ pB hn hg,(Mo.bW c x _ hg).2.2⟩
  ·obtain⟨hn,hg⟩:=au6 q
   obtain⟨b,r,hr⟩:=hv;obtain⟨a,dx,es,n,xs,kk,ha,hd,pB,hs,hz,hc,tG⟩:=S.or hi hr;exact⟨aR3 Mo S ⟨ha,rfl,rfl,hd⟩ pB hn hg,(Mo.bW c x _ hg).2.2⟩
 | gl v=>
  cases v with
  | ref a=>
   exact j5 (J9 hl).2 λb U e=>(nomatch e)
  | _=>exact t7 hl
 | _=>exact t7 hl
def Jm (G:az9 Γ)(hf:(Γ.G.fn f).isSome)(hb:∀b o,∀J:Γ.g0.get? b=aa o,h.get? b=aa o):Y5 Γ h (.ref f):=by obtain⟨fn,hfn⟩:=bT.mp hf;obtain⟨o,fd,body,dU,F⟩:=G.fns f fn hfn;refine⟨.frame,.inl rfl, ?_⟩;exact(uP (hb _ _ F.obj)).andThen (aO F.data Looks.now)
end
def axx (Γ:Cx)(n:Nat)(tg:Rc)(ov:V)(x:aJ)(u fv:aD):Prop:=
 ∀(l:List fP)(A:bO)(lk:List Nat)(vs ks:List V)(kn:List aJ)(H:Hp)(ρ:fj)(s:aW)(us mG:List aD),∀J:jy A l n,∀J:SR Γ ρ H s,∀J:VR Γ ρ s.heap ov u,∀J:H8 Γ l ρ s.heap,∀J:gD Γ ρ s.heap vs us,∀J:gD Γ ρ s.heap ks mG,q7 Γ l lk ρ s (W7 (o8 Γ.G n) lk tg ov x vs kn ks H) (λQ E=>Y5 Γ s.heap fv∧aP Γ.M A (call fv (u::us) (kn.zip mG)) Q E s) (u6 Γ)
inductive MAt (Γ:Cx)(n:Nat)(tg:Rc)(ov:V)(x:aJ)(s:aW)(u:aD):Prop
 | mk (fv:aD) (found:Found Γ s u x fv) (calls:axx Γ n tg ov x u fv):MAt Γ n tg ov x s u
def a8e (Γ:Cx)(n:Nat):Prop:=
 ∀(ov:V)(x:aJ)(tg:Rc)(H:Hp)(ρ:fj)(s:aW)(u:aD),∀J:SR Γ ρ H s,∀J:Ii Γ.G H ov x=aa tg,∀J:VR Γ ρ s.heap ov u,MAt Γ n tg ov x s u
def Wm (hM:a8e Γ n)(ih:U0 Γ n m k)(ho:v9 Γ n k o mo)(hb:af5 o=au)(hl:(ap.endLine==p.line)=au)
  (h3:args.length+ks.length<20) (hn:W5 args=au) (hk:keysOf ks=aa q):v9 Γ (n+1) k (.Call (.Attribute o x ap) args ks p) (.bW mo x (args.map (cE m k)) q.1 (q.2.map (cE m k))):=λenv l A φ H ρ s O a S F=>
 (ho env l A φ H ρ s O a.pred S F).jb (λQ E w=>aq3 hb hl (au4 env p hn) (aqm p env hk).all h3 w) λov cU aY aU u cQ cg hv=> .opt λtg ht=>by obtain⟨fv,g1,g2⟩:=hM ov x tg cU aY aU u cg ht hv;refine q7.of (Jf ih O a.pred hn hk cg (F.ext cQ) λvs kvs oE dz bK us mG du fU iB hkv=>g2 l A φ.lk vs kvs q.1 oE dz bK us mG a.pred fU (hv.ext du) ((F.ext cQ).ext du).uc iB.1 hkv) λQ E w pl=>g1 A pl _ E w
structure BM (Γ:Cx):Prop where
 find:∀(ov:V)(x:aJ)(tg:Rc)(H:Hp)(ρ:fj)(s:aW)(u:aD),∀J:SR Γ ρ H s,∀J:Ii Γ.G H ov x=aa tg,∀J:(∀f,tg≠ .fn f),∀J:VR Γ ρ s.heap ov u,∃id,Found Γ s u x (.builtin id)∧∀(r:Rec)(n:Nat)(l:List fP)(A:bO)(lk:List Nat)(vs:List V)(H:Hp)(ρ:fj)(s:aW)(us:List aD),∀J:jy A l n,∀J:SR Γ ρ H s,∀J:VR Γ ρ s.heap ov u,∀J:gD Γ ρ s.heap vs us,q7 Γ l lk ρ s (W7 r lk tg ov x vs [] [] H) (λQ E=>aP Γ.M A (call (.builtin id) (u::us)) Q E s) (u6 Γ)
def Wo (ht:∀f,tg≠ .fn f)(h:W7 r lk tg ov x vs kn ks H=aa q):kn= []∧W7 r lk tg ov x vs [] [] H=aa q:=by
 cases kn with
 | nil=>
  cases tg with
  | fn f=>exact absurd rfl (ht f)
  | _=>exact⟨rfl,h⟩
 | cons y r=>
  cases tg with
  | fn f=>exact absurd rfl (ht f)
  | vD i=>exact qI (m8 (J9 h).1)
  | _=>exact qI ((J9 h).1)
def aKz (G:az9 Γ)(Mo:O9 Γ)(B:BM Γ)(hF:CK Γ n):a8e Γ n:=λov x tg H ρ s u S hl hv=>by
 by_cases ht:∃f,tg= .fn f
 ·obtain⟨f,rfl⟩:=ht
  obtain⟨g1,g2⟩:=axw Mo S hv hl;exact⟨.ref f,g1,λl A lk vs ks kn cU aY aU us mG a cg qQ K iB hks=>
   q7.of (hF l A lk f (ov::vs) ks kn cU aY aU (u::us) mG a cg K (.mk u us qQ iB) hks) λQ E w=>⟨Jm G g2 cg.base,ab9 w⟩⟩
 ·have ht:∀f,tg≠ .fn f:=λf e=>ht ⟨f,e⟩
  refine oG (B.find ov x tg H ρ s u S hl ht hv) λid g1 g2=> ?_;refine⟨.builtin id,g1,λl A lk vs ks kn cU aY aU us mG a cg qQ K iB hks q H' ev Q E P=> ?_⟩;obtain⟨rfl,ev'⟩:=Wo ht ev;exact⟨keep_pure rfl,g2 (o8 Γ.G n) n l A lk vs cU aY aU us a cg qQ iB q H' ev' Q E P⟩
end
section
variable {Γ:Cx}{n m:Nat}{k:Kd}
def jy.make {C:aV}{us:List aD}{kw:List (aJ×aD)}(a:jy A l (n+1)):jy (A.under (.builtin "type.__call__" ⟨.ref C::us,kw⟩)) l n:=by
 refine⟨a.hand, ?_, ?_, ?_⟩
 ·show pushEnvs (Code.builtin "type.__call__" ⟨.ref C::us,kw⟩).envs A.frames=aa l
  refine aO (show(Code.builtin "type.__call__" ⟨.ref C::us,kw⟩).envs= [] from rfl) (aO a.frames ?_);rfl
 ·exact a.dep
 ·exact a.uni (c:=1) (by decide)
structure Wq (Γ:Cx):Prop where
 makes:∀c g,∀J:Γ.G.bW c "__init__"=aa g,∀J:c≠Γ.G.gh,zy Γ.K c=au
 acc:∀g,∀J:Γ.G.bW Γ.G.gh "__init__"=aa g,∀(A:bO)(rest:List aD)(kw:List (aJ×aD))(R:PQ Ba)(s:aW),∀J:Γ.K.In s.heap,∀J:A.depth+4<mW,∀J:iw Γ.M (A.under (.builtin "type.__call__" ⟨.ref Γ.G.gh::rest,kw⟩)) (.call (.ref g) ⟨.ref (s.heap.objs.size+1)::rest,kw⟩) (InitBack (s.heap.objs.size+1) R)
   {s with heap:=(s.heap.push gG).push {cls:= .ref Γ.G.gh,dict:=aa s.heap.objs.size,data:= .seq #[]}},iw Γ.M A (.call (.ref Γ.G.gh) ⟨rest,kw⟩) R s
 keep:∀c g,∀J:Γ.G.bW c "__init__"=aa g,Y5 Γ Γ.g0 (.ref c)
def Y5.base (x:Y5 Γ h u)(hb:∀b o,∀J:h.get? b=aa o,h'.get? b=aa o):Y5 Γ h' u:=x.imp λU q=>⟨q.1,q.2.keeps hb⟩
section
variable {l:List fP}{A:bO}{lk:List Nat}{ρ aY:fj}{H:Hp}{s aU:aW}
def q7.back {α β:Type}{r:Out α}{W:∀J:(PQ β),∀J:(PQ aD),Prop}{R:fj->bM->α->β->Prop}(h:q7 Γ l lk aY aU r W R)(x:Ext Γ (n6 l) (Wr Γ lk ρ) ρ s aY aU):q7 Γ l lk ρ s r W R:=λq H' e Q E P=>h q H' e Q E (P.ext x)
def FW (h:bM)(ob:ou)(b:aV)(o:ou)(e:h.get? b=aa o):((h.push gG).push ob).get? b=aa o:=aZ _ (aZ _ e)
def Wt (h:bM):∀b∈ [h.objs.size+1,h.objs.size],h.get? b=aB:=λb hb=>
 gQ ((bc.mp hb).elim (λq=>q▸eY _) λq=>aH.mp q▸aN _)
def Wu (h:bM)(ob:ou)(hf:ob.isFreed=aC):((h.push gG).push ob).get? (h.objs.size+1)=aa ob:=by refine wj (mj h gG) ?_;exact bx _ hf
def aR4 (h:bM)(ob:ou):((h.push gG).push ob).get? h.objs.size=aa gG:=aZ _ (bx _ rfl)
def aM7 (hF:CK Γ n)(ao:jy A' l n)(S:SR Γ ρ H s)(K:H8 Γ l ρ s.heap)(iB:gD Γ ρ s.heap vs us)(hks:gD Γ ρ s.heap ks mG)
  (x:OR Γ (ρ++ [[s.heap.objs.size+1,s.heap.objs.size]]) ((s.heap.push gG).push ob) mo [s.heap.objs.size+1,s.heap.objs.size]):
  q7 Γ l lk ρ s (jf (o6 Γ.G n lk g (.ref H.length::vs) kn ks (H++ [mo])) λv H'=>match v with
    | .none=>ok (.ref H.length) H'
    | _=>aB)
   (λQ E=>iw Γ.M A' (.call (.ref g) ⟨.ref (s.heap.objs.size+1)::us,kn.zip mG⟩) (InitBack (s.heap.objs.size+1) (Ret Q E)) {s with heap:=(s.heap.push gG).push ob}) (u6 Γ):=by
 have cg:SR Γ (ρ++ [[s.heap.objs.size+1,s.heap.objs.size]]) (H++ [mo]) {s with heap:=(s.heap.push gG).push ob}:=S.ug (FW s.heap ob) (Wt s.heap) (by simp) x;have cQ:Ext Γ (n6 l) (Wr Γ lk ρ) ρ s (ρ++ [[s.heap.objs.size+1,s.heap.objs.size]]) {s with heap:=(s.heap.push gG).push ob}:=Ext.ug (FW s.heap ob) (Wt s.heap);have self:age (ρ++ [[s.heap.objs.size+1,s.heap.objs.size]]) H.length (.ref (s.heap.objs.size+1)):=⟨_, [s.heap.objs.size],ai8 S.len⟩;refine q7.back ?_ cQ;refine(hF l A' lk g (.ref H.length::vs) ks kn _ _ _ (.ref (s.heap.objs.size+1)::us) mG ao cg (K.grow (FW s.heap ob) cQ.grow) (.mk _ us self (iB.ext cQ)) (hks.ext cQ)).DN (W:=λu s' Q U=>u= .none∧Q (.ref (s.heap.objs.size+1)) s') (λQ E w=> ?_) λv oE dz bK u du fU hv=> ?_
 ·refine zH w λr s' h=> ?_
  rcases r with e | (v | _ | _ | _)<;>exact h
 ·cases v with
  | none=>exact .ok λQ E P=>⟨hv,P.ok fU (by obtain⟨_,r,e⟩:=self;exact⟨_,r,du.grow.get e⟩)⟩
  | _=>exact .none
def Nt (C:Wq Γ)(Mo:O9 Γ)(hF:CK Γ n)(ao:jy A l (n+1))(hm:Γ.G.bW a "__init__"=aa g)(S:SR Γ ρ H s)(K:H8 Γ l ρ s.heap)(iB:gD Γ ρ s.heap vs us)(hks:gD Γ ρ s.heap ks mG):
  q7 Γ l lk ρ s (Aa Γ.G (o8 Γ.G n) lk a g vs kn ks H) (λQ E=>aP Γ.M A (call (.ref a) us (kn.zip mG)) Q E s) (u6 Γ):=by
 delta Aa;by_cases hc:a=Γ.G.gh
 ·subst hc
  refine aO (bN rfl) ?_;refine q7.of (aM7 hF ao.make S K iB hks (.mk _ _ [] 0 #[] 0 (Wu s.heap {cls:= .ref Γ.G.gh,dict:=aa s.heap.objs.size,data:= .seq #[]} rfl) (aR4 s.heap _) rfl rfl (bR _) rfl (by refine aO hm ?_;rfl))) λQ E w=>ab9 (C.acc g hm A us (kn.zip mG) _ s S.qJ (by have:=ao.depth;omega) w)
 ·refine aO (bk hc) ?_
  refine HY (Mo.bW a _ g hm) λm1 m2 m3=> ?_;refine q7.of (aM7 hF (ao.make (C:=a) (us:=us) (kw:=kn.zip mG)) S K iB hks (.mk _ _ [] 0 (Wu s.heap (instObj a s.heap.objs.size) rfl) (aR4 s.heap _) rfl (by refine aO hm ?_;rfl) hc)) λQ E w=>ab9 ?_;obtain⟨hh,gg,d,t,os⟩:=s;exact make_core (makes_of S.qJ (C.makes a g hm hc)) (fD S.qJ m1) (λself=>bind_fn S.qJ self m2) (.inl rfl) w
end
section
variable {A:bO}{s:aW}{x c g:aV}{ox:ou}{od:Option ou}{Q:PQ aD}{E:PQ aD}
abbrev FZ (Q:PQ aD)(E:PQ aD):PQ Ba:=Ret (λv s'=>∃i t,v= .int i t∧0≤i∧i<1000000000000000000∧∀t' tk,Q (.int i t') {s' with toks:=tk}) E
def Jo (X:Γ.K.In s.heap)(I:InstAt s.heap x ox c od)(m1:gn Γ.K (.ref c) "__len__"=aa (aa (.ref g)))(m2:sI Γ.K (.ref g)=aa (.type "function"))
  (h:iw Γ.M A.in1 (.call (.ref g) ⟨[.ref x], []⟩) (FZ Q E) s):aP Γ.M A.in1 (fB.«len» ⟨[.ref x], []⟩) (λfin s'=>∃v,fin= .done (.ret v)∧Q v s') E s:=by
 refine aj (aA ?_);refine aj (special_fn X I m1 m2 (bH (ab9 h) (λv s' z=> ?_) λU U y=>y));obtain⟨i,t,rfl,h0,hs,hq⟩:=z;exact aj (bJ (aA (aj (aoo (pM (bk (by lia)) (pM (bk (by lia)) (aj (aos (aA ⟨_,rfl,hq _ _⟩)))))))))
def aqu (X:Γ.K.In s.heap)(I:InstAt s.heap x ox c od)(m1:gn Γ.K (.ref c) "__len__"=aa (aa (.ref g)))(m2:sI Γ.K (.ref g)=aa (.type "function"))
  (h:iw Γ.M A.in1 (.call (.ref g) ⟨[.ref x], []⟩) (FZ Q E) s):aP Γ.M A (call (.builtin "len") [.ref x] []) Q E s:=
 Calls.call_function_entry kind_len plain_len entry_len (args_len1 _) (Jo X I m1 m2 h)
def aqv (X:Γ.K.In s.heap)(hu:A.units+50<vL)(I:InstAt s.heap x ox c od)(m1:gn Γ.K (.ref c) "__str__"=aa (aa (.ref g)))(m2:sI Γ.K (.ref g)=aa (.type "function"))
  (h:iw Γ.M A.in1.in1 (.call (.ref g) ⟨[.ref x], []⟩) (Ret (λv s'=>(∃i t,v= .str i t)∧∀tk,Q v {s' with toks:=tk}) E) s):aP Γ.M A (call (.type "str") [.ref x] []) Q E s:=by
 refine kso_call (bB (bG (show 2≤50 by decide) A.units) hu) X I m1 (beq_iff_eq.mpr m2) (bH (ab9 h) (λv s' z=> ?_) λU U y=>y);obtain⟨⟨i,t,rfl⟩,hq⟩:=z;exact hq s'.toks
end
theorem jy.in1 (a:jy A l (n+1)):jy A.in1 l n:=⟨a.hand,a.frames,a.pred.depth,a.uni (by decide)⟩
def jy.in2 (a:jy A l (n+1)):jy A.in1.in1 l n:=⟨a.hand,a.frames,a.pred.depth,a.uni (c:=2) (by decide)⟩
def jy.a8f (a:jy A l n):A.units+50<vL:=bB (aq (bG (show 50≤400 by decide) _) (aK (bh _ _) _)) a.units
inductive aqw (Γ:Cx)(s:aW)(m:aJ)(f:aV):aD->Prop
 | mk (x c:aV) (ox:ou) (od:Option ou) (I:InstAt s.heap x ox c od) (m1:gn Γ.K (.ref c) m=aa (aa (.ref f))) (m2:sI Γ.K (.ref f)=aa (.type "function")):aqw Γ s m f (.ref x)
section
variable {l:List fP}{A:bO}{lk:List Nat}{ρ:fj}{H:Hp}{s:aW}{v w:V}{u u':aD}{m:aJ}
def Ga (Mo:O9 Γ)(S:SR Γ ρ H s)(hv:VR Γ ρ s.heap v u)(e:V1 Γ.G H v m=aa f):aqw Γ s m f u:=j5 e λp e1 e=>by obtain⟨a,dx,es,n,hi,hr,ha,hd,pB,tG,hc⟩:=hv.lE S e1;exact⟨a,_,_,aa (iD es n),⟨ha,rfl,rfl,hd⟩,(Mo.bW _ _ _ e).1,(Mo.bW _ _ _ e).2.1⟩
def aim (Mo:O9 Γ)(hF:CK Γ n)(hB:iY Γ l lk A ρ s (O7 H b v) (call (.builtin b) [u] []) (u6 Γ))(a:jy A l (n+1))(S:SR Γ ρ H s)(K:H8 Γ l ρ s.heap)(hv:VR Γ ρ s.heap v u):
  iY Γ l lk A ρ s (wG Γ.G (o8 Γ.G n) lk b v H) (call (.builtin b) [u] []) (u6 Γ):=by
 delta wG;cases h:fu (b=="len") (V1 Γ.G H v ("__len__":aJ)) with
 | none=>exact hB
 | some f=>
  obtain rfl:=beq_iff_eq.mp (J9 h).1;obtain⟨x,c,ox,od,I,m1,m2⟩:=Ga Mo S hv (J9 h).2;refine(hF l A.in1 lk f [v] [] [] H ρ s [.ref x] [] a.in1 S K (.mk _ _ hv rfl) rfl).DN (λQ E z=>aqu S.qJ I m1 m2 z) λw cU aY aU CJ cQ cg hw=> .opt λk e=> .fu λhg=> .ok λQ E P=> ?_;obtain⟨t⟩:=hw.intOf e;exact⟨k,t,rfl,gH (d8 hg),jj (gH (m8 (m8 hg))) (by decide),λt' tk=>P.ok cg (.mk t')⟩
def ain (Mo:O9 Γ)(hF:CK Γ n)(hB:iY Γ l lk A ρ s (Lw H b v) (call (.type b) [u] []) (u6 Γ))(a:jy A l (n+1))(S:SR Γ ρ H s)(K:H8 Γ l ρ s.heap)(hv:VR Γ ρ s.heap v u):
  iY Γ l lk A ρ s (Fb Γ.G (o8 Γ.G n) lk b v H) (call (.type b) [u] []) (u6 Γ):=by
 delta Fb;cases h:fu (b=="str") (V1 Γ.G H v ("__str__":aJ)) with
 | none=>exact hB
 | some f=>
  obtain rfl:=beq_iff_eq.mp (J9 h).1;obtain⟨x,c,ox,od,I,m1,m2⟩:=Ga Mo S hv (J9 h).2;refine(hF l A.in1.in1 lk f [v] [] [] H ρ s [.ref x] [] a.in2 S K (.mk _ _ hv rfl) rfl).DN (λQ E z=>aqv S.qJ (a.a8f) I m1 m2 z) λw cU aY aU CJ cQ cg hw=> .opt λk e=> .ok λQ E P=> ?_;obtain⟨t⟩:=hw.strOf e;exact⟨⟨k,t,rfl⟩,λtk=>P.ok cg (.mk t)⟩
def aY2 (e:boolOf v=aa b):v= .bool b:=by
 cases v with
 | bool j=>exact congrArg V.bool (ak e)
 | _=>exact t7 e
def Wv (Mo:O9 Γ)(hF:CK Γ n):Ft Γ n:=λl A lk o y v H ρ s uy u a S K hy hv=>by
 delta afw;cases h:fu (o== .In) (V1 Γ.G H v ("__contains__":aJ)) with
 | none=>exact agz a.zero S hy hv
 | some f=>
  obtain rfl:=beq_iff_eq.mp (J9 h).1;obtain⟨x,c,ox,od,I,m1,m2⟩:=Ga Mo S hv (J9 h).2;refine(hF l A lk f [v,y] [] [] H ρ s [.ref x,uy] [] a S K (.mk _ _ hv (.mk _ _ hy rfl)) rfl).DN (W:=λv s' Q U=>(∃b,v= .bool b)∧∀tk,Q v {s' with toks:=tk}) (λQ E z=> ?_) λw cU aY aU CJ cQ cg hw=> .opt λk e=> .ok λQ E P=> ?_
  ·refine aj (bJ (aj (aj (I.type.here ((fD S.qJ m1).here ?_)))))
   refine pM (bk (by simp)) ?_;refine aj (unlessNone_K S.qJ I m1 (beq_iff_eq.mpr m2) (bH (ab9 z) (λv s' z=> ?_) λU U z=>z));obtain⟨⟨b,rfl⟩,z⟩:=z;exact aA (aA (z s'.toks))
  ·obtain rfl:=aY2 e
   obtain rfl:CJ= .bool k:=hw;exact⟨⟨k,rfl⟩,λtk=>P.ok cg rfl⟩
end
structure BV (Γ:Cx):Prop where
 fn:∀(l:List fP)(A:bO)(lk:List Nat)(b:String)(v:V)(H:Hp)(ρ:fj)(s:aW)(u:aD),∀J:jy A l 0,∀J:SR Γ ρ H s,∀J:VR Γ ρ s.heap v u,iY Γ l lk A ρ s (O7 H b v) (call (.builtin b) [u] []) (u6 Γ)
 ty:∀(l:List fP)(A:bO)(lk:List Nat)(b:String)(v:V)(H:Hp)(ρ:fj)(s:aW)(u:aD),∀J:jy A l 0,∀J:SR Γ ρ H s,∀J:VR Γ ρ s.heap v u,iY Γ l lk A ρ s (Lw H b v) (call (.type b) [u] []) (u6 Γ)
 lam:∀(n:Nat),∀J:(∀m k,U0 Γ n m k),∀(env:fP)(l:List fP)(A:bO)(φ:Fm)(i:aG)(H:Hp)(ρ:fj)(s:aW)(u:aD),∀J:jy A l (n+1),∀J:SR Γ ρ H s,∀J:FR Γ l ρ s.heap env φ.loc φ.cX,∀J:VR Γ ρ s.heap (.BK i) u,q7 Γ l φ.lk ρ s (callC Γ.G (o8 Γ.G n) φ i H) (λQ E=>Y5 Γ s.heap u∧aP Γ.M A (call u [] []) Q E s) (u6 Γ)
def aY3 (h:o6 Γ.G n lk a vs kn ks H=aa r):(Γ.G.fn a).isSome:=by
 cases n with
 | zero=>exact t7 h
 | succ n=>obtain⟨f,hf,_⟩:=Y9 h;refine aO hf ?_;rfl
def q7.keep {l:List fP}{lk:List Nat}{ρ:fj}{s:aW}{α β:Type}{r:Out α}{W:∀J:(PQ β),∀J:(PQ aD),Prop}{R:fj->bM->α->β->Prop}{p:Prop}(hp:p)(h:q7 Γ l lk ρ s r W R):q7 Γ l lk ρ s r (λQ E=>p∧W Q E) R:=h.of λU U w=>⟨hp,w⟩
def ac8 (h:one vs=aa v):vs= [v]:=by
 cases vs with
 | nil=>exact t7 h
 | cons a r=>
  cases r with
  | nil=>exact congrArg (·:: []) (ak h)
  | cons _ _=>exact t7 h
def Gb (h:kn.isEmpty=au):kn= []:=cj.mp h
def aLa (G:az9 Γ)(Mo:O9 Γ)(C:Wq Γ)(B:BV Γ)(hF:CK Γ n)(ih:∀m k,U0 Γ n m k):axu Γ n:=λenv l A φ fv vs ks kn H ρ s u us mG a S F hv iB hks=>by
 cases fv with
 | BK i=>
  refine .fu λh=> ?_;obtain rfl:=cj.mp (d8 h);obtain rfl:=Gb (m8 h);obtain rfl:=gD.nil iB;exact B.lam n ih env l A φ i H ρ s u a S F hv
 | gl v=>
  obtain rfl:u=v:=hv;cases u with
  | ref b=>
   cases hm:Γ.G.bW b ("__init__":aJ) with
   | some g=>
    rw[show Ih Γ.G (o8 Γ.G n) φ (.gl (.ref b)) vs kn ks H=Aa Γ.G (o8 Γ.G n) φ.lk b g vs kn ks H from show(match Γ.G.bW b ("__init__":aJ) with | some g=>Aa Γ.G (o8 Γ.G n) φ.lk b g vs kn ks H | none=>(o8 Γ.G n).f φ.lk b vs kn ks H)=_ from by rw[hm]];exact(Nt C Mo hF a hm S F.uc iB hks).keep ((C.keep b g hm).base S.base)
   | none=>
    rw[show Ih Γ.G (o8 Γ.G n) φ (.gl (.ref b)) vs kn ks H=o6 Γ.G n φ.lk b vs kn ks H from show(match Γ.G.bW b ("__init__":aJ) with | some g=>Aa Γ.G (o8 Γ.G n) φ.lk b g vs kn ks H | none=>(o8 Γ.G n).f φ.lk b vs kn ks H)=o6 Γ.G n φ.lk b vs kn ks H from by rw[hm]];exact λq H' ev Q E P=>⟨Jm G (aY3 ev) S.base,ab9 (hF l A φ.lk b vs ks kn H ρ s us mG a.pred S F.uc iB hks q H' ev Q E P)⟩
  | builtin b=>
   refine .fu λh=> .opt λv hv=> ?_;obtain rfl:=Gb h;obtain rfl:=ac8 hv;obtain⟨u,us,hu,hs⟩:=iB;obtain rfl:=gD.nil hs;exact q7.keep (keep_pure rfl) (aim Mo hF (B.fn l A φ.lk b v H ρ s u a.zero S hu) a S F.uc hu)
  | type b=>
   refine .fu λh=> .opt λv hv=> ?_;obtain rfl:=Gb h;obtain rfl:=ac8 hv;obtain⟨u,us,hu,hs⟩:=iB;obtain rfl:=gD.nil hs;exact q7.keep (keep_pure rfl) (ain Mo hF (B.ty l A φ.lk b v H ρ s u a.zero S hu) a S F.uc hu)
  | _=>exact .none
 | _=>exact .none
end
end Mine.Internal
end
section
namespace Mine.Internal
open PySem PySem.W PySem.Calls PyProof.Rows Builtin
variable {Γ:Cx}
structure Gd (M:Br)(h:bM)(C:aV):Prop where
 obj:∃oc od cd sl,h.get? C=aa ⟨oc,od,.cls cd,sl⟩∧cd.abstract=aC∧cd.hasDel=aC∧cd.mro.isEmpty=aC
 made:lC M h (Bind.madeBy (.ref C)) (aa "list.__new__")
 base:lC M h (Bind.staticBase (.ref C)) (.ref C)
 self:lC M h (pI (.ref C) (.ref C)) au
 top:lC M h (pI (.ref C) (.type "list")) au
 call:lC M h (specialOf (.ref C) "__call__") (aa (.builtin "type.__call__"))
 typ:lC M h (kh (.ref C) (.type "type")) au
def aM8 {K:aog}(e:Hv K C=aa cd):∃oc od sl,K.lookup C=aa ⟨oc,od,.cls cd,sl⟩:=by
 delta Hv at e;cases q:K.lookup C with
 | none=>replace e:=q▸e;exact iz e
 | some o=>
  rw[q]at e;obtain⟨oc,od,d,sl⟩:=o;cases d with
  | cls cd'=>exact⟨oc,od,sl,aO (ak e) rfl⟩
  | _=>exact iz e
def aA0 (h:(!b)=au):b=aC:=by
 cases b with
 | true=>exact h.symm
 | false=>rfl
def Nu {K:aog}(X:K.In h)(e:at8 K C=au):Gd M h C:=by
 obtain⟨u,e⟩:=bT.mp e;refine j5 e λo ho e=> ?_;refine j5 e λcd hc e=> ?_;refine I3 e λe U=> ?_;refine(aM8 hc).elim λoc q=>q.elim λod q=>q.elim λsl q=> ?_;obtain rfl:=ak (ho.symm.trans q);have hm:lC M h (mroOf (.ref C)) cd.mro:=(wR X hc).andThen .now;obtain⟨c,l,hl⟩:∃c l,cd.mro=c::l:=by
  cases q:cd.mro with
  | nil=>cases(congrArg List.isEmpty q).symm.trans (aA0 (m8 (d8 (d8 (d8 (d8 e))))))
  | cons c l=>exact⟨c,l,rfl⟩
 have made:lC M h (Bind.madeBy (.ref C)) (aa "list.__new__"):=by intro A Q E s k q;refine aj (hm A _ E s k ?_);refine aO hl ?_;rw[gK];refine aj (aj (aj (aj (kY (k _ _ (X _ _ ho)) (aA ?_)))));refine wj (cz) (aO (gM (m8 (d8 (d8 (d8 (d8 (d8 e))))))) ?_);exact aA (aA (aA q))
 refine⟨⟨oc,od,cd,sl,X _ _ ho,(aA0 (d8 (d8 (d8 (d8 (d8 (d8 (d8 e)))))))),(aA0 (m8 (d8 (d8 (d8 (d8 (d8 (d8 e)))))))),(aA0 (m8 (d8 (d8 (d8 (d8 e))))))⟩,made, ?_,qP X ?_,qP X ?_,looks_specialIn X (gM (m8 (d8 e))),looks_instIn X (gM (m8 e))⟩
 ·intro A Q E s k q
  refine aj (hm A _ E s k ?_);refine aO hl ?_;rw[gK];exact aj (aj (aj (made A _ E s k (aA (aA (aA q))))))
 ·delta RD;rw[hc,lY,bk (by rw[(aA0 (m8 (d8 (d8 (d8 (d8 e))))))];decide),(m8 (d8 (d8 (d8 e))))]
 ·delta RD;rw[hc,lY,bk (by rw[(aA0 (m8 (d8 (d8 (d8 (d8 e))))))];decide),(m8 (d8 (d8 e)))]
namespace Ln
def kind:gJ "list.__new__"=aa .builtinFn:=by decide+kernel
def split:xm "list.__new__"=aa ("list","__new__"):=by decide+kernel
def args (a:aD)(rest:List aD)(kw:List (aJ×aD)):yK "list.__new__" ⟨a::rest,kw⟩:=rfl
end Ln
section
variable {prog:oK}{w:vK}{A:bO}{K:aog}{C:aV}{R:PQ Ba}{h:bM}{g:Array zB}{d:Drawn}{t:Nat}{os:OsState}
def aA1 (Y:Gd (iG prog w) h C)
  (hq:R (.ok (.ret (.ref (h.objs.size+1)))) ⟨(h.push gG).push {cls:= .ref C,dict:=aa h.objs.size,data:= .seq #[]},g,d,t,os⟩):
  iw (iG prog w) A (.call (.builtin "list.__new__") ⟨.ref C::rest,kw⟩) R ⟨h,g,d,t,os⟩:=by
 obtain⟨⟨oc,od,cd,sl,hC,e1,e2,e4⟩,made,base,self,top,call,typ⟩:=Y;refine codeAny_call_builtin_code (wA _ (by decide+kernel)) ?_;delta Az;refine aO Ln.kind (aO Ln.split ?_);refine pM (bN (by decide)) ?_;refine aj (xR hC rfl ?_);refine pM (bk (by decide)) ?_;refine aj (top.here ?_);refine pM (bk (by decide)) ?_;refine aj (base.here ?_);refine aj (made.here ?_);refine pM (bk (by decide)) ?_;have fin:iw (iG prog w) A (.builtin "list.__new__" ⟨.ref C::rest,kw⟩) R ⟨h,g,d,t,os⟩:=by refine codeAny_builtin_stack PySem.F.entry_list_new rfl λp st=> ?_;dsimp only;refine aO owner_list_new ?_;refine aj (xR hC rfl ?_);refine pM (bk (by decide)) ?_;refine aj (top.here ?_);refine pM (bk (by decide)) ?_;refine aj (aA ?_);refine pM (bk (by simp [typeHasDict])) ?_;refine aj (fH ?_ (by size_fits));dsimp only;refine aj ?_;delta newObj;refine pM (bk (by decide)) ?_;refine aj (aot (aj (aj (HF (aZ _ (aZ _ hC)) (aA ?_)))));refine aO e2 ?_;refine aA (aA ?_);show R _ _;rw[mj];exact hq
 cases axb:lW "list.__new__" with
 | none=>exact aA fin
 | some sig=>
  have:=Ln.args (.ref C) rest kw;simp only[yK,axb]at this;dsimp only;exact aO this (aA fin)
def Ww (Y:Gd (iG prog w) h C)(hi:lC (iG prog w) h (HN (.ref C) "__init__") (aa init))(hb:∀self,lC (iG prog w) h (bindSpecial init self) (init, [self]))
  (hq:iw (iG prog w) (A.under (.builtin "type.__call__" ⟨.ref C::rest,kw⟩)) (.call init ⟨.ref (h.objs.size+1)::rest,kw⟩) (InitBack (h.objs.size+1) R) ⟨(h.push gG).push {cls:= .ref C,dict:=aa h.objs.size,data:= .seq #[]},g,d,t,os⟩):
  iw (iG prog w) A (.call (.ref C) ⟨rest,kw⟩) R ⟨h,g,d,t,os⟩:=by
 have Y':=Y;obtain⟨⟨oc,od,cd,sl,hC,e1,e2,e4⟩,made,base,self,top,call,typ⟩:=Y;refine Dw ?_;refine nd_load hC ?_;show aP _ _ (callAny.viaDunder (.ref C) _) _ _ _;refine aj (call.at ?_);dsimp only;rw[tc_bind];refine aj (aA (aj (aA ?_)));refine aA (a:=Fin.again (.call (.builtin "type.__call__") ⟨.ref C::rest,kw⟩)) (And.intro rfl ?_);refine codeAny_call_builtin_at (wA _ (by decide+kernel)) entry_typeCall (check_slot tc_kind tc_split typ (tc_args _ _ _) ?_);have hm:lC (iG prog w) h (mroOf (.ref C)) cd.mro:=((uP hC).andThen .now).andThen .now
 repeat (first | simp only[e4,RN,if_false] | with_reducible refine mZ ?_ | lk)
 refine aA1 Y' ?_;have k:∀b o,∀J:h.get? b=aa o,((h.push gG).push {cls:= .ref C,dict:=aa h.objs.size,data:= .seq #[]}).get? b=aa o:=λb o e=>aZ _ (aZ _ e);have hx:((h.push gG).push {cls:= .ref C,dict:=aa h.objs.size,data:= .seq #[]}).get? (h.objs.size+1)=aa {cls:= .ref C,dict:=aa h.objs.size,data:= .seq #[]}:=by heap_get
 have t1:lC (iG prog w) ((h.push gG).push {cls:= .ref C,dict:=aa h.objs.size,data:= .seq #[]}) (vp (.ref (h.objs.size+1))) (.ref C):=(uP hx).andThen .now;have s1:=self.keeps k;have i1:=hi.keeps k;have b1:=(hb (.ref (h.objs.size+1))).keeps k
 repeat (first | with_reducible refine mZ ?_ | lk)
 refine zH hq λr s' z=> ?_;rcases r with e | (v | _ | _ | _)<;>first | exact z | exact z.elim | skip
 obtain⟨rfl,z⟩:=z;exact aA (aA z)
end
structure Wx (Γ:Cx):Prop where
 acc:at8 Γ.K Γ.G.gh=au
 makes:∀c g,∀J:Γ.G.bW c "__init__"=aa g,∀J:c≠Γ.G.gh,zy Γ.K c=au
 keep:∀c g,∀J:Γ.G.bW c "__init__"=aa g,Y5 Γ Γ.g0 (.ref c)
def a8g (Mo:O9 Γ)(K:Wx Γ):Wq Γ where
 makes:=K.makes
 keep:=K.keep
 acc:=λg hg A rest kw R s X hd h=>by refine HY (Mo.bW _ _ g hg) λm1 m2 m3=> ?_;obtain⟨hh,gg,d,t,os⟩:=s;exact Ww (Nu X K.acc) (fD X m1) (λself=>bind_fn X self m2) h
end Mine.Internal
end
section
namespace Mine.Internal
open PySem PySem.W PySem.Calls PyProof.Rows
variable {Γ:Cx}
namespace RE
open Sre
structure qi (code:Array Nat)(pc:Nat)(bad:Nat->Bool):Prop where
 one:∀c seen,∃rR,inSet code c code.size 5 au seen= .ok (bad c,rR)
 two:∀c seen,∃rR,accepts code pc c seen= .ok (bad c,rR)
 lt:pc<code.size
 lt2:pc+itemWidth code pc<code.size
 op:ops[code.getD pc 0]?=aa .IN
 op2:ops[code.getD (pc+itemWidth code pc) 0]?=aa .SUCCESS
 first:∀m:M,∀J:m.code=code,m.hasFirstSet=au
noncomputable def m0 (code text:Array Nat)(pc:Nat):M:={code,text,lim:=text.size,start:=0,pc,pos:=0,handed:=0,marks:= #[],seen:=({}:oY).add 14}
structure yC (code:Array Nat)(pc:Nat):Prop where
 eq:∀text,forSearch code text 0 0 text.size aC=if (decide (0>text.size) || decide (text.size-0<1))=au then(m0 code text pc).say aC else({m0 code text pc with lastStart:=text.size}:M).attemptFrom 0 au
inductive Adm (bad:Nat->Bool)(m:M)(fuel s:Nat)(seen:oY):Prop
 | no (s2:oY) (e:m.admitted fuel s seen= .ok (aB,s2)) (k:∀j,∀J:s≤j,∀J:j<m.lim,bad (m.text.getD j 0)=aC)
 | yes (j:Nat) (s2:oY) (e:m.admitted fuel s seen= .ok (aa j,s2)) (h1:s≤j) (h2:j<m.lim) (h3:bad (m.text.getD j 0)=au)
def adm {code:Array Nat}{bad:Nat->Bool}(C:qi code pc bad)(hm:m.code=code)(fuel:Nat):∀s seen,∀J:m.lim-s<fuel,∀J:s≤m.lim,Adm bad m fuel s seen:=by
 induction fuel with
 | zero=>exact λs seen h U=>absurd h (uA _)
 | succ fuel ih=>
  intro s seen h hs;by_cases hl:s≥m.lim
  ·exact .no seen (bN hl) λj h1 h2=>absurd (aM h2 hl) (ady.mpr h1)
  ·obtain⟨rR,e⟩:=C.one (m.text.getD s 0) seen
   have e0:m.admitted (fuel+1) s seen=if bad (m.text.getD s 0) then .ok (aa s,rR) else m.admitted fuel (s+1) rR:=by refine(bk hl).trans ?_;refine aO hm (aO e ?_);cases bad (m.text.getD s 0)<;>rfl
   cases hb:bad (m.text.getD s 0) with
   | true=>exact .yes s rR (by refine aO e0 (aO hb ?_);rfl) (aN _) (gR hl) hb
   | false=>
    have e1:m.admitted (fuel+1) s seen=m.admitted fuel (s+1) rR:=by refine aO e0 (aO hb ?_);rfl
    cases ih (s+1) rR (aM (Nat.sub_succ_lt_self _ _ (gR hl)) (cZ h)) (gR hl) with
    | no s2 e2 k=>exact .no s2 (e1.trans e2) λj h1 h2=>(Nat.eq_or_lt_of_le h1).elim (λq=>q▸hb) λq=>k j q h2
    | yes j s2 e2 h1 h2 h3=>exact .yes j s2 (e1.trans e2) (dB h1) h2 h3
def aG5 (m:M)(n:Nat)(h:m.outcome.isSome=au):m.runFor n=m:=by
 cases n with
 | zero=>rfl
 | succ n=>exact bN h
def ak9 (m:M)(n:Nat)(h:m.outcome=aB):m.runFor (n+1)=m.step.runFor n:=bk (by refine aO h ?_;decide)
def aM9 (m:M)(h:m.outcome=aB)(ha:m.answer=aB)(hl:m.pc<m.code.size):m.step=m.exec:=by delta M.step;refine aO (bk (by refine aO h ?_;exact aR)) (aO ha ?_);simp only;exact aO (bN hl) rfl
def Wy (m:M)(hf:m.frames= [])(ho:m.outcome=aB):∃m',(m.say aC).runFor 4=m'∧m'.outcome=aa .failed:=by
 refine⟨_,rfl, ?_⟩;refine aO (ak9 _ _ (by exact ho)) ?_;have:(m.say aC).step={m.say aC with outcome:=aa .failed}:=by delta M.step;refine aO (bk (by refine aO ho ?_;decide)) ?_;show(match aa aC,m.frames with | some yes, []=>_ | some yes,f::rest=>_ | none,_=>_)=_;rw[hf];rfl
 exact aO this (aO (aG5 _ _ rfl) rfl)
def mL (code text:Array Nat)(pc:Nat):M:={m0 code text pc with lastStart:=text.size}
def m1 (code text:Array Nat)(pc j:Nat)(s:oY):M:={mL code text pc with seen:=s,start:=j,pos:=j,handed:=j,frames:= [{wait:= .nextStart,pc,pos:=j,outermost:=au}],weight:=1}
def m2 (code text:Array Nat)(pc j q:Nat)(s t:oY):M:={m1 code text pc j s with seen:=t,pc:=q,pos:=j+1}
def m3 (code text:Array Nat)(pc j q:Nat)(s t u:oY):M:=({m2 code text pc j q s t with seen:=u,handed:=j+1}:M).say au
section
variable {code text:Array Nat}{pc j q:Nat}{bad:Nat->Bool}{s t u:oY}
def a8i (C:qi code pc bad)(hj:j<text.size)(e:accepts code pc (text.getD j 0) (s.add (code.getD pc 0))= .ok (au,t)):(m1 code text pc j s).step=m2 code text pc j (pc+itemWidth code pc) s t:=by rw[aM9 (m1 code text pc j s) rfl rfl C.lt];show(match ops[code.getD (pc+0) 0]? with | none=>_ | some op=>_)=_;rw[xT,C.op];show(if j≥text.size then _ else(match accepts code pc (text.getD j 0) (s.add (code.getD (pc+0) 0)) with | .error why=>_ | .ok (aC,seen)=>_ | .ok (au,seen)=>_))=_;rw[bk (tR hj),xT,e];rfl
def a8j (hl:q<code.size)(ho:ops[code.getD q 0]?=aa .SUCCESS):(m2 code text pc j q s t).step=m3 code text pc j q s t (t.add (code.getD q 0)):=by rw[aM9 (m2 code text pc j q s t) rfl rfl hl];show(match ops[code.getD (q+0) 0]? with | none=>_ | some op=>_)=_;rw[xT,ho];rfl
def a8k (m:M)(ha:m.answer=aa au)(hf:m.frames= [])(ho:m.outcome=aB):m.step={m with outcome:=aa .matched}:=by delta M.step;refine aO (bk (by refine aO ho ?_;decide)) (aO ha (aO hf ?_));rfl
def aip (C:qi code pc bad)(hj:j<text.size)(hb:bad (text.getD j 0)=au):((m1 code text pc j s).runFor 4).outcome=aa .matched:=by refine pN (C.two (text.getD j 0) (s.add (code.getD pc 0))) λt e=> ?_;rw[hb]at e;refine aO (ak9 _ _ rfl) (aO (a8i C hj e) (aO (ak9 _ _ rfl) (aO (a8j C.lt2 C.op2) (aO (ak9 _ _ rfl) ?_))));refine uG λY Z=> ?_;obtain⟨m4,e4,a4,f4,o4⟩:=(show∃m4:M,(m3 code text pc j (pc+itemWidth code pc) s t (t.add (code.getD (pc+itemWidth code pc) 0))).step=m4∧m4.answer=aa au∧m4.frames= []∧m4.outcome=aB from⟨_,rfl,rfl,rfl,rfl⟩);exact Z (aO e4 (aO (ak9 _ _ o4) (aO (a8k m4 a4 f4 o4) (aO (aG5 _ _ rfl) rfl))))
def Wz:text.toList.any bad=au↔∃j,j<text.size∧bad (text.getD j 0)=au:=by
 rw[jW];constructor
 ·rintro⟨c,hc,hb⟩
  obtain⟨j,hj,rfl⟩:=Array.mem_iff_getElem.mp (HQ.mp hc);exact⟨j,hj,by rw[←Ep];exact hb⟩
 ·rintro⟨j,hj,hb⟩
  exact⟨text[j],HQ.mpr (Array.getElem_mem hj),by rw[←Ep]at hb;exact hb⟩
def an2 (k:∀j,∀J:j<text.size,bad (text.getD j 0)=aC):text.toList.any bad=aC:=eF.mpr λq=>(Wz.mp q).elim λj z=>aR ((k j z.1).symm.trans z.2)
theorem attempt (C:qi code pc bad):∃m',((mL code text pc).attemptFrom 0 au).runFor 4=m'∧m'.outcome=aa (if text.toList.any bad then .matched else .failed):=by
 delta M.attemptFrom;refine aO (C.first _ rfl) (aO (bk (by decide)) ?_);cases(adm C (m:=mL code text pc) rfl (text.size+1-0) 0 (({}:oY).add 14) (aN _) (bR _)) with
 | no s2 e k=>
  exact aO e (aO (an2 λj=>k j (bR _)) (Wy _ rfl rfl))
 | yes j s2 e h1 h2 h3=>
  refine aO e (aO (Wz.mpr ⟨j,h2,h3⟩) ?_);refine⟨_,rfl, ?_⟩;have a1:(M.attemptAt {mL code text pc with mustAdvance:=aC,seen:=s2} j au)=m1 code text pc j s2:=by unfold M.attemptAt M.attempt;refine aO (bk (by show¬(0+1+0>16777216);decide)) ?_;rfl
  exact aO a1 (aip C h2 h3)
end
def Ge {code:Array Nat}{bad:Nat->Bool}(C:qi code pc bad)(S:yC code pc)(text:Array Nat):∃m',(forSearch code text 0 0 text.size aC).runFor 4=m'∧m'.outcome=aa (if text.toList.any bad then .matched else .failed):=by
 rw[S.eq];by_cases h0:text.size<1
 ·refine aO (bN (by simp only[lr,decide_eq_true_eq,decide_eq_true_eq];exact .inr h0)) (aO (an2 λj hj=>absurd hj (bZ (aq (cZ h0) (bR _)))) ?_)
  exact Wy (m0 code text pc) rfl rfl
 ·refine aO (bk (by simp only[lr,decide_eq_true_eq,decide_eq_true_eq];exact λq=>q.elim (uA _) h0)) ?_
  exact attempt C
end RE
section
variable {M:Br}{A:bO}{E:PQ aD}{s:aW}
open Builtin.Re
def Nv {b:Nat->Bool}{t:Nat->String}(h:Q ⟨⟩ s):∀(l:List Nat),aP M A (forIn l tU λi U=>(if b i=au then(do Du (t i);pure (ji tU)) else pure (ji tU):Sem (ForInStep PUnit))) Q E s:=by
 intro zz
 induction zz with
 | nil=>
  exact aA h
 | cons i l ih=>
  rw[gK];refine aj ?_
  split
  ·exact aj (lG (aA (ih)))
  ·exact aA (ih)
def a8l (hm:m.runFor 4=m')(ho:m'.outcome=aa o)(h1:∀J:o= .matched,Q (aa m') s)(h2:∀J:o= .failed,Q aB s)(h3:∀w,o≠ .stuck w):aP M A (reRunToEnd m) Q E s:=by
 delta reRunToEnd;have d:reDrive (2^64) m=pure m':=by unfold reDrive;show(if (m.runFor 4).outcome.isSome=au then pure (m.runFor 4) else _)=_;refine aO hm (aO ho ?_);rfl
 refine aO d ?_;refine aj (aA ?_);refine aj (Nv ?_ _);refine aO ho ?_;cases o with
 | matched=>exact aA (h1 rfl)
 | failed=>exact aA (h2 rfl)
 | stuck w=>exact absurd rfl (h3 w)
def aD3:Slot "re.Pattern" "search" "re.Pattern.search":=
 .of (owner:="re.Pattern") (n:="search") (by rw[lR,iI];kernel_rfl) (by decide+kernel) (by decide+kernel) (by decide+kernel)
  (by first | exact .inl (by decide+kernel) | exact .inr (by decide+kernel)) (by rw[iy];kernel_rfl)
def aW6:vp (.builtin "re.Pattern.search")=pure (.type "method_descriptor"):=by refine aO xU ?_;kernel_rfl
def aR5:zE table "re.Pattern.search"=aa fB.«re.Pattern.search»:=Bc rfl
def aW7 (a b:aD):yK "re.Pattern.search" ⟨[a,b], []⟩:=rfl
def aP0:PlainAttrs "re.Pattern":=
 ⟨⟨"object.__getattribute__",by rw[lR,iI];kernel_rfl,by decide+kernel⟩,by rw[lR,iI];kernel_rfl⟩
def aA2 (h:bM)(a:aV)(code:Array Nat):Prop:=∃o vs t cs n ot,h.get? a=aa o∧o.cls= .type "re.Pattern" ∧o.dict=aB∧o.data= .fields vs∧reRawNat (vs.getD 2 .none)=0∧reRawNat (vs.getD 6 .none)=0∧vs.getD 5 .none= .ref t∧h.get? t=aa ot∧ot.data= .seq cs n∧(cs.map reRawOf).map (·.toNat)=code
def aY4 {code:Array Nat}(hp:aA2 s.heap a code)(hx:x.length≤16777216)
  (h:Q {pattern:= .ref a,string:= .str x t,code,text:=x.cps,kind:=0,groups:=0,pos:=0,lim:=x.cps.size} s):aP M A (reTarget "re.Pattern.search" "search" ⟨[.ref a,.str x t], []⟩) Q E s:=by
 refine uG λY Z=> ?_;obtain⟨o,vs,tt,cs,n,ot,ho,hc,_,hd,h2,h6,h5,hot,DP,sW⟩:=hp;refine Z ?_;show aP _ _ (reNamed "re.Pattern.search" "search" ["string","pos","endpos"] 1 [.str x t] []>>=_) _ _ _;refine aO (show reNamed "re.Pattern.search" "search" ["string","pos","endpos"] 1 [.str x t] []=pure [aa (.str x t),aB,aB] from rfl) ?_;refine aj (aA ?_);refine aj (aA ?_);refine aj (aA ?_);refine aj (HR ho hd ?_);refine aj (aA ?_);refine aO h6 (pM (bk (by decide)) ?_);refine pM (bk (by decide)) ?_;refine aj (aA ?_);refine aO h5 (aO h2 ?_);refine aj (aj (nq hot DP (aA ?_)));refine aA ?_;have e3:min (2^63-1:Int).toNat x.cps.size=x.cps.size:=by have:x.cps.size≤16777216:=hx;refine aO (show(2^63-1:Int).toNat=9223372036854775807 from by decide) ?_;exact aou (aq this (by decide))
 show Q ⟨.ref a,.str x t,(cs.map reRawOf).map (·.toNat),x.cps,0,0,min (0:Int).toNat x.cps.size,min (2^63-1:Int).toNat x.cps.size⟩ s;refine aO (show min (0:Int).toNat x.cps.size=0 from rfl) (aO e3 (aO sW ?_));exact h
end
section
variable {prog:oK}{w:vK}{A:bO}{E:PQ aD}{s:aW}
open Builtin.Re
def aY5 {code:Array Nat}{bad:Nat->Bool}(hp:aA2 s.heap a code)(C:RE.qi code pc bad)(S:RE.yC code pc)(hx:x.length≤16777216)
  (hy:∀J:x.cps.toList.any bad=au,∀m h' o,∀J:(∀b o,∀J:s.heap.get? b=aa o,h'.get? b=aa o),∀J:h'.get? m=aa o,∀J:o.cls= .type "re.Match",∀J:(∃fs,o.data= .fields fs),Q (.ref m) {s with heap:=h'}) (hn:∀J:x.cps.toList.any bad=aC,Q .none s):
  aP (iG prog w) A (call (.builtin "re.Pattern.search") [.ref a,.str x t]) Q E s:=by
 have hT:s.TypeIs (.ref a) "re.Pattern":=by obtain⟨o,_,_,_,_,_,ho,hc,_⟩:=hp;exact⟨o,ho,hc⟩
 refine iQ aD3 hT aR5 ?_ (aW7 _ _);refine aj (aY4 hp hx ?_);refine oG (RE.Ge C S x.cps) λm' e1 e2=> ?_;refine aj (a8l e1 e2 (λe=> ?_) (λe=> ?_) λw e=> ?_)
 ·have hb:x.cps.toList.any bad=au:=by
   cases q:x.cps.toList.any bad with
   | true=>rfl
   | false=>rw[q]at e;cases e
  refine aj ?_;refine aj (wpAny_newTuple ?_ (aO gV (Lj rfl)));refine fH ?_;refine aA ⟨_,rfl,hy hb _ _ _ (λb o e=>aZ _ (aZ _ e)) (bx _ rfl) rfl ⟨_,rfl⟩⟩
 ·have hb:x.cps.toList.any bad=aC:=by
   cases q:x.cps.toList.any bad with
   | false=>rfl
   | true=>rw[q]at e;cases e
  exact aA ⟨_,rfl,hn hb⟩
 ·cases q:x.cps.toList.any bad<;>rw[q]at e<;>cases e
end
end Mine.Internal
end
section
namespace Mine.Internal
open PySem PySem.W PySem.Calls PyProof.Rows
open PySem.AutoSeq1 (wpAny_loadPart')
variable {Γ:Cx}{n m:Nat}{k:Kd}
section
variable {prog:oK}{w:vK}{A:bO}{E:PQ aD}{s:aW}
def WD (hh:A.handled=aB)(hit:s.heap.IsTupleIter it t i)(ht:s.heap.IsTuple t items)
  (h1:∀x h',∀J:items[i]?=aa x,∀J:h'.IsTupleIter it t (i+1),∀J:jE it s.heap h',F (.done (.ret x)) {s with heap:=h'})
  (h2:∀J:items[i]?=aB,∀h' e,∀J:yM it s.heap h',∀J:(∃o,h'.get? e=aa o∧o.cls= .type "StopIteration"),E' (.ref e) {s with heap:=h'}):
  aP (iG prog w) A (fB.«tuple_iterator.__next__» ⟨[.ref it], []⟩) F E' s:=by
 refine Su (id hit) λo ho hc hd=> ?_;obtain⟨ol,hol,_,nl,hdl⟩:=ht;show aP _ _ (field (.ref it) 0>>=_) _ _ s;refine aj (fQ ho hd (x:= .ref t) rfl ?_);refine aO (bk aR) ?_;refine aj (fQ ho hd (x:= .int i 0) rfl ?_);refine aj (nq hol hdl ?_);cases hx:items[i]? with
 | some x=>
  simp only[lK,hx];refine aj (pX ho hd (by simp) (aA (h1 x _ hx ?_ (oZ ..))));exact⟨_,jl _ ho (uQ (kZ hd _)),(afi ..).trans hc,by
   rw[kZ hd];simp [kW]⟩
 | none=>
  simp only[lK,hx];refine aj (lG (aj (pX ho hd (by simp) ?_)));refine aj ?_;refine aj (fH ?_ (by size_fits));refine aj (gj (a:=tQ) (by first | rfl | (rfl)) ?_);refine fH ?_ (by size_fits);exact aj (wpAny_handled (aO hh (aj (aA (wpAny_throw (h2 hx _ _ (((oZ ..).extBut.push _).push _) ⟨_,bx _ rfl,rfl⟩))))))
def aR6 (hh:A.handled=aB)(hit:s.heap.IsTupleIter it t i)(ht:s.heap.IsTuple t items)
  (h1:∀x h',∀J:items[i]?=aa x,∀J:h'.IsTupleIter it t (i+1),∀J:jE it s.heap h',Q x {s with heap:=h'})
  (h2:∀J:items[i]?=aB,∀h' e,∀J:yM it s.heap h',∀J:(∃o,h'.get? e=aa o∧o.cls= .type "StopIteration"),E (.ref e) {s with heap:=h'}):
  aP (iG prog w) A (afj (.ref it)) Q E s:=by
 refine aj (pF hit.typeIs vZ (iQ vZ hit.typeIs PySem.F.entry_tuple_iterator_next ?_ (PySem.F.args_tuple_iterator_next_1 _)));exact WD hh hit ht (λx h' hx hi hs=>⟨x,rfl,aA (h1 x h' hx hi hs)⟩) h2
def Nx (hh:A.handled=aB)(it t:aV)(vg:t≠it)(items:Array aD):Draws prog w A it [it,t] items.size (λi v=>items[i]?=aa v) (λi h=>h.IsTupleIter it t i∧h.IsTuple t items) where
 live:=λU U st=>let ⟨o,ho,_⟩:=st.1;⟨o,ho⟩
 frame:=λU U U st hk=>by obtain⟨⟨o,ho,r⟩,o',uf,r'⟩:=st;exact⟨⟨o,hk it (by simp) o ho,r⟩,o',hk t (by simp) o' uf,r'⟩
 item:=λi s Q E hi st hQ=>aR6 hh st.1 st.2 (λx h' hx axy Jp=>hQ x h' s.toks hx ⟨axy,st.2.extBut Jp.extBut vg⟩ Jp) λhx=>by simp [hi]at hx
 done:=λs Q E st hE=>aR6 hh st.1 st.2 (λx h' hx=>by simp at hx) λU=>hE
set_option tactic.hygienic true in
set_option maxHeartbeats 1000000 in
def aR7 (l:aV)(items:Array aD)(n:Nat)(vD:Option aV)(sl:Array (Option aD)):
  Meets (fB.«enumerate.__new__» ⟨[.type "enumerate",.ref l], []⟩) (λU R s=>s.heap.get? l=aa {cls:= .type "tuple",dict:=vD,data:= .seq items n,slots:=sl}∧
   R (.ok (.ret (.ref (s.heap.push {cls:= .type "tuple_iterator",data:= .fields #[.ref l,.int 0 0]}).objs.size)))
    {s with heap:=(s.heap.push {cls:= .type "tuple_iterator",data:= .fields #[.ref l,.int 0 0]}).push {cls:= .type "enumerate",data:= .fields #[.none,.bool aC,.ref s.heap.objs.size,kW 0,.none,.none]}}):=
 .of_wp λprog w A R s h=>by
  obtain⟨hp,g,d,tk,os⟩:=s;obtain⟨hl,h⟩:=h;have bbx:=sub_enumerate;have hL:Heap.IsTuple (Shared.heap ⟨hp,g,d,tk,os⟩) l items:=⟨_,hl,rfl,n,rfl⟩
  wp_walk using rF hl
  refine wpAny_stack_any λst=>aA ?_
  split
  ·rename_i c _ _ _ _ _
   cases(c==jh "enumerate")
   ·wp_walk using rF hl,sO hL
    exact⟨_,rfl,h⟩
   ·wp_walk using rF hl,sO hL
    exact⟨_,rfl,h⟩
  ·wp_walk using rF hl,sO hL
   exact⟨_,rfl,h⟩
def aP1 (hl:s.heap.get? l=aa {cls:= .type "tuple",data:= .seq items n})
  (h:∀h',∀J:IsEnum h' (s.heap.objs.size+1) s.heap.objs.size 0 .none,∀J:h'.IsTupleIter s.heap.objs.size l 0,∀J:h'.objs.size=s.heap.objs.size+2,∀J:(∀b o,∀J:s.heap.get? b=aa o,h'.get? b=aa o),Q (.ref (s.heap.objs.size+1)) {s with heap:=h'}):
  aP (iG prog w) A (call (.type "enumerate") [.ref l]) Q E s:=by
 refine callType_new PySem.F.called_enumerate (by decide) (PySem.F.typeCall_enumerate_1 _) (PySem.F.newCall_enumerate_1 _) (λobj=>PySem.F.args_object_init_2 obj _) PySem.F.entry_enumerate_new (aR7 l items n aB #[]) ⟨hl, ?_⟩;have hz:(s.heap.push {cls:= .type "tuple_iterator",data:= .fields #[.ref l,.int 0 0]}).objs.size=s.heap.objs.size+1:=mj ..;refine aO hz ?_;have he:IsEnum ((s.heap.push {cls:= .type "tuple_iterator",data:= .fields #[.ref l,.int 0 0]}).push {cls:= .type "enumerate",data:= .fields #[.none,.bool aC,.ref s.heap.objs.size,kW 0,.none,.none]}) (s.heap.objs.size+1) s.heap.objs.size 0 .none:=by have:=bx (s.heap.push {cls:= .type "tuple_iterator",data:= .fields #[.ref l,.int 0 0]}) (o:={cls:= .type "enumerate",data:= .fields #[.none,.bool aC,.ref s.heap.objs.size,kW 0,.none,.none]}) rfl;rw[hz]at this;exact this
 exact⟨⟨_,he,rfl⟩,h _ he ⟨_,aZ _ (bx _ rfl),rfl,rfl⟩ (by rw[mj,hz]) λb o x=>aZ _ (aZ _ x)⟩
end
end Mine.Internal
end
section
namespace Mine.Internal
open PySem PySem.W PySem.Calls PyProof.Rows
section
variable {Γ:Cx}
namespace Sp
def aA3:Slot "wrapper_descriptor" "__get__" "wrapper_descriptor.__get__":= .of (owner:="wrapper_descriptor") (n:="__get__") (by rw[lR,iI];kernel_rfl) (by decide+kernel) (by decide+kernel) (by decide+kernel)
 (by first | exact .inl (by decide+kernel) | exact .inr (by decide+kernel)) (by rw[iy];kernel_rfl)
def Jq:Slot "method_descriptor" "__get__" "method_descriptor.__get__":= .of (owner:="method_descriptor") (n:="__get__") (by rw[lR,iI];kernel_rfl) (by decide+kernel) (by decide+kernel) (by decide+kernel)
 (by first | exact .inl (by decide+kernel) | exact .inr (by decide+kernel)) (by rw[iy];kernel_rfl)
def aR8:zE table "wrapper_descriptor.__get__"=aa fB.«wrapper_descriptor.__get__»:=Bc rfl
def WK:zE table "method_descriptor.__get__"=aa fB.«method_descriptor.__get__»:=Bc rfl
def Jr (a b c:aD):yK "wrapper_descriptor.__get__" ⟨[a,b,c], []⟩:=rfl
def aiq (a b c:aD):yK "method_descriptor.__get__" ⟨[a,b,c], []⟩:=rfl
def Js:vp (.builtin "list.__init__")=pure (.type "wrapper_descriptor"):=by refine aO xU ?_;kernel_rfl
def WL:vp (.builtin "list.__len__")=pure (.type "wrapper_descriptor"):=by refine aO xU ?_;kernel_rfl
variable {M:Br}{A:bO}{E:PQ aD}{s:aW}{x C:aV}{Q:PQ Fin}
def aY6 (h:Q (.done (.ret (.ref s.heap.objs.size))) {s with heap:=s.heap.push {cls:= .type bt,data:= .fields vs.toArray}})(hb:vs.length<20:=by decide):aP M A (do ret (←newFields bt vs)) Q E s:=aj (fH (aA h) (by size_fits))
def ax4 {nm:aJ}(hi:lC M s.heap (kh (.ref x) (.type "list")) au)(h:Q (.done (.ret (.ref s.heap.objs.size))) {s with heap:=s.heap.push {cls:= .type bt,data:= .fields #[d,.ref x]}}):
  aP M A (do (do let (_,cls)←(pure (nm,.type "list"):Sem (aJ×aD));if !(←kh (.ref x) cls) then R);ret (←newFields bt [d,.ref x])) Q E s:=
 aj (aj (aA (aj (hi.here (aA (aY6 h (by simp)))))))
def WM (hi:lC M s.heap (kh (.ref x) (.type "list")) au)(h:Q (.done (.ret (.ref s.heap.objs.size))) {s with heap:=s.heap.push {cls:= .type "method-wrapper",data:= .fields #[.builtin "list.__init__",.ref x]}}):
  aP M A (fB.«wrapper_descriptor.__get__» ⟨[.builtin "list.__init__",.ref x,.ref C], []⟩) Q E s:=aj (gj rfl (ax4 (nm:="__init__") hi h))
def air (hi:lC M s.heap (kh (.ref x) (.type "list")) au)(h:Q (.done (.ret (.ref s.heap.objs.size))) {s with heap:=s.heap.push {cls:= .type "method-wrapper",data:= .fields #[.builtin "list.__len__",.ref x]}}):
  aP M A (fB.«wrapper_descriptor.__get__» ⟨[.builtin "list.__len__",.ref x,.ref C], []⟩) Q E s:=aj (gj rfl (ax4 (nm:="__len__") hi h))
def ais (hi:lC M s.heap (kh (.ref x) (.type "list")) au)(h:Q (.done (.ret (.ref s.heap.objs.size))) {s with heap:=s.heap.push {cls:= .type "builtin_function_or_method",data:= .fields #[.builtin "list.pop",.ref x]}}):
  aP M A (fB.«method_descriptor.__get__» ⟨[.builtin "list.pop",.ref x,.ref C], []⟩) Q E s:=by
 refine aj (gj rfl ?_);exact pM (bk (by decide+kernel)) (ax4 (nm:="pop") hi h)
structure Binds (Γ:Cx)(x C:aV)(id bt:String):Prop where
 ty:∃dt g,vp (.builtin id)=pure (.type dt)∧HN (.type dt) "__get__"=pure (aa (.builtin g))∧∀{A:bO}{s:aW}{Q:PQ aD}{E:PQ aD},∀J:lC Γ.M s.heap (kh (.ref x) (.type "list")) au,∀J:Q (.ref s.heap.objs.size) {s with heap:=s.heap.push {cls:= .type bt,data:= .fields #[.builtin id,.ref x]}},aP Γ.M A (call (.builtin g) [.builtin id,.ref x,.ref C]) Q E s
def Gf:Binds Γ x C "list.__init__" "method-wrapper":=⟨_,_,Js,aA3.lookup,λhi h=>iQ aA3 Js aR8 (WM hi ⟨_,rfl,h⟩) (Jr _ _ _)⟩
def Ny:Binds Γ x C "list.__len__" "method-wrapper":=⟨_,_,WL,aA3.lookup,λhi h=>iQ aA3 WL aR8 (air hi ⟨_,rfl,h⟩) (Jr _ _ _)⟩
def Nz:Binds Γ x C "list.pop" "builtin_function_or_method":=⟨_,_,tV,Jq.lookup,λhi h=>iQ Jq tV WK (ais hi ⟨_,rfl,h⟩) (aiq _ _ _)⟩
end Sp
section
variable {A:bO}{E:PQ aD}{s:aW}{x C D so:aV}{id bt:String}{name:aJ}
def WN (B:Sp.Binds Γ x C id bt)(hi:lC Γ.M s.heap (kh (.ref x) (.type "list")) au)
  (DW:s.heap.get? so=aa (ks_superObj D x C)) (ho:ado Γ.K aoh "thirdparty.any"=aa aB) (hC:lC Γ.M s.heap (mroOf (.ref C)) l) (X:Γ.K.In s.heap)
  (hf:alongIn Γ.K name ((l.dropWhile (· != .ref D)).drop 1)=aa (aa (.builtin id))) (hxC:x≠C) (hn:(name==("__class__":aJ))=aC)
  (h:Q (.done (.ret (.ref s.heap.objs.size))) {s with heap:=s.heap.push {cls:= .type bt,data:= .fields #[.builtin id,.ref x]}}):
  aP Γ.M A (fB.«super.__getattribute__» ⟨[.ref so,.str name tk], []⟩) Q E s:=by
 obtain⟨dt,g,h1,h2,h3⟩:=B.ty;obtain⟨hp,gs,d,t,os⟩:=s;show aP _ _ (field (.ref so) 0>>=_) Q E _;refine aj (fQ DW rfl (show(#[.ref D,.ref x,.ref C]:Array aD)[0]?=aa (.ref D) from rfl) ?_);refine aj (fQ DW rfl (show(#[.ref D,.ref x,.ref C]:Array aD)[1]?=aa (.ref x) from rfl) ?_);refine aj (fQ DW rfl (show(#[.ref D,.ref x,.ref C]:Array aD)[2]?=aa (.ref C) from rfl) ?_);refine aO hn ?_;rw[jL];refine aO (bk (by simp)) ?_;refine aj (ks_wpAny_notOpaque (looks_opaque X ho) ?_);refine aO (bk (by simp)) ?_;refine aj (hC.here ?_);refine aj (ks_forIn_along X (λU U=>rfl) rfl ?_ hf);exact aj (gj h1 (aj (gj h2 (aO (show(Bu x==Bu C)=aC from by simp [hxC]) (aO (bk (by simp)) (aj (bJ (h3 hi (aj (aA (aA (aA h))))))))))))
def NB (B:Sp.Binds Γ x C id bt)(hi:lC Γ.M s.heap (kh (.ref x) (.type "list")) au)
  (DW:s.heap.get? so=aa (ks_superObj D x C)) (ho:ado Γ.K aoh "thirdparty.any"=aa aB) (hC:lC Γ.M s.heap (mroOf (.ref C)) l) (X:Γ.K.In s.heap)
  (hf:alongIn Γ.K name ((l.dropWhile (· != .ref D)).drop 1)=aa (aa (.builtin id))) (hxC:x≠C) (hn:(name==("__class__":aJ))=aC)
  (h:Q (.ref s.heap.objs.size, []) {s with heap:=s.heap.push {cls:= .type bt,data:= .fields #[.builtin id,.ref x]},toks:=s.toks+1}):
  aP Γ.M A (rZ (.ref so) name pl) Q E s:=by
 have hT:∀t',({s with toks:=t'}:aW).TypeIs (.ref so) "super":=λU=>⟨_,DW,rfl⟩;refine aj (lN (hT s.toks) mO.lookup ?_);refine pM (bN PySem.F.ks_canon_super_ga) ?_;refine aj (aj (adu (bJ (aj (zG (hT (s.toks+1)) (aj (gj mO.lookup ?_)))))));refine aj (gj rfl ?_);refine aj (yj (bJ ?_));refine aj (gj (mO.bind _) ?_);refine bH (Q:=λv s'=>v= .ref s.heap.objs.size∧s'={s with heap:=s.heap.push {cls:= .type bt,data:= .fields #[.builtin id,.ref x]},toks:=s.toks+1}) (E:=λU U=>False)
  (iQ mO (hT (s.toks+1)) PySem.F.ks_entry_super_ga (WN B hi DW ho hC X hf hxC hn ⟨_,rfl,rfl,rfl⟩) (PySem.F.ks_gaArgs_super _ _)) (λv s' hv=> ?_) λU U z=>z.elim
 obtain⟨rfl,rfl⟩:=hv;exact aA (aA h)
def aY7 (hb:s.heap.get? b=aa {cls:= .type bt,data:= .fields #[.builtin id,.ref x]})(hbt:bt="method-wrapper" ∨bt="builtin_function_or_method")
  (plain:plainId id=au) (entry:zE table id=aa B) (hc:aP Γ.M A.in1 (nF id ⟨[.ref x], []⟩) (λU s'=>s'=s) (λU U=>False) s)
  (h:aP Γ.M A.in1 (B ⟨[.ref x], []⟩) (λfin s'=>∃v,fin= .done (.ret v)∧Q v s') E s):aP Γ.M A (call (.ref b) []) Q E s:=by
 refine mZ (Dw ?_);refine aj (HF hb ?_);dsimp only;refine aO (bN (by rcases hbt with rfl | rfl<;>decide)) ?_;show aP _ _ (if (jh bt !=jh "method")=au then(do nF id ⟨[.ref x], []⟩;again (.builtin id ⟨[.ref x], []⟩)) else _) _ _ _;refine aO (bN (by rcases hbt with rfl | rfl<;>decide)) ?_;refine aj (bH hc (λU s' e=> ?_) λU U z=>z.elim);cases e;refine aA ⟨plainId_quiet plain _,Dy entry ?_⟩;refine aO (Er plain _) ?_;refine bH h (λfin s' h'=> ?_) λU U z=>z;obtain⟨v,rfl,hv⟩:=h';exact hv
def NK (h:Q () s):aP Γ.M A (nF "list.__init__" ⟨[.ref x], []⟩) Q E s:=
 gj rfl h
def WQ (h:Q () s):aP Γ.M A (nF "list.__len__" ⟨[.ref x], []⟩) Q E s:=
 gj rfl h
def WR (sig:Manifest.Signature)(hs:lW "list.pop"=aa sig)(full:String)(hf:full="_Accumulator.pop")(v:aV):aur "list.pop" {sig with full} ⟨[.ref v], []⟩=pure ():=by
 subst hf;have:sig=(lW "list.pop").get (by decide+kernel):=by simp [hs]
 subst this;kernel_rfl
def WT (hm:lC Γ.M s.heap (kh (.ref x) (.type "module")) aC)(hx:s.heap.get? x=aa oc)(hc:oc.cls= .ref C)(hd:∀c,oc.data≠ .cls c)
 (hC:lC Γ.M s.heap (classData C) cd) (hq:cd.qualname=("_Accumulator":aJ)) (hT:lC Γ.M s.heap (vp (.ref C)) (.type "type")) (h:Q () s):aP Γ.M A (nF "list.pop" ⟨[.ref x], []⟩) Q E s:=by
 refine pN (bT.mp (by decide+kernel:(lW "list.pop").isSome=au)) λsig hs=> ?_;delta nF;simp only[hs,(show gJ "list.pop"=aa .method from by decide+kernel)];exact aO (bk (by decide)) (aj (hm.here (aO (bk (by decide+kernel)) (aj (ks_wpAny_isType_inst hx hd (aO (bk (by decide)) (aj (aj (HF hx (aA (aO hc (aj (hC.here (aj (hT.here (aO (bN (by decide)) (gj (WR sig hs _ (by refine aO hq ?_;decide+kernel) _) h)))))))))))))))))
variable {o:ou}{us:Array aD}{nn:Nat}{Q:PQ PySem.Fin}
def WW (ha:s.heap.get? x=aa o)(hd:o.data= .seq us nn)(hz:us.size≤sJ)(h:Q (.done (.ret .none)) {s with heap:=s.heap.update x (dY λU=> #[])}):
  aP Γ.M A (fB.«list.__init__» ⟨[.ref x], []⟩) Q E s:=by
 refine aj (wpAny_listItems ha hd ?_);refine aj (vM ha hd ?_ ?_ ?_)
 ·exact aj (aoo (aA h))
 ·exact hz
 ·refine aO gV ?_;simp
def ait (ha:s.heap.get? x=aa o)(hd:o.data= .seq us nn)(h:∀tk,Q (.done (.ret (.int us.size tk))) {s with toks:=s.toks+1}):
  aP Γ.M A (fB.«list.__len__» ⟨[.ref x], []⟩) Q E s:=aj (gj rfl (aj (aj (kY ha (aO hd (aA (aj (aos (aA (h _))))))))))
def aiu (ha:s.heap.get? x=aa o)(hd:o.data= .seq us nn)(hn:us.size=n+1)(hv:us[n]?=aa v)(hz:us.size≤sJ)(h:Q (.done (.ret v)) {s with heap:=s.heap.update x (dY λus=>us.eraseIdxIfInBounds n)}):
  aP Γ.M A (fB.«list.pop» ⟨[.ref x], []⟩) Q E s:=by
 refine aj (gj rfl ?_);dsimp only;refine aj (aA ?_);refine aO (bk (by decide)) ?_;refine aj (wpAny_listItems ha hd ?_);refine aO (bk (by simp [Array.isEmpty,hn])) ?_;have hk:jP (-1) us.size=aa n:=by unfold jP;refine aO hn ?_;simp;lia
 refine aO hk ?_;simp only[lY,hv,Option.map_some];exact aj (vM ha hd (aA h) hz (wj dR (aO pg (aq (List.eraseIdx_sublist ..).length_le (aO dR (iT hz))))))
end
end
section
variable {Γ:Cx}
def SeqAt (h:bM)(a:aV)(items:Array aD):Prop:=∃o,h.get? a=aa o∧∃n,o.data= .seq items n
def SeqAt.at' (x:SeqAt h a items)(k:∀o,∀J:h.get? a=aa o,h'.get? a=aa o):SeqAt h' a items:=oG x λo e r=>⟨o,k o e,r⟩
section
variable {prog:oK}{w:vK}{A:bO}{E:PQ aD}{s:aW}{it l:aV}{i:Nat}{items:Array aD}
def WX (hit:s.heap.IsListIter it l i)(hl:SeqAt s.heap l items)(hx:items[i]?=aa x)(hQ:∀h',∀J:h'.IsListIter it l (i+1),∀J:jE it s.heap h',Q (aa x) {s with heap:=h'}):
  aP (iG prog w) A (Bb (.ref it)) Q E s:=by
 refine Su (id hit) λo ho hc hd=> ?_;obtain⟨ol,hol,nl,hdl⟩:=hl;refine aj (yj (pF hit.typeIs ph (iQ ph hit.typeIs auw ?_ (args_listiter_next _))));refine aj (m:=field (.ref it) 0) (fQ ho hd (x:= .ref l) rfl ?_);refine pM (bk aR) ?_;refine aj (fQ ho hd (x:= .int i 0) rfl ?_);refine aj (nq hol hdl ?_);simp only[lK,hx];refine aj (pX ho hd (by simp) (aA ⟨x,rfl,aA (hQ _ ?_ (oZ ..))⟩));exact⟨_,jl _ ho (uQ (kZ hd _)),(afi ..).trans hc,by rw[kZ hd];simp [kW]⟩
def WY (hh:A.handled=aB)(hit:s.heap.IsListIter it l i)(hl:SeqAt s.heap l items)(hx:items[i]?=aB)(hQ:∀h',∀J:yM it s.heap h',Q aB {s with heap:=h'}):
  aP (iG prog w) A (Bb (.ref it)) Q E s:=by
 refine Su (id hit) λo ho hc hd=> ?_;obtain⟨ol,hol,nl,hdl⟩:=hl;refine aj (yj (pF hit.typeIs ph (iQ ph hit.typeIs auw ?_ (args_listiter_next _))));refine aj (m:=field (.ref it) 0) (fQ ho hd (x:= .ref l) rfl ?_);refine pM (bk aR) ?_;refine aj (fQ ho hd (x:= .int i 0) rfl ?_);refine aj (nq hol hdl ?_);simp only[lK,hx];refine aj (lG (aj (pX ho hd (by simp) ?_)));refine aj ?_;refine aj (fH ?_ (by size_fits));refine aj (gj (a:=tQ) (by first | rfl | (rfl)) ?_);refine fH ?_ (by size_fits);refine aj (wpAny_handled ?_);refine aO hh ?_;refine aj (aA (wpAny_throw ?_));refine aj (uT ⟨_,bx _ rfl,rfl⟩ isSubtype_stop ?_);exact aA (hQ _ (((oZ ..).extBut.push _).push _))
def Xa (hh:A.handled=aB)(I ax:aV)(vg:ax≠I)(items:Array aD)(Ts:Nat->aV)(vals:Nat->Array aD)(hit:∀j,∀J:j<items.size,items[j]?=aa (.ref (Ts j)))(hTI:∀j,∀J:j<items.size,Ts j≠I):
  WalksU prog w A I (I::ax::(dm items.size).map Ts) [I] items.size (λj v=>j<items.size∧v=vals j)
   (λj h=>h.IsListIter I ax j∧SeqAt h ax items∧∀k,∀J:k<items.size,h.IsTuple (Ts k) (vals k))
   (λj T h=>(j<items.size∧T=Ts j)∧h.IsListIter I ax (j+1)∧SeqAt h ax items∧∀k,∀J:k<items.size,h.IsTuple (Ts k) (vals k)) where
 sub:=λb hb=>by simp at hb;simp [hb]
 frame:=λU U U st hk=>⟨st.1.at λo e=>hk I (by simp) o e,st.2.1.at' λo e=>hk ax (by simp) o e,λk hk'=>(st.2.2 k hk').at λo e=>hk (Ts k) (Lk _ (Lk _ (cC.mpr ⟨k,cP.mpr hk',rfl⟩))) o e⟩
 item:=λi s Q E hi st hQ=>by exact WX st.1 st.2.1 (hit i hi) λh' axy Jp=>(hQ (Ts i) (vals i) h' s.toks ⟨hi,rfl⟩ ((λk hk'=>(st.2.2 k hk').extBut Jp.extBut (hTI k hk')) i hi) ⟨⟨hi,rfl⟩,axy,st.2.1.at' (λo e=>Jp.extBut ax o vg e),(λk hk'=>(st.2.2 k hk').extBut Jp.extBut (hTI k hk'))⟩ λb o hb e=>Jp.extBut b o (λh=>hb (by simp [h])) e)
 go:=λU U U U U s Q U hm hQ=>wpAny_letOwnedTupleGo_listiter hm.2.1 (hQ s.heap hm.2 λU U U e=>e)
 apart:=λj T U hm axz=>by
  rcases bc.mp axz with e | e
  ·exact hTI j hm.1.1 (hm.1.2▸e)
  ·exact zZ e
 done:=λs Q E st hQ=>WY hh st.1 st.2.1 (by simp) λh' he'=>hQ h' s.toks λb o hb e=>he' b o (λh=>hb (by simp [h])) e
 self:=λU U U U st hQ=>wpAny_pyIter_listiter st.1 hQ
end
section
variable {A:bO}{E:PQ aD}{s:aW}{x:aV}
def NP:gJ "list.__iter__"=aa .slot∨gJ "list.__iter__"=aa .method:=by decide+kernel
def NQ (X:Γ.K.In s.heap)(I:IK s.heap x c){id:String}(hf:gn Γ.K (.ref c) name=aa (aa (.builtin id)))(slot:Slot "list" name id)
  (h:aP Γ.M A (call (.builtin id) [.ref x]) (λv=>Q (aa v)) E s):aP Γ.M A (callSpecialIfBoundUnlessNone? (.ref x) name aya) Q E s:=by
 refine bJ (aj (aj (aj (I.type.here ((fD X hf).here ?_)))));simp only[slot.bind];refine aj (wpAny_askSetting (wpAny_ite ?_));have fin:aP Γ.M A (if (Value.builtin id==tQ)=au then(aya>>=λv=>pure (aa v)) else(call (.builtin id) [.ref x]>>=λv=>pure (aa v))) Q E s:=by exact aj (bH h (λv s' z=>aA z) λU U z=>z)
 split
 ·exact aj (aA (aA fin))
 ·exact wpAny_tryCatch (aj (aA (aA fin)))
def Xb (K:N7 Γ)(X:Γ.K.In s.heap)(I:IK s.heap x Γ.G.gh)(h:Q (.ref s.heap.objs.size) {s with heap:=s.heap.push {cls:= .type "list_iterator",data:= .fields #[.ref x,.int 0 0]}}):
  aP Γ.M A (vy (.ref x)) Q E s:=by
 refine aj (aj (I.type.here ((fD X K.iter).here ?_)));refine aj (NQ X I K.iter slot_list_iter ?_);refine an9 K X I NP (by decide+kernel:xm "list.__iter__"=aa ("list","__iter__")) (by decide+kernel) entry_list_iter (args_list_iter _) ?_;show aP _ _ (do ret (←newFields "list_iterator" [.ref x,kW 0])) _ _ s;refine aj (fH (aA ⟨_,rfl, ?_⟩) (by size_fits));exact aj (lN ⟨_,bx _ rfl,rfl⟩ ph.lookup (aA h))
end
section
variable {prog:oK}{w:vK}{A:bO}{E:PQ aD}{s:aW}{I:aV}{fp wr:List aV}{G:Array zB->Array zB->Prop}{n:Nat}{P:Nat->aD->Prop}{St:PQ Nat}
def NT (W:WalksS prog w A I fp wr G n P St):WalksS prog w A I fp wr G (n+1) (λi v=>∃j,i=j+1∧P j v) (λi s=>∃j,i=j+1∧St j s) where
 sub:=W.sub
 grefl:=W.grefl
 gtrans:=W.gtrans
 frame:=(by rintro i s h' tk ⟨j,e,st⟩ ht hk;exact⟨j,e,W.frame j s h' tk st ht hk⟩)
 item:=(by rintro i s Q E hi ⟨j,e,st⟩ hQ;exact W.item j s Q E (by lia) st λv s' hP DQ hm=>hQ v s' ⟨j,e,hP⟩ ⟨j+1,congrArg tK (by assumption),DQ⟩ hm)
 done:=λs Q E ⟨j,e,st⟩ hQ=>W.done s Q E ((show j=n by lia)▸st) hQ
 self:=(by rintro i s Q E ⟨j,e,st⟩ hQ;exact W.self j s Q E st hQ)
def NZ (a b:aD):yK "sum" ⟨[a,b], []⟩:=rfl
def am2 (k:Int)(val:Nat->Int):Nat->Int
 | 0=>k
 | i+1=>val i
set_option backward.match.sparseCases true in
def Xc
  (h:aP (iG prog w) A.in1 (vy x) (λit bK=>∃(I:aV) (fp wr:List aV) (G:Array zB->Array zB->Prop) (n:Nat) (P:Nat->aD->Prop) (St:PQ Nat) (val:Nat->Int),it= .ref I∧WalksS prog w A.in1 I fp wr G n P St∧St 0 bK∧(∀b∈fp,b<bK.heap.objs.size)∧(∀i v,∀J:P i v,∃t,v= .int (val i) t)∧
   ∀s' t',∀J:Moved wr G bK s',Q (.int (yN (am2 k val) (n+1)) t') s') E s):
  aP (iG prog w) A (call (.builtin "sum") [x,.int k t]) Q E s:=by
 refine call_function_tree PySem.F.kind_sum PySem.F.plain_sum PySem.F.entry_sum (NZ _ _) ?_;unfold fB.«sum»;refine pM (bk (show¬2+0>2 by decide)) ?_;refine aj (gj rfl ?_);refine aj (bH h (λit bK rP=> ?_) λU U e=>e);refine uG λY Z=> ?_;obtain⟨I,fp,wr,G,n,P,St,val,rfl,W,UL,hfp,aLh,hQ⟩:=rP;refine Z ?_;have tail:∀tk st Ae,∀J:(st=0∨st=2),∀J:bK.toks≤Ae,aP (iG prog w) A.in1 (do
   forIn [("str","strings","''"),("bytes","bytes","b''"),("bytearray","bytearray","b''")] tU λ(x:String×String×String) U=>do
    let b←kh (.int k tk) (.type x.1)
    if b=au then do
     Du "sum.start-refused"
     raiseErrorMade "TypeError" (toString "sum() can't sum "++toString x.2.fst++toString " [use "++toString x.2.snd++toString ".join(seq) instead]")
     pure (ji tU)
    else pure (ji tU)
   let l←newList [.int k tk]
   again (.builtin "sum.loop" ⟨[.ref I,l,kW st,kW 0], []⟩)) (λfin s'=>match fin with
    | .done f=>(match (Except.ok f:Ba) with
     | .ok (.ret v)=>Q v s'
     | .ok _=>False
     | .error e=>E e s')
    | .again c'=>c'.quiet=au∧iw (iG prog w) A c' (λr s'=>match r with
     | .ok (.ret v)=>Q v s'
     | .ok _=>False
     | .error e=>E e s') s') (λe s'=>E e s') {bK with toks:=Ae}:=by
  intro tk st Ae hs htk;refine aj (pM (gK ..) (aj (aj (uT (yJ _ _ _) PySem.sub_int_str ?_))));refine pM (bk (by decide)) (aA (pM (gK ..) (aj (aj (uT (yJ _ _ _) PySem.sub_int_bytes ?_)))));refine pM (bk (by decide)) (aA (pM (gK ..) (aj (aj (uT (yJ _ _ _) PySem.sub_int_bytearray ?_)))));refine pM (bk (by decide)) (aA (pM (List.forIn_nil ..) (aA ?_)));refine aj (fH ?_);refine aA ⟨plainId_quiet PySem.F.plain_sum_loop _,codeAny_sum_loopAnyS (NT W) (am2 k val) (by rintro i v ⟨j,e,hP⟩;subst e;exact aLh j v hP) bK.heap.objs.size (λhm=>dW _ (hfp _ hm)) n 1 _ tk 0 st hs (by rfl) (fO _)
   ⟨0,rfl,W.frame 0 bK _ _ UL htk λb U o e=>aZ _ e⟩ ?_ λs' t' hm=> ?_⟩
  ·have e:yN (am2 k val) 1=k:=by simp [yN,am2]
   exact aO e (bx _ rfl)
  ·exact hQ s' t' (hm.drop_new htk)
 dsimp only
 split
 ·exact aj (lG (aj (aos (aj (aA (tail bK.toks 0 _ (.inl rfl) (eY _)))))))
 ·exact aj (aA (tail t 2 bK.toks (.inr rfl) (aN _)))
end
end
section
variable {Γ:Cx}{n m:Nat}{k:Kd}
noncomputable def H6 (cells:List (aJ×aV)):List (aJ×jR)->List (aJ×aV)->List (aJ×aV)
 | [],acc=>acc
 | (x,.free)::r,acc=>H6 cells r ((x,(cells.lookup x).getD 0)::acc)
 | _::r,acc=>H6 cells r acc
def aR9:∀(names:List (aJ×jR))(acc:List (aJ×aV)),∀J:(∀x,∀J:(x,eG)∈names,(env.cells.lookup x).isSome=au),(forIn names acc λ(x:aJ×jR) (cs:List (aJ×aV))=>if (x.2== .free)=au then(do let a←cellOf env x.1;pure (ji ((x.1,a)::cs))) else pure (ji cs):Sem (List (aJ×aV)))=pure (H6 env.cells names acc):=by
 intro zz
 induction zz with
 | nil=>
  intro _ _;exact rfl
 | cons hd0 r ih=>
  obtain⟨x,kd⟩:=hd0;intro acc h;rw[gK];have ih:=λacc=>ih acc λy hy=>h y (.tail _ hy);cases kd with
  | free=>
   obtain⟨c,hc⟩:=bT.mp (h x (.head _));refine aO (show cellOf env x=pure c from by delta cellOf;exact aO hc rfl) ?_;show _=pure (H6 env.cells r ((x,(env.cells.lookup x).getD 0)::acc));exact aO hc (ih _)
  | _=>exact ih _
def au7 (h:∀x,∀J:(x,eG)∈scope.names,(env.cells.lookup x).isSome=au):HS scope env=pure (H6 env.cells scope.names []):=
 (rfl:HS scope env=(forIn scope.names [] _>>=λcs=>pure cs)).trans (congrArg (λt=>t>>=λcs=>pure cs) (aR9 scope.names [] h))
def aj1:∀{names:List (aJ×jR)}{acc:List (aJ×aV)},∀J:(∀x,∀J:(x,eG)∈names,(cells.lookup x).isSome=au),∀J:(H6 cells names acc).lookup x=aa c,acc.lookup x=aa c∨((x,eG)∈names∧cells.lookup x=aa c):=by
 intro zz
 induction zz with
 | nil=>
  intro _ _ e;exact .inl e
 | cons hd0 r ih=>
  obtain⟨y,kd⟩:=hd0;intro acc h e;have h':∀x,∀J:(x,eG)∈r,(cells.lookup x).isSome=au:=λz hz=>h z (.tail _ hz);cases kd with
  | free=>
   rcases ih h' e with e | e
   ·by_cases q:x=y
    ·subst q
     obtain⟨c',hc⟩:=bT.mp (h x (.head _));rw[G9,hc]at e;exact .inr ⟨.head _,hc.trans e⟩
    ·exact .inl ((w5 q).symm.trans e)
   ·exact .inr ⟨.tail _ e.1,e.2⟩
  | _=>exact(ih h' e).imp id λe=>⟨.tail _ e.1,e.2⟩
def Xd:∀{names:List (aJ×jR)}{acc:List (aJ×aV)},∀J:(acc.lookup x).isSome=au,((H6 cells names acc).lookup x).isSome=au:=by
 intro zz
 induction zz with
 | nil=>
  intro _ e;exact e
 | cons hd0 r ih=>
  obtain⟨y,kd⟩:=hd0;intro acc e;cases kd with
  | free=>
   refine ih ?_;by_cases q:x=y
   ·subst q;refine aO G9 ?_;rfl
   ·refine aO (w5 q) ?_;exact e
  | _=>exact ih e
def au8:∀{names:List (aJ×jR)}{acc:List (aJ×aV)},∀J:(x,eG)∈names,((H6 cells names acc).lookup x).isSome=au:=by
 intro zz
 induction zz with
 | nil=>intros;contradiction
 | cons hd0 r ih=>
  obtain⟨y,kd⟩:=hd0;intro acc h;rcases bc.mp h with q | q
  ·cases q
   exact Xd (names:=r) (by refine aO G9 ?_;rfl)
  ·cases kd with
   | _=>exact ih q
def aiw (h:(Tt sc).contains x=au):(x,eG)∈sc.names:=by
 obtain⟨⟨y,kd⟩,hp,e⟩:=wz.mp (cJ.mp h);by_cases q:kd= .free
 ·rw[bN q]at e
  obtain rfl:=ak e;exact q▸hp
 ·replace e:=(bk q)▸e;exact iz e
structure CompK (k:Kd)(sc:jK):Prop where
 uz:∀x,∀J:(x,eG)∈sc.names,k x=aa .cell∨k x=aa .free
 kind:sc.kind= .function
 nodup:(sc.names.map (·.1)).Nodup
 noe:sc.names.lookup ("errors":aJ)≠aa .local
def aA4 {α:Type}:∀{r:List (aJ×α)},∀J:(r.map (·.1)).Nodup,∀{x:aJ}{v:α},∀J:(x,v)∈r,r.lookup x=aa v:=by
 intro zz
 induction zz with
 | nil=>intros;contradiction
 | cons hd0 r ih=>
  obtain⟨y,w⟩:=hd0;intro nd x v h;rcases bc.mp h with h | h
  ·cases h;exact G9
  ·exact(w5 λ(q:x=y)=>(gw.mp nd).1 (q▸cC.mpr ⟨(x,v),h,rfl⟩)).trans (ih (gw.mp nd).2 h)
def Xe (h:ak7 k sc=au):CompK k sc:=by
 refine⟨λx hx=> ?_,gM (m8 (d8 (d8 (d8 (d8 h))))),gH (m8 (d8 (d8 (d8 h)))),λe=> ?_⟩
 ·have:=bj.mp (d8 (d8 (d8 (d8 (d8 h))))) _ hx
  rcases fY.mp this with q | q
  ·exact .inl (gM ((fY.mp q).resolve_left nofun))
  ·exact .inr (gM q)
 ·have h3':=(m8 (d8 (d8 h)))
  rw[e]at h3';exact qI h3'
def ao4 {sc:jK}{env:fP}:∀{names:List (aJ×jR)}{kd:jR},∀J:names.lookup x=aa kd,(names.map λ(n,k)=>if (k== .free&&env.scope.kind== .function&&env.kindOf n==aa .cell) then(n,gU) else(n,k)).lookup x=aa kd∨(kd= .free∧(names.map λ(n,k)=>if (k== .free&&env.scope.kind== .function&&env.kindOf n==aa .cell) then(n,gU) else(n,k)).lookup x=aa .cell):=by
 intro zz
 induction zz with
 | nil=>intros;contradiction
 | cons hd0 r ih=>
  obtain⟨y,kd'⟩:=hd0;intro kd h;show nY x ((if (kd'==eG&&env.scope.kind== .function&&env.kindOf y==aa .cell)=au then(y,gU) else(y,kd'))::_)=_∨_∧nY x ((if (kd'==eG&&env.scope.kind== .function&&env.kindOf y==aa .cell)=au then(y,gU) else(y,kd'))::_)=_;by_cases q:x=y
  ·subst q
   obtain rfl:=ak (G9.symm.trans h);by_cases hc:(kd'==eG&&env.scope.kind== .function&&env.kindOf x==aa .cell)=au
   ·rw[bN hc];exact .inr ⟨gM (d8 (d8 hc)),G9⟩
   ·rw[bk hc];exact .inl G9
  ·have ih:=ih ((w5 q).symm.trans h)
   by_cases hc:(kd'==eG&&env.scope.kind== .function&&env.kindOf y==aa .cell)=au
   ·rw[bN hc,w5 q];exact ih
   ·rw[bk hc,w5 q];exact ih
abbrev Al (sc:jK)(env:fP)(L:aV):fP:=compEnvC sc (dX (L+1) sc.names (H6 env.cells sc.names [])) L env
def al3:∀(names:List (aJ×jR))(n:Nat)(acc:List (aJ×aV)),dX n names acc=dX n names []++acc:=by
 intro zz
 induction zz with
 | nil=>exact λU U=>rfl
 | cons hd0 r ih=>
  obtain⟨y,kd⟩:=hd0;intro n acc;show(if (kd==gU)=au then dX (n+1) r ((y,n)::acc) else dX n r acc)=(if (kd==gU)=au then dX (n+1) r [(y,n)] else dX n r [])++acc;by_cases q:(kd==gU)=au
  ·refine(bN q).trans (Eq.trans ?_ (congrArg (·++acc) (bN q).symm))
   exact(ih (n+1) ((y,n)::acc)).trans (Eq.trans (by rw[aQ];rfl) (congrArg (·++acc) (ih (n+1) [(y,n)]).symm))
  ·refine(bk q).trans (Eq.trans ?_ (congrArg (·++acc) (bk q).symm))
   exact ih n acc
def aw5:∀(names:List (aJ×jR))(n:Nat){x:aJ}{c:aV},∀J:(x,c)∈dX n names [],(x,gU)∈names∧n≤c:=by
 intro zz
 induction zz with
 | nil=>exact λU U U h=>zZ h
 | cons hd0 r ih=>
  obtain⟨y,kd⟩:=hd0;intro n x c h;by_cases q:(kd==gU)=au
  ·replace h:(x,c)∈dX (n+1) r [(y,n)]:=(bN q:(if (kd==gU)=au then dX (n+1) r [(y,n)] else dX n r [])=_)▸h
   rw[al3]at h;rcases bI.mp h with h | h
   ·exact(ih (n+1) h).imp (.tail _) dB
   ·cases aH.mp h
    exact⟨gM q▸ .head _,aN _⟩
  ·replace h:(x,c)∈dX n r []:=(bk q:(if (kd==gU)=au then dX (n+1) r [(y,n)] else dX n r [])=_)▸h
   exact(ih n h).imp (.tail _) id
inductive Xf (sc:jK)(env:fP)(L:aV)(x:aJ)(c:aV):Prop
 | new (h:(x,c)∈dX (L+1) sc.names []) (lt:L<c):Xf sc env L x c
 | old (h:env.cells.lookup x=aa c) (hf:(x,eG)∈sc.names):Xf sc env L x c
def CompK.has (c:CompK k sc)(O:v8 Γ k env)(x:aJ)(hx:(x,eG)∈sc.names):(env.cells.lookup x).isSome=au:=(c.uz x hx).elim (λh=>(O.agg x h).2) λh=>(O.uz x h).2
def CompK.cell (c:CompK k sc)(O:v8 Γ k env)(e:(Al sc env L).cells.lookup x=aa a):Xf sc env L x a:=by
 replace e:(dX (L+1) sc.names (H6 env.cells sc.names [])).lookup x=aa a:=e;rw[al3,RT]at e;cases q:(dX (L+1) sc.names []).lookup x with
 | some b=>
  replace e:=q▸e;cases ak e;exact .new (mem_of_lookup q) (aw5 _ _ (mem_of_lookup q)).2
 | none=>
  replace e:=q▸e;exact .old ((aj1 (c.has O) e).resolve_left nofun).2 ((aj1 (c.has O) e).resolve_left nofun).1
def CompK.own (c:CompK k sc)(O:v8 Γ k env)(hx:kdOf sc x=aa .cell)(e:(Al sc env L).cells.lookup x=aa a):L<a:=by
 cases c.cell O e with
 | new h lt=>exact lt
 | old h hf=>exact nomatch (ak (hx.symm.trans (aA4 c.nodup hf)))
def CompK.takes (c:CompK k sc)(hx:(x,eG)∈sc.names):(Al sc env L).cells.lookup x=(H6 env.cells sc.names []).lookup x:=by
 show(dX (L+1) sc.names (H6 env.cells sc.names [])).lookup x=_;rw[al3,RT];cases q:(dX (L+1) sc.names []).lookup x with
 | some b=>exact nomatch (ak ((aA4 c.nodup (aw5 _ _ (mem_of_lookup q)).1).symm.trans (aA4 c.nodup hx)))
 | none=>rfl
def CompK.a8o (c:CompK k sc)(O:v8 Γ k env):v8 Γ (kdOf sc) (Al sc env L) where
 kind:=c.kind
 glob:=O.glob
 blt:=O.blt
 loc:=λx hx=>lookup_relabel_local hx
 agg:=λx hx=>⟨(ao4 (sc:=sc) hx).resolve_right (λh=>(nomatch h.1)),ad9 _ _ _ hx⟩
 uz:=λx hx=>⟨((ao4 (sc:=sc) hx).imp id (·.2)).symm,aO (c.takes (mem_of_lookup hx)) (au8 (mem_of_lookup hx))⟩
 jq:=λx hx=>(ao4 (sc:=sc) hx).resolve_right λh=>nomatch h.1
 Fp:=λhx=>absurd hx c.noe
structure a8p (sc:jK)(h h':bM)(L:aV):Prop where
 fr:∀c,∀J:L≤c,h.get? c=aB
 kp:∀b o,∀J:h.get? b=aa o,h'.get? b=aa o
 ns:h'.Ns L λU=>aB
 cs:CellsOk h' (L+1) (dX (L+1) sc.names [])
def aLl (sc:jK)(h:bM):a8p sc h (pushCells (h.push {cls:= .type "dict",data:= .dict #[]}) sc.names) h.objs.size:=by have ok:=cellsFrom_ok sc.names (h.push {cls:= .type "dict",data:= .dict #[]}) (h.objs.size+1) [] ⟨λU U hm=>zZ hm,.nil⟩ (cN (mj ..).symm);rw[mj]at ok;exact⟨λc hc=>gQ hc,λb o e=>pushCells_keeps _ _ b o (aZ _ e),(Heap.Ns.new h (.type "dict")).keeps (pushCells_keeps _ _),ok⟩
def Xg (hQ:Q {scope:=sc,locals:=s.heap.objs.size,globals:=g,cells:=dX (s.heap.objs.size+1) sc.names cl,qual:=qual,func:=aB,code:=env.code,frame:=env.frame,builtins:=env.builtins} {s with heap:=pushCells (s.heap.push {cls:= .type "dict",data:= .dict #[]}) sc.names}):
  aP M A (nC sc g cl [] qual aB .none (aa env)) Q E s:=by
 simp only[nC,Option.isSome_some,if_true];refine aj (aot (aj (wpAny_layCells _ (λname kind cells=>by cases hkc:kind==gU<;>simp) _ _ _ _ ?_)));rw[show({s with heap:=s.heap.push {cls:= .type "dict",data:= .dict #[]}}:aW).heap.objs.size=s.heap.objs.size+1 from mj ..];exact aj (aA (aA hQ))
section
variable {l:List fP}{ρ:fj}{H:Hp}{s:aW}{env:fP}{loc cX:j7}{sc:jK}{h':bM}
def FR.takes (S:SR Γ ρ H s)(F:FR Γ l ρ s.heap env loc cX){env':fP}(hl:env'.locals=L)(hL:s.heap.get? L=aB)(kp:∀b o,∀J:s.heap.get? b=aa o,h'.get? b=aa o)(hn:h'.Ns L λU=>aB)
  (old:∀x a,∀J:env'.cells.lookup x=aa a,env.cells.lookup x=aa a∨(s.heap.get? a=aB∧TY h' a∧a≠L)) (ap:∀x y a,∀J:env'.cells.lookup x=aa a,∀J:env'.cells.lookup y=aa a,∀J:s.heap.get? a=aB,x=y)
  (has:∀x,∀J:(x,eG)∈sc.names,env'.cells.lookup x=env.cells.lookup x):
  FR Γ l ρ h' env' [] (cX.filter λp=>(Tt sc).contains p.1):=by
 have F':=F.sG (λL o h1 U e=>⟨⟨o,kp L o e,rfl⟩,h1⟩) λv u x=>x.mono (I2.refl ρ s.heap) λb o e U=>kp b o e;have live:∀{x:aJ}{a:aV},∀J:env.cells.lookup x=aa a,∀J:s.heap.get? a=aB,False:=λe q=>by obtain⟨o,_,ho,_⟩:=F.oH _ _ e;exact iz (q.symm.trans ho)
 refine⟨F'.uc,⟨_,hl▸hn,λy v e=>iz e⟩,λy v e=> ?_,hl▸(I7 S hL).obj,λy a e=>(old y a e).elim (F.xH y a) λq=>(I7 S q.1).obj,hl▸(I7 S hL).tab,λy a e=>(old y a e).elim (F.sU y a) λq=>(I7 S q.1).tab,hl▸(I7 S hL).base,λy a e=>(old y a e).elim (F.vR y a) λq U=>(I7 S q.1).base,λy a e=>(old y a e).elim (F'.oH y a) λq=>q.2.1,λx y a e e'=> ?_,λy a e q=> ?_,λh=>qI h⟩
 ·obtain⟨hf,e⟩:=X6 _ e
  obtain⟨a,u,ha,hu,hv⟩:=F'.cells y v e;exact⟨a,u,(has y (aiw hf)).trans ha,hu,hv⟩
 ·rcases old x a e with q | q
  ·rcases old y a e' with q' | q'
   ·exact F.apart x y a q q'
   ·exact(live q q'.1).elim
  ·exact ap x y a e e' q.1
 ·rcases old y a e with z | z
  ·exact live z (q.trans hl▸hL)
  ·exact z.2.2 (q.trans hl)
def CompK.frame (c:CompK k sc)(O:v8 Γ k env)(S:SR Γ ρ H s)(F:FR Γ l ρ s.heap env loc cX)(N:a8p sc s.heap h' L):FR Γ l ρ h' (Al sc env L) [] (cX.filter λp=>(Tt sc).contains p.1):=
 FR.takes S F rfl (N.fr L (aN _)) N.kp N.ns (λx a e=>by
   cases c.cell O e with
   | new h lt=>exact .inr ⟨N.fr a (bz lt),by obtain⟨o,ho,hd⟩:=(N.cs.empty x a h).1;exact⟨o,_,ho,hd⟩,pq lt⟩
   | old h hf=>exact .inl h)
  (λx y a e e' q=>by
   have own:∀{z:aJ},∀J:(Al sc env L).cells.lookup z=aa a,(z,a)∈dX (L+1) sc.names []:=λe=>by
    cases c.cell O e with
    | new h lt=>exact h
    | old h hf=>obtain⟨o,_,ho,_⟩:=F.oH _ _ h;exact iz (q.symm.trans ho)
   exact name_of_addr N.cs.apart (own e) (own e'))
  λx hx=>(c.takes hx).trans (by
   obtain⟨a,ha⟩:=bT.mp (au8 hx);exact ha.trans (((aj1 (c.has O) ha).resolve_left nofun).2).symm)
end
end
section
variable {Γ:Cx}{n m:Nat}{k:Kd}
def au9 (hl:s.heap.get? l=aa (listOf items nn))(hz:items.size≤16777216)
  (h:Q .none {s with heap:=s.heap.update l (dY (·.push x))}):aP (iG prog w) A (call (.builtin "list.append") [.ref l,x]) Q E s:=
 oV slot_list_append ⟨_,hl,rfl⟩ entry_list_append (args_list_append _ _) (PySem.AutoListH.list_append_list_val_0 l items nn x (aO gV hz)) ⟨hl,h⟩
noncomputable abbrev aj2 (env:fP)(ifs:List aG)(b:Bool):Sem Bool:=forIn ifs b λc r=>if r=au then do let ok←isTrue c env (eval c env);pure (ji ok) else pure (ji r)
def aP2 (I:PQ Nat)(E:PQ aD)
  (turn:∀n s,∀J:I n s,aP (iG prog w) A (Bb it) (λr aU=>match r with
   | none=>R (.ok .next) aU
   | some v=>aP (iG prog w) A (lQ target it v) (λU iC=>aP (iG prog w) A (wU target env v) (λU bK=>
     aP (iG prog w) A (aj2 env ifs au) (λok lL=>
      if ok=au then aP (iG prog w) A (eval elt env) (λx wI=>
       aP (iG prog w) A (call (.builtin "list.append") [acc,x]) (λU kJ=>∃m,m<n∧I m kJ) (λU U=>False) wI) (λU U=>False) lL
      else∃m,m<n∧I m lL) (λU U=>False) bK) (λU U=>False) iC) (λU U=>False) aU) (λU U=>False) s)
  (n:Nat) (h:I n s):iw (iG prog w) A (.compLoop (.ListComp elt [⟨target,iter,ifs,0⟩] scope pos) 0 it acc env) R s:=by
 refine codeAny_loop rfl I (λn s hI=> ?_) n h;refine wpAny_noted ?_;rw[compTurn_list];refine aj (dM (aj (bH (turn n s hI) (λr aU jQ=> ?_) λU U h'=>h'.elim)));cases r with
 | none=>exact aA jQ
 | some v=>
  refine aj (bH jQ (λU iC h₀=> ?_) λU U h'=>h'.elim);refine aj (bH h₀ (λU bK rP=>aj (bH rP (λok lL Cv=> ?_) λU U h'=>h'.elim)) λU U h'=>h'.elim);cases ok with
  | false=>exact aA ⟨rfl,Cv⟩
  | true=>
   exact aj (aj (bH Cv (λx wI aLn=>aj (bH aLn (λU kJ ayb=>aA (aA ⟨rfl,ayb⟩)) λU U h'=>h'.elim)) λU U h'=>h'.elim))
section
variable {env:fP}{l:List fP}{A:bO}{ρ:fj}{s:aW}{H:Hp}
def Oa (es:List aG):aj2 env es aC=pure aC:=by
 induction es with
 | nil=>rfl
 | cons e es ih=>exact(gK ..).trans ih
def Ob (ih:AllB Γ n m k)(O:v8 Γ k env)(a:jy A l n):∀(es:List aG){H:Hp}{ρ:fj}{s:aW},∀J:SR Γ ρ H s,∀J:FR Γ l ρ s.heap env φ.loc φ.cX,iY Γ l φ.lk A ρ s (allB (uH Γ.G n φ) (es.map (cE m k)) H) (aj2 env es au) Cr:=by
 intro zz
 induction zz with
 | nil=>
  intro _ _ _ S F;exact .pure S rfl
 | cons e es ihr=>
  intro _ _ _ S F;refine((ih e env l A φ _ _ _ O a S F).jb (W:=λb aU Q E=>aP Γ.M A (aj2 env es b) Q E aU) (λQ E w=> ?_) λb cU aY aU u cQ cg hb=> ?_:q7 Γ l φ.lk _ _ _ (λQ E=>aP Γ.M A (aj2 env (e::es) au) Q E _) Cr)
  ·show aP _ _ (forIn (e::es) au _) _ _ _
   rw[gK];exact aj (aj (bH w (λb aU z=>aA z) λU U z=>z))
  ·obtain rfl:u=b:=hb
   cases u with
   | true=>exact ihr cg (F.ext cQ)
   | false=>exact .ok λQ E P=>Oa es▸aA (P.ok cg rfl)
def Xh (S:SR Γ ρ H s)(hr:ρ[i]?=aa [D])(hv:VR Γ ρ s.heap v u):q7 Γ l lk ρ s (Cd lk i v H) (λQ E=>aP Γ.M A (call (.builtin "list.append") [.ref D,u]) (λU s'=>Q () s') E s) TT:= .opt λp e=> .fu λhz=> .fu λhn=> .ok λQ E P=>by obtain⟨a,us,nn,hi,My,ha,hs,hz'⟩:=VR.listAt (v:= .ref i) ⟨D, [],hr⟩ S e;refine au9 ha (hs.size▸hz') (ab8 S hi My ha (by simpa using hn) _ ?_ (aO az (I5 hz)) s.toks λx S'=>P ρ _ () x S' trivial);exact aO lD (hs.append (.mk u [] hv rfl))
def Xi {sc:jK}{mt:j0}(hT:CG Γ n k t mt)(hB:AllB Γ n m k)(hE:U0 Γ n m k)(O:v8 Γ k env)(a:jy A l n)(S:SR Γ ρ σ.hp s)(F:FR Γ l ρ s.heap env σ.loc σ.cX)(hr:ρ[i]?=aa [D])(hv:VR Γ ρ s.heap v u):
  I8 Γ k l env lk ρ s (turn (o8 Γ.G n) lk i (cE m k elt) mt (ifs.map (cE m k)) v σ) (λQ E=>aP Γ.M A (wU t env u) (λU bK=>aP Γ.M A (aj2 env ifs au) (λok lL=>
   if ok=au then aP Γ.M A (eval elt env) (λx wI=>aP Γ.M A (call (.builtin "list.append") [.ref D,x]) (λU kJ=>Q () kJ) E wI) E lL else Q () lL) E bK) E s) TT:=
 (hT env l A lk v σ ρ s u O a S F hv).DN (λQ E w=>w) λU ir aY aU U cQ cg oF U=>
  (Ob hB O a ifs cg oF).stmt oF (λQ E w=>w) λb oE dz bK c du fU hb=>by
   obtain rfl:c=b:=hb;cases c with
   | false=>exact .ok λQ E P=>P.done fU (oF.ext du) trivial
   | true=>
    exact .lift ((hE elt env l A (ir.fm lk) oE dz bK O a fU (oF.ext du)).jb (λQ E w=>w) λw Ag qz lL x qg tH hw=>Xh tH (qg.grow.get (du.grow.get (cQ.grow.get hr))) hw) (oF.ext du)
inductive Xj (Γ:Cx)(k:Kd)(l:List fP)(env:fP)(lk uh:List Nat)(wr:List aV)(Ng:Nat->bM->Prop)(iu:fj)(iC:aW)(dz:fj)(bK:aW)(step:V->St->G5 Unit)(vs:List V)(jH:St)(j:Nat)(s:aW):Prop
 | mk (i:Nat) (σ:St) (ρ:fj) (hi:i≤vs.length) (hj:j=vs.length-i) (ev:ap8 step (vs.drop i) σ=aa (.ok (),jH)) (L:VK Γ k l env lk uh wr Ng iu iC dz bK i σ ρ s):Xj Γ k l env lk uh wr Ng iu iC dz bK step vs jH j s
def Xk {mt:j0}{PI:Nat->aD->bM->Prop}{Ng:Nat->bM->Prop}
  (T:au3 Γ k A t l env lk uh dz iC bK vs I fp wr PI Ng) (hT:CG Γ n k t mt) (hB:AllB Γ n m k) (hE:U0 Γ n m k) (O:v8 Γ k env) (a:jy A l n) (hr:dz[i]?=aa [D]) (aLo:VK Γ k l env lk uh wr Ng iu iC dz bK 0 σ ρ s)
  (ev:ap8 (turn (o8 Γ.G n) (uh++lk) i (cE m k elt) mt (ifs.map (cE m k))) vs σ=aa (.ok (),jH))
  (fin:∀fK s',∀J:SR Γ fK jH.hp s',∀J:FR Γ l fK s'.heap env jH.loc jH.cX,∀J:Ext Γ (n6 l) (vV Γ k lk iu env) iu iC fK s',∀J:fK[i]?=aa [D],R (.ok .next) s'):
  iw Γ.M A (.compLoop (.ListComp elt [⟨t,it,ifs,0⟩] sc p) 0 (.ref I) (.ref D) env) R s:=by
 refine aP2 (E:=λU U=>False) (Xj Γ k l env lk uh wr Ng iu iC dz bK (turn (o8 Γ.G n) (uh++lk) i (cE m k elt) mt (ifs.map (cE m k))) vs jH) (λj aU hI=> ?_) vs.length ⟨0,σ,ρ,bR _,rfl,ev,aLo⟩;obtain⟨i',ir,aY,hle,rfl,lU,L⟩:=hI;by_cases Fz:i'<vs.length
 ·rw[rN Fz]at lU
  refine T.yS.next Fz L.st (λv aU z=>z) λv h' tk hv DQ kp=> ?_;have L':=L.item (tk:=tk) T kp DQ;exact(Xi (sc:=sc) hT hB hE O a L'.S L'.F (L'.du.grow.get hr) (T.val i' v _ _ _ hv (bU Fz) L'.du.grow L'.du.vf.vG)).step (Q:=λU kJ=>∃j,j<vs.length-i'∧Xj Γ k l env lk uh wr Ng iu iC dz bK (turn (o8 Γ.G n) (uh++lk) i (cE m k elt) mt (ifs.map (cE m k))) vs jH j kJ) (R':=TT) lU (λU U U U U U U=>trivial) λU Je yz kJ U zR rQ Ai VN r aKn=>⟨vs.length-(i'+1),by omega,i'+1,Je,yz,Fz,rfl,zR,L'.turn T rQ Ai VN⟩
 ·obtain rfl:i'=vs.length:=jC hle (cV Fz)
  replace lU:=pO▸lU;obtain rfl:=(lJ (ak lU)).2;exact T.yS.done aU _ _ L.st λh' tk kp=>(HY (L.moved T kp) λS' F' x'=>(fin _ _ S' F' x' (L.du.grow.get hr)))
end
end
section
variable {Γ:Cx}{n m:Nat}{k:Kd}
def Z1 {h:bM}(e:h.get? a=aa o)(e':h.get? b=aB):a≠b:=λz=>by subst z;exact iz (e'.symm.trans e)
def q7.step {l:List fP}{lk:List Nat}{ρ:fj}{s:aW}{α β γ δ:Type}{r:Out α}{f:α->Hp->Out γ}{q:Res γ}{H':Hp}{W:∀J:(PQ β),∀J:(PQ aD),Prop}{R:fj->bM->α->β->Prop}{R':fj->bM->γ->∀J:δ,Prop}{Q:PQ β}{Q':PQ δ}{E:PQ aD}
  (h:q7 Γ l lk ρ s r W R) (ev:jf r f=aa (q,H')) (P:Q7 Γ l lk ρ s q H' R' Q' E) (kk:∀v cU aY aU u,∀J:f v cU=aa (q,H'),∀J:Ext Γ (n6 l) (Wr Γ lk ρ) ρ s aY aU,∀J:SR Γ aY cU aU,∀J:R aY aU.heap v u,Q u aU):W Q E:=by
 rcases r with _ | ⟨v | ⟨c,m⟩,cU⟩
 ·exact iz ev
 ·exact h _ _ rfl _ _ λaY aU u x cg r=>kk v cU aY aU u ev x cg r
 ·exact h _ _ rfl _ _ (P.take ev:Q7 Γ l lk ρ s (.exc c m) cU R' Q' E)
section
variable {env:fP}{l:List fP}{A:bO}{lk uh:List Nat}{ρ aY dz:fj}{s aU bK:aW}{H:Hp}{sc:jK}{vs:List V}
def CompK.it {P:Nat->aD->bM->Prop}{St:Nat->bM->Prop}(c:CompK k sc)(O:v8 Γ k env)(hL:∀c,∀J:L≤c,aU.heap.get? c=aB)(x:Ext Γ (n6 l) (Wr Γ lk aY) aY aU dz bK)
  (kp:∀b o,∀J:aU.heap.get? b=aa o,bK.heap.get? b=aa o) (T:au3 Γ k A tg l env lk uh aY s aU vs I fp wr P St):au3 Γ (kdOf sc) A tg l (Al sc env L) lk uh dz s bK vs I fp wr P St where
 yS:=T.yS
 val:=λi v y fK h' hp hy g im=>T.val i v y fK h' hp hy (x.grow.trans g x.live) λb o e nm=>im b o (kp b o e) nm
 live:=λb hb=>(T.live b hb).imp λo e=>kp b o e
 off:=λb hb=>by
  obtain⟨o,ho⟩:=T.live b hb;refine⟨λq=> ?_,(T.off b hb).fs⟩;rcases q with q | q | ⟨y,hy,q⟩
  ·exact(x.grow.wr q).elim (λq=>(T.off b hb).wr (.inl q)) λq=>iz (q.symm.trans ho)
  ·exact Z1 ho (hL L (aN _)) q
  ·exact iz ((hL b (bz (c.own O hy q))).symm.trans ho)
 new:=T.new
 free:=λb hb=>(T.live b (T.yS.sub b hb)).elim λo ho=>⟨x.Ua (T.free b hb).obj ho,(T.free b hb).tab,(T.free b hb).base⟩
 cX:=λb hb y a e=>by
  cases c.cell O e with
  | new h lt=>obtain⟨o,ho⟩:=T.live b (T.yS.sub b hb);exact Z1 ho (hL a (bz lt))
  | old h hf=>exact T.cX b hb y a h
inductive Xl (Γ:Cx)(s:aW)(ρ:fj)(h:bM)(v:V):aV×aV->Prop
 | mk (D C:aV) (m:aJ->Option aD) (hv:VR Γ ρ h v (.ref D)) (hn:h.Ns C m) (new:s.heap.get? C=aB) (off:C∉ρ.flatten) (ne:D≠C):Xl Γ s ρ h v (D,C)
abbrev aqz (Γ:Cx)(A:bO)(env:fP)(s:aW)(elt t it:aG)(ifs:List aG)(sc:jK)(p pos:sZ)(use:Option (aD->Sem Unit))(Q:PQ (aV×aV))(E:PQ aD):Prop:=
 ∀Q':PQ aD,∀J:(∀d s',∀J:Q d s',compPost Γ.M A E use Q' (.ref d.1) d.2 (.ok .next) s'),aP Γ.M A (comprehension (.ListComp elt [⟨t,it,ifs,0⟩] sc p) sc env pos (newList []) aC (eval it env) use) Q' E s
def aN0 {mt mi:j0}{use:Option (aD->Sem Unit)}(O:v8 Γ k env)(a:jy A l n)(ok:ak7 k sc=au)(hI:CN Γ n k t it mi)(hT:CG Γ n (kdOf sc) t mt)(hB:AllB Γ n m (kdOf sc))(hE:U0 Γ n m (kdOf sc))
  (hs:∀env x,pY it env x=pure x) (S:SR Γ ρ H s) (F:FR Γ l ρ s.heap env φ.loc φ.cX):
  q7 Γ l φ.lk ρ s (apk (o8 Γ.G n) φ (cE m (kdOf sc) elt) mt mi (ifs.map (cE m (kdOf sc))) (Tt sc) H) (aqz Γ A env s elt t it ifs sc p pos use) (Xl Γ s):=by
 have c:=Xe ok;intro q H' ev Q E P Q' hQ;refine wpAny_comprehension_free rfl (hs env) (au7 (c.has O)) c.kind (λx hx hl=>aA4 c.nodup (show(x.1,NameKind.local)∈sc.names by refine wj hl ?_;exact hx)) (q7.step (hI env l A φ H ρ s O a S F) ev P λa8q cU aY aU itv ev cQ cg hit=> ?_);obtain⟨I,fp,wr,PI,Ng,yS,Rj,val,live,off,new,free,cX⟩:=hit;have kpD:=N6 aU.heap {cls:= .type "list",data:= .seq #[]};have D0:=N5 aU.heap;have SD:SR Γ (aY++ [[aU.heap.objs.size]]) (cU++ [.list []]) {aU with heap:=aU.heap.push {cls:= .type "list",data:= .seq #[]}}:=cg.ug kpD (ag6 _) (by simp) ⟨_, #[],0,bx _ rfl,rfl,bR _⟩;have xD:Ext Γ (n6 l) (Wr Γ φ.lk aY) aY aU (aY++ [[aU.heap.objs.size]]) {aU with heap:=aU.heap.push {cls:= .type "list",data:= .seq #[]}}:=Ext.ug kpD (ag6 _);refine fH (Xg ?_);have N:=aLl sc (aU.heap.push {cls:= .type "list",data:= .seq #[]});generalize pushCells ((aU.heap.push {cls:= .type "list",data:= .seq #[]}).push {cls:= .type "dict",data:= .dict #[]}) sc.names=rP at*
 generalize hC:(aU.heap.push {cls:= .type "list",data:= .seq #[]}).objs.size=C at*
 have C0:=N.fr C (aN _);have kp2:=N.kp;have fU:SR Γ (aY++ [[aU.heap.objs.size]]) (cU++ [.list []]) {aU with heap:=rP}:=SD.keeps kp2;have du:Ext Γ (n6 l) (Wr Γ φ.lk aY) aY aU (aY++ [[aU.heap.objs.size]]) {aU with heap:=rP}:=xD.trans (Ext.keeps kp2);have Cs:∀c,∀J:C≤c,aU.heap.get? c=aB:=λc hc=>aw8 (λo e=>⟨o,kpD _ o e⟩) (N.fr c hc);have C1:=Cs C (aN _);have ara:=yS.frame _ _ _ Rj λb U o e=>(λb o e=>kp2 b o (kpD b o e)) b o e;have xs:Ext Γ (n6 l) (vV Γ (kdOf sc) φ.lk ρ (Al sc env C)) ρ s (aY++ [[aU.heap.objs.size]]) {aU with heap:=rP}:=(cQ.trans du).toS;have loop:iw Γ.M A (.compLoop (.ListComp elt [⟨t,it,ifs,0⟩] sc p) 0 (.ref I) (.ref aU.heap.objs.size) (Al sc env C)) (compPost Γ.M A E use Q' (.ref aU.heap.objs.size) C) {aU with heap:=rP}:=by
  cases hr:ap8 (turn (o8 Γ.G n) (a8q.2++φ.lk) cU.length (cE m (kdOf sc) elt) mt (ifs.map (cE m (kdOf sc)))) a8q.1 ⟨[],φ.cX.filter λp=>(Tt sc).contains p.1,cU++ [.list []]⟩ with
  | none=>simp only[hr]at ev;exact iz ev
  | some r=>
   obtain⟨r,jH⟩:=r;cases r with
   | exc _ _=>simp only[hr]at ev;exact iz ev
   | ok u=>
    replace ev:=hr▸ev;refine Xk (c.it O Cs du (λb o e=>kp2 b o (kpD b o e)) ⟨yS,val,live,off,new,free,cX⟩) hT hB hE (c.a8o O) a (ai8 cg.len) ⟨fU,(c.frame O SD ((F.ext cQ).ext xD) (hC▸N)),xs,.refl,ara⟩ hr λfK s' S' F' x' My=> ?_;obtain⟨m',zc,_⟩:=F'.ns;exact hQ (aU.heap.objs.size,C) s' ((P.take ev:Q7 Γ l φ.lk ρ s (.ok (.ref cU.length)) jH.hp (Xl Γ s) Q E) fK s' _ (Ext.refl.trans' x' λb z=>z.imp id λz=>z.elim (λz=>cQ.live.none (z▸C1)) (by rintro⟨y,hy,z⟩;exact cQ.live.none (Cs _ (bz (c.own O hy z))))) S' ⟨_,C,m',⟨_, [],My⟩,zc,cQ.live.none C1,F'.wH,Z1 (bx aU.heap rfl) C0⟩)
 exact codeAny_compStart_list loop (yS.self 0 _ _ _ ara loop)
end
end
section
variable {Γ:Cx}{n m:Nat}{k:Kd}
section
variable {env:fP}{l:List fP}{A:bO}{lk:List Nat}{ρ fK:fj}{s s':aW}{H H':Hp}{sc:jK}{elt t it:aG}{ifs:List aG}{mt mi:j0}{p pos:sZ}
def gone {m:aJ->Option aD}(S:SR Γ ρ H s)(S':SR Γ fK H' s')(x:Ext Γ (n6 l) (Wr Γ lk ρ) ρ s fK s')(C0:s.heap.get? C=aB)(hn:s'.heap.Ns C m)(off:C∉fK.flatten)(sb:jE C s'.heap h'):
  SR Γ fK H' {s' with heap:=h'}∧Ext Γ (n6 l) (Wr Γ lk ρ) ρ s fK {s' with heap:=h'}:=
 ⟨S'.apart1 (qL.vh hn) off (I7 S C0).tab (I7 S C0).base sb.2,x.axm (λb o nb e=>(sb.2 b nb).trans e) λb hb=>hb▸C0⟩
def Xm (ok:ak7 k sc=au)(hI:CN Γ n k t it mi)(hT:CG Γ n (kdOf sc) t mt)(hB:AllB Γ n m (kdOf sc))(hE:U0 Γ n m (kdOf sc))(hs:∀env x,pY it env x=pure x):
  v9 Γ (n+1) k (.ListComp elt [⟨t,it,ifs,0⟩] sc p) (.comp (cE m (kdOf sc) elt) mt mi (ifs.map (cE m (kdOf sc))) (Tt sc)):=λenv l A φ H ρ s O a S F q H' ev Q E P=>by
 refine aN0 O a.pred ok hI hT hB hE hs S F q H' ev (λd s'=>compPost Γ.M A E aB Q (.ref d.1) d.2 (.ok .next) s') E ?_ Q λU U z=>z;cases q with
 | exc c m=>exact P
 | ok v=>
  intro fK s' d x S' r;obtain⟨D,C,m,hv,hn,C0,off,ne⟩:=r;refine⟨m,hn,λh' sb=> ?_⟩;obtain⟨fU,du⟩:=gone S S' x C0 hn off sb;exact P fK _ _ du fU (hv.one (qL.vh hn) sb.2)
def Xn (h:(S5 t).isNone=au):assignAll u ((qF [t] env).map (·.2))=wU t env u:=by rw[FJ h];rfl
def aE1 (he:v9 Γ n k e me)(ht:CG Γ n k t mt)(UL:(S5 t).isNone=au)(O:v8 Γ k env)(a:jy A l n)(hs:swapsWithSole [t] e p.line env=pure aC)(hw:qN [t] e env=pure aB)(S:SR Γ ρ σ.hp s)(F:FR Γ l ρ s.heap env σ.loc σ.cX):
  I8 Γ k l env lk ρ s (ik Γ.G (n+1) lk (.asg mt me) σ) (λQ E=>aP Γ.M A (adw (.Assign [t] e p) env) Q E s) (zg Γ):=
 (he env l A (σ.fm lk) σ.hp ρ s O a S F).stmt F (λQ E w=>auy (bH w (λu aU z=>pM (Xn UL) z) λU U z=>z) hs hw) λv cU aY aU u cQ cg hv=>
  (ht env l A lk v {σ with hp:=cU} aY aU u O a cg (F.ext cQ) hv).DN (λQ E w=>w) λU a8s dz bK U du fU yD U=> .ok λQ E P=>P.done fU yD rfl
def Oc {K:PQ (aV×aV)}(hsw:sy (.ListComp elt [⟨t,it,ifs,0⟩] sc p) (aa (.Name y py)) pos.line env=pure au)
  (h:aqz Γ A env s elt t it ifs sc p (firstIterPos [⟨t,it,ifs,0⟩] p) (aa (wU (.Name y py) env)) K E)
  (hK:∀d s',∀J:K d s',aP Γ.M A (wU (.Name y py) env (.ref d.1)) (λU s''=>∃m,s''.heap.Ns d.2 m∧∀h',∀J:jE d.2 s''.heap h',Q Flow.next {s'' with heap:=h'}) E s'):
  aP Γ.M A (adw (.Assign [.Name y py] (.ListComp elt [⟨t,it,ifs,0⟩] sc p) pos) env) Q E s:=pM (exec_Assign_Name_used _ _ _ _ hsw) (aj (dM (aj (aj (h _ λd s' z=>bH (hK d s' z) (by rintro _ s'' ⟨m,hn,r⟩;exact⟨m,hn,λh' sb=>aA (aA (r h' sb))⟩) λU U z=>z)))))
def Od (hy:k y=aa .local)(ok:ak7 k sc=au)(hI:CN Γ n k t it mi)(hT:CG Γ n (kdOf sc) t mt)(hB:AllB Γ n m (kdOf sc))(hE:U0 Γ n m (kdOf sc))(hs:∀env x,pY it env x=pure x)(O:v8 Γ k env)(a:jy A l n)
  (hsw:sy (.ListComp elt [⟨t,it,ifs,0⟩] sc p) (aa (.Name y py)) pos.line env=pure au) (S:SR Γ ρ σ.hp s) (F:FR Γ l ρ s.heap env σ.loc σ.cX):
  I8 Γ k l env lk ρ s (ik Γ.G (n+1+1) lk (.asg (.loc y) (.comp (cE m (kdOf sc) elt) mt mi (ifs.map (cE m (kdOf sc))) (Tt sc))) σ) (λQ E=>aP Γ.M A (adw (.Assign [.Name y py] (.ListComp elt [⟨t,it,ifs,0⟩] sc p) pos) env) Q E s) (zg Γ):=λq jH ev Q E P=>by
 refine Oc hsw ?_ λU U z=>z;refine q7.zQ (aN0 O a ok hI hT hB hE hs S F) F ev P λv cU aY aU d lU cQ cg r Fw=> ?_;obtain⟨D,C,m,hv,hn,C0,off,ne⟩:=r;obtain⟨f1,f2⟩:=ax3 (lk:=lk) S F C0;refine ud (Fx (σ:={σ with hp:=cU}) (lk:=lk) O hy cg (F.ext cQ) hv λlL qg tH Nf=> ?_);obtain⟨oC,hC,mC⟩:=qL.vh hn;have Xo:=qg.vf.keep C oC hC (λz=>(z.elim (λz=>z.elim (I7 S C0).tab (by rintro⟨i,r,e,hm,_⟩;exact off (cM.mpr ⟨r,bV e,hm⟩))) λz=>f1 (.inr z))) f2;refine⟨m,(Cu.ns (λo e=>⟨oC,Xo,congrArg Obj.data (ak (hC.symm.trans e))⟩) hn),λh' sb=> ?_⟩;refine(P.take lU:I9 Γ k l env lk ρ s (.ok .next) {σ with loc:=upd σ.loc y v,hp:=cU} (zg Γ) Q E) aY {lL with heap:=h'} .next ?_ (tH.apart1 ⟨oC,Xo,mC⟩ off (I7 S C0).tab (I7 S C0).base sb.2) (Nf.off ⟨λb o nb e=>(sb.2 b nb).trans e,λb o hb e=>ak (Xo.symm.trans (hb▸e))▸mC⟩ λb hb=> ?_) rfl
 ·exact(cQ.toS.trans' qg λb z=>z.back cQ.grow).axm (λb o nb e=>(sb.2 b nb).trans e) λb hb=>hb▸C0
 ·obtain rfl:b=C:=hb
  exact⟨f2,λz=>f1 (.inr (.inl z)),λy' c e z=>(F.oH y' c e).casesOn λo U ho U=>Z1 ho C0 z.symm⟩
end
end
section
variable {Γ:Cx}{n m:Nat}{k:Kd}
inductive EnP (PD:Nat->aD->Prop)(i:Nat)(h:bM):aD->Prop
 | mk (T:aV) (tk:RG) (y:aD) (hy:PD i y) (hT:h.get? T=aa {cls:= .type "tuple",data:= .seq #[.int i tk,y]}):EnP PD i h (.ref T)
def Jt {b e i:aV}(hb:b∈ [e,i]):b=e∨b=i:=(bc.mp hb).imp id aH.mp
def ah1 (ho:h.get? b=aa o)(hc:o.cls= .type T)(hk:jh T∈itK):V2 h b:=⟨o,ho,.inr (.inr (.inr (.inr (.inr (.inr (.inr (.inr (hc▸hk))))))))⟩
def ItC.enum {PD:Nat->aD->Prop}{StD:Nat->bM->Prop}(D:Draws Γ.prog Γ.w A.in1 it fpD N PD StD)(hei:e≠it)(hef:e∉fpD)(hif:it∈fpD)(tD:∀i h,∀J:StD i h,V2 h it){elts:List aG}{kk:Nat}{pos:sZ}:
  ItC Γ A (.Tuple elts kk pos) e (e::fpD) [e,it] N (λi v h=>EnP PD i h v) (λi h=>(∃old,IsEnum h e it i old)∧StD i h) where
 sub:=(rG D e hei hef hif).sub
 frame:=(rG D e hei hef hif).frame
 done:=(rG D e hei hef hif).done
 self:=(rG D e hei hef hif).self
 turns:=λi h st b hb=>(Jt hb).elim (λq=>q▸st.1.elim λold he=>ah1 he rfl (by decide)) λq=>q▸tD i h st.2
 item:=λi s Q E hi st hQ=>by obtain⟨⟨old,he⟩,hs⟩:=st;refine wpAny_pyNext_enum_itemD D he hs hi hei hef λx h' tk hP ho Jp hT Mi hk=>⟨_,rfl,wpAny_letOwnedTupleGo_enum ho λqD he' sb=> ?_⟩;exact hQ _ qD (tk+1) ⟨_,tk,x,hP,(sb.2 _ (pq (gf he))).trans hT⟩ ⟨⟨x,by simpa using he'⟩,D.frame _ _ _ Jp λb hb o y=>(sb.2 b λq=>hef (q▸hb)).trans y⟩ λb o hb y=>((sb.2 b (λq=>hb (q▸ .head _))).trans (hk b o (λq=>hb (q▸ .head _)) (λq=>hb (q▸ .tail _ (.head _))) y))
def Xp {i:Nat}(h:(zb l)[i]?=aa x):∃y,l[i]?=aa y∧x= .tup [.int i,y]:=by unfold zb at h;rw[gF]at h;obtain⟨p,hp,rfl⟩:=aj0 h;rw[List.getElem?_zipIdx]at hp;obtain⟨y,hy,rfl⟩:=aj0 hp;exact⟨y,hy,by rw[jd]⟩
def Xq (l:List V):(zb l).length=l.length:=by delta zb;rw[aF,List.length_zipIdx]
section
variable {A:bO}{l:List fP}{env:fP}{lk:List Nat}{ρ:fj}{H:Hp}{s:aW}{loc cX:j7}{Q:PQ aD}{E:PQ aD}{h₀:bM}{tg:aG}
def ayd (S:SR Γ ρ H s)(F:FR Γ l ρ s.heap env loc cX)(lv:R5 h₀ s.heap){P:Nat->aD->bM->Prop}{St:Nat->bM->Prop}(T:ItC Γ A tg I fp wr vs.length P St)(kp:∀b o,∀J:s.heap.get? b=aa o,h'.get? b=aa o)(Rj:St 0 h')
  (fpo:∀b∈fp,(s.heap.get? b=aB∧∃o,h'.get? b=aa o)∨((∃o,s.heap.get? b=aa o)∧Still Γ k l env (uh++lk) ρ b)) (wn:∀b∈wr,s.heap.get? b=aB) (hv:∀i v x fK qD,∀J:P i v qD,∀J:vs[i]?=aa x,∀J:I2 ρ h' fK,∀J:(∀b o,∀J:h'.get? b=aa o,∀J:¬M3 o,qD.get? b=aa o),VR Γ fK qD x v)
  (Pq:Q7 Γ l lk ρ s (.ok (vs,uh)) H (Aj Γ k A tg l env lk h₀) Q E):Q (.ref I) {s with heap:=h',toks:=tk}:=
 Pq ρ {s with heap:=h',toks:=tk} _ (Ext.keeps kp) (S.keeps kp) (.mk _ fp wr P St T Rj hv (λb hb=>(fpo b hb).elim (·.2) λq=>q.1.imp λo e=>kp b o e) (λb hb=>(fpo b hb).elim (λq=>ax3 S F q.1) (·.2)) (λb hb=>lv.none (wn b hb)) (λb hb=>I7 S (wn b hb)) λb hb y c e=>(F.oH y c e).casesOn λo U ho U=>(Z1 ho (wn b hb)).symm)
def aA5 (S:SR Γ ρ H s)(F:FR Γ l ρ s.heap env loc cX)(lv:R5 h₀ s.heap){uh:List Nat}{PD:Nat->aD->Prop}{StD:Nat->bM->Prop}
  (D:Draws Γ.prog Γ.w A.in1 s.heap.objs.size (s.heap.objs.size::rest) N PD StD) (tD:∀i h,∀J:StD i h,V2 h s.heap.objs.size) (hr:∀b∈rest,(∃o,s.heap.get? b=aa o)∧Still Γ k l env (uh++lk) ρ b)
  (hN:N=vs.length) (kp:∀b o,∀J:s.heap.get? b=aa o,h'.get? b=aa o) (he:IsEnum h' (s.heap.objs.size+1) s.heap.objs.size 0 .none) (Rj:StD 0 h') (hv:∀i y x,∀J:PD i y,∀J:vs[i]?=aa x,VR Γ ρ s.heap x y)
  (Pq:Q7 Γ l lk ρ s (.ok (zb vs,uh)) H (Aj Γ k A (.Tuple elts kk pos) l env lk h₀) Q E):aP Γ.M A (vy (.ref (s.heap.objs.size+1))) Q E {s with heap:=h',toks:=tk}:=by
 have fe:s.heap.get? (s.heap.objs.size+1)=aB:=gQ (eY _);obtain rfl:N=(zb vs).length:=by rw[Xq];exact hN
 have T:=ItC.enum (elts:=elts) (kk:=kk) (pos:=pos) D (yO _) (λh=>(bc.mp h).elim (yO _) λh=>(hr _ h).1.elim λo ho=>iz (fe.symm.trans ho)) (.head _) tD;refine T.self 0 _ Q E ⟨⟨_,he⟩,Rj⟩ (ayd S F lv T kp ⟨⟨_,he⟩,Rj⟩ (λb hb=> ?_) (λb hb=>(Jt hb).elim (λq=>q▸fe) λq=>q▸(N5 s.heap)) (λi v x fK qD hp hx g im=> ?_) Pq)
 ·rcases bc.mp hb with rfl | hb
  ·exact .inl ⟨fe,_,he⟩
  ·rcases bc.mp hb with rfl | hb
   ·exact .inl ⟨(N5 s.heap),(tD 0 h' Rj).casesOn λo ho U=>⟨o,ho⟩⟩
   ·exact .inr (hr b hb)
 ·obtain⟨y,hy,rfl⟩:=Xp hx
  obtain⟨T',Ae,w,hw,hT'⟩:=hp;exact⟨T',_,_,hT',.mk _ _ ⟨Ae⟩ (.mk w [] ((hv i w y hw hy).mono ((Ext.keeps (Γ:=Γ) (FS:= []) (W:=λU=>False) (s':={s with heap:=h'}) kp).grow.trans g (λb o e=>⟨o,kp b o e⟩)) λb o e nm=>im b o (kp b o e) nm) rfl)⟩
def aix {φ:Fm}{me:j0}{H:Hp}{β:Type}(g:V->Hp->Out β):jf (dD Γ.G n φ me H) g=jf (O6 (dD Γ.G n φ) [me] H) λvs H=>jf (ok [] H) λ(ks:List V) H=>opt (one vs) λv=>g v H:=by show _=jf (jf (dD Γ.G n φ me H) λv H=>ok [v] H) _;simp only[ax0];rfl
def Xr (hh:A.in1.handled=aB)(S:SR Γ ρ H s)(F:FR Γ l ρ s.heap env loc cX)(lv:R5 h₀ s.heap)(hv:VR Γ ρ s.heap v u):
  q7 Γ l lk ρ s (match v with | .QZ _=>aB | v=>opt (Ra H v) λl=>ok (zb l,ag1 v) H) (λQ E=>aP Γ.M A (call (.type "enumerate") [u]) (λx s'=>aP Γ.M A (vy x) Q E s') E s) (Aj Γ k A (.Tuple elts kk pos) l env lk h₀):=by
 cases v with
 | tup xs=>
  refine .ok λQ E P=> ?_;obtain⟨t,us,nn,ht,hs⟩:=hv;exact aP1 ht λh' he hit hz kp=>aA5 S F lv (Nx hh _ t (cW (gf ht)) us) (λi h st=>st.1.elim λo q=>ah1 q.1 q.2.1 (by decide)) (λb hb=>aH.mp hb▸⟨⟨_,ht⟩,Jc S F ht al9⟩) hs.size kp he ⟨hit,an8 (kp _ _ ht)⟩ (λi y x hy hx=>hs.get hx (by rw[cz];exact hy)) P
 | str x=>
  refine .ok λQ E P=> ?_;obtain⟨t⟩:=hv;have val:∀i w y,∀J:SignAt x i w,∀J:(x.cps.toList.map λc=>V.str ⟨#[c]⟩)[i]?=aa y,VR Γ ρ s.heap y w:=λi w y hw hy=>by obtain⟨c,tk,hc,rfl⟩:=hw;simp only[gF,cz,hc]at hy;obtain rfl:=ak hy;exact .mk tk
  have len:x.cps.size=(x.cps.toList.map λc=>V.str ⟨#[c]⟩).length:=by simp only[aF,dR]
  refine call_enumerate_str λh' he hit hz kp=> ?_;by_cases ha:x.cps.all (·<128)=au
  ·rw[show aov x="str_ascii_iterator" by exact bN ha]at hit
   exact aA5 (uh:= []) S F lv (Draws.strAscii hh _ x t) (λi h st=>st.elim λo q=>ah1 q.1 q.2.1 (by decide)) nofun len kp he hit val P
  ·rw[show aov x="str_iterator" by delta aov;exact aO (bk ha) rfl]at hit
   exact aA5 (uh:= []) S F lv (Draws.strWide hh _ x t) (λi h st=>st.elim λo q=>ah1 q.1 q.2.1 (by decide)) nofun len kp he hit val P
 | ref i=>
  refine .opt λys e=> ?_;refine j5 e λo hi e=> ?_;obtain⟨a,us,nn,_,hr,ha,hs,_⟩:=VR.list hv S (lst_inv e▸hi);exact .ok λQ E P=>call_enumerate_list (M7 ha) λh' he hit hz kp=>aA5 S F lv (Draws.list hh _ a (cW (gf ha)) us) (λi h st=>st.1.elim λo q=>ah1 q.1 q.2.1 (by decide)) (λb hb=>aH.mp hb▸⟨⟨_,ha⟩,aD9 S F hr (.head _) (.head _)⟩) hs.size kp he ⟨hit,M7 (kp _ _ ha)⟩ (λi y x hy hx=>hs.get hx (by rw[cz];exact hy)) P
 | _=>exact .none
end
def Xu (G:Z6 Γ)(ih:U0 Γ n m k)(hk:k ("enumerate":aJ)=aa .globalImplicit)(hn:W5 [e]=au):CN Γ n k (.Tuple elts kk pos) (.Call (.Name ("enumerate":aJ) np) [e] [] p) (.za (cE m k e)):=λenv l A φ H ρ s O a S F=>by show q7 Γ l φ.lk ρ s (jf (dD Γ.G n φ (cE m k e) H) λv H=>match v with | .QZ _=>aB | v=>opt (Ra H v) λl=>ok (zb l,ag1 v) H) _ _;rw[aix];refine q7.of (Jf (p:=([], [])) ih O a hn rfl S F λvs kvs cU aY aU us mG cQ cg iB hkv=> .opt λv hv=> ?_) λQ E w=>pZ (eX (ab5 O hk G.za S w) (by decide));obtain rfl:=ac8 hv;obtain⟨u,us,hu,hs⟩:=iB.1;obtain rfl:=gD.nil hs;exact q7.keep (keep_pure rfl) (Xr a.hand cg (F.ext cQ) cQ.live hu)
end
section
variable {Γ:Cx}{n m:Nat}{k:Kd}
section
variable {e:aG}
def ac9 (h:ue e=aa q):e= .Name q.1 q.2:=by
 cases e with
 | Name x p=>exact ak h▸rfl
 | _=>exact t7 h
def av0 (h:ar3 e=aa q):e= .Attribute q.1 q.2.1 q.2.2:=by
 cases e with
 | Attribute o x p=>exact ak h▸rfl
 | _=>exact t7 h
def am3 (h:aw6 e=aa q):e= .Call q.1 q.2.1 q.2.2.1 q.2.2.2:=by
 cases e with
 | Call f l ks p=>exact ak h▸rfl
 | _=>exact t7 h
def aW8 (h:constOf e=aa q):e= .Constant q.1 q.2.1 q.2.2:=by
 cases e with
 | Constant c j p=>exact ak h▸rfl
 | _=>exact t7 h
def aD4 (h:tupleOf e=aa q):e= .Tuple q.1 q.2.1 q.2.2:=by
 cases e with
 | Tuple l j p=>exact ak h▸rfl
 | _=>exact t7 h
def aY8 (h:S5 e=aa q):∃p,e= .Starred q p:=by
 cases e with
 | Starred a p=>exact ak h▸⟨p,rfl⟩
 | _=>exact t7 h
def aW9 (h:jt e=aa q):e= .Slice q.1 q.2.1 q.2.2.1 q.2.2.2:=by
 cases e with
 | Slice a b c p=>exact ak h▸rfl
 | _=>exact t7 h
def Oe (h:apr e=aa q):e= .Subscript q.1 q.2.1 q.2.2:=by
 cases e with
 | Subscript o i p=>exact ak h▸rfl
 | _=>exact t7 h
def O8 {α:Type}{l:List α}{a:α}(h:Bj l=aa a):l= [a]:=by
 rcases l with _ | ⟨b,_ | ⟨c,r⟩⟩
 ·exact t7 h
 ·exact congrArg (·:: []) (ak h)
 ·exact t7 h
def Og (h:litOf e=aa q):e= .Constant (.str q.1) q.2.1 q.2.2:=by
 refine j5 h λc h1 h=> ?_;refine j5 h λs h2 h=> ?_;obtain rfl:=ak h;refine aO (aW8 h1) ?_;cases hc:c.1 with
 | str x=>rw[hc]at h2;obtain rfl:x=s:=ak h2;rfl
 | _=>rw[hc]at h2;exact t7 h2
def al0 (h:at9 k x e=aa q):e= .Call (.Name x q.1) q.2.1 [] q.2.2∧k x=aa .globalImplicit:=by refine j5 h λc h1 h=> ?_;refine j5 h λnm h2 h=> ?_;refine I3 h λhc h=> ?_;obtain rfl:=ak h;obtain rfl:=gH (m8 (d8 hc));refine⟨?_,gM (m8 hc)⟩;exact aO (am3 h1) (aO (ac9 h2) (aO (cj.mp (d8 (d8 hc))) rfl))
end
def aiy (h:two vs=aa p):vs= [p.1,p.2]:=by
 rcases vs with _ | ⟨b,_ | ⟨c,_ | ⟨d,r⟩⟩⟩
 ·exact t7 h
 ·exact t7 h
 ·exact ak h▸rfl
 ·exact t7 h
def aiz (S:SR Γ ρ H s)(x:VR Γ ρ s.heap v u)(e:Ex H v=aa ns):∃a us nn,u= .ref a∧s.heap.get? a=aa (listOf us nn)∧ak2 ns us.toList:=by refine j5 e λp h1 h2=> ?_;obtain⟨a,us,nn,hi,hr,ha,hs,hz⟩:=x.listAt S h1;exact⟨a,us,nn,rfl,ha,aM3 h2 hs⟩
end
section
variable {Γ:Cx}{n m:Nat}{k:Kd}
def Ju (hb:b∉X):(fW h X).get? b=h.get? b:=by
 cases e:h.get? b with
 | some o=>exact jT X e hb
 | none=>
  cases e':(fW h X).get? b with
  | none=>rfl
  | some o=>exact nxS ((iR X e').symm.trans e)
def aE2 {X:List aV}(sb:∀b,∀J:b≠c,h'.get? b=h.get? b)(b:aV)(hb:b≠c):(fW h' X).get? b=(fW h X).get? b:=by
 by_cases q:b∈X
 ·simp only[pW X q,pW X q]
 ·simp only[Ju q,Ju q,sb b hb]
def ah2 (O:v8 Γ k env)(hk:k x=aa .globalImplicit)(g:Bl Γ x u)(X:Γ.K.In s.heap)(h:Q u s):aP M A (aok env x) Q E s:=by
 refine pM (QL O.kind (O.jq x hk)) ?_;delta loadGlobal;refine aO O.glob (aO O.blt ?_);rcases g with g | ⟨g1,g2⟩
 ·exact aj ((oW X g).here (aA h))
 ·exact aj ((oW X g1).here (aj ((oW X g2).here (aA h))))
def aj3 (h:(del e x).lookup y=aa v):y≠x∧e.lookup y=aa v:=(X6 (λz=>decide (z≠x)) h).imp gH id
inductive Xv (h:bM)(c:String)(mm:aJ)(a:aV):Prop
 | mk (o:ou) (vs:Array aD) (t:aV) (tk:RG) (n:Nat) (x:Cm h c mm a o vs t tk n):Xv h c mm a
structure DX (Γ:Cx)(l:List fP)(env:fP)(ρ:fj)(H:Hp)(loc cX:j7)(X:List aV)(a:aV)(c:String)(mm:aJ)(m:aJ->Option aD)(s:aW):Prop where
 S:SR Γ ρ H (tE s X)
 F:FR Γ l ρ (tE s X).heap env loc cX
 exc:Xv s.heap c mm a
 hn:s.heap.Ns env.locals m
 hl:∀y v,∀J:loc.lookup y=aa v,∃u,m y=aa u∧VR Γ ρ (tE s X).heap v u
section
variable {l:List fP}{env:fP}{ρ iu:fj}{H:Hp}{loc zj cX:j7}{X:List aV}{a:aV}{c:String}{mm:aJ}{M M':aJ->Option aD}{s iC:aW}{h':bM}{tk:Nat}{W:aV->Prop}
theorem DX.qJ (C:DX Γ l env ρ H loc cX X a c mm M s):Γ.K.In s.heap:=λb o e=>iR X (C.S.qJ b o e)
def DX.off (C:DX Γ l env ρ H loc cX X a c mm M s):env.locals∉X:=C.F.ns.there.elim λo ho=>U3 ho
def Xw (hn:h'.Ns env.locals M)(hX:env.locals∉X):(fW h' X).Ns env.locals M:=by obtain⟨o,es,ep,ho,r⟩:=hn;exact⟨o,es,ep,jT X ho hX,r⟩
def DX.of (S:SR Γ ρ H (tE s X))(F:FR Γ l ρ (tE s X).heap env loc cX)(f:Bk h₀ l c mm a X s.heap x):∃M,DX Γ l env ρ H loc cX X a c mm M s:=by refine uG λY Z=> ?_;obtain⟨o,vs,t,tk,n,hX,aX,ex,tX,tf,w⟩:=f;obtain⟨M,⟨oL,es,ep,ho,r⟩,hl⟩:=F.ns;exact Z ⟨M,S,F,⟨o,vs,t,tk,n,ex⟩,⟨oL,es,ep,iR X ho,r⟩,hl⟩
def DX.put (C:DX Γ l env ρ H loc cX X a c mm M s)(zc:h'.Ns env.locals M')(sb:jE env.locals s.heap h')(hw:∀J:(zj.lookup ("errors":aJ)).isSome=au,Γ.sE env)(hl':∀y v,∀J:zj.lookup y=aa v,∃u,M' y=aa u∧VR Γ ρ (tE s X).heap v u):
  DX Γ l env ρ H zj cX X a c mm M' {s with heap:=h',toks:=tk}∧Ext Γ (n6 l) (·=env.locals) ρ (tE s X) ρ (tE {s with heap:=h',toks:=tk} X):=by
 have sb':=aE2 (X:=X) sb.2;have T:=qL.vh (Xw C.hn C.off);have hnH:=Xw zc C.off;refine uG λY Z=> ?_;obtain⟨oL,hoL,_⟩:=qL.vh hnH;obtain⟨oD,DY,epD,hoD,hdD,_⟩:=C.hn;obtain⟨o,vs,t,Ae,n,⟨e1,e2,e3,e4,e5,e6⟩⟩:=C.exc;refine Z ?_;exact⟨⟨C.S.apart1 T C.F.wH C.F.xJ C.F.Ac sb',C.F.Vi T hnH sb' hl' hw,⟨o,vs,t,Ae,n,(sb.2 a (λq=>by rw[q,hoD]at e1;cases e1;cases hdD.symm.trans e3)).trans e1,e2,e3,e4,e5,(sb.2 t (λq=>by rw[q,hoD]at e6;cases e6;cases hdD)).trans e6⟩,zc,λy v e=>(hl' y v e).imp λu q=>⟨q.1,q.2.one T sb'⟩⟩,.apart1 T rfl hoL sb'⟩
def DX.write (C:DX Γ l env ρ H loc cX X a c mm M s)(zc:h'.Ns env.locals M')(sb:jE env.locals s.heap h')(hl:∀y v,∀J:zj.lookup y=aa v,M' y=M y∧loc.lookup y=aa v):
  DX Γ l env ρ H zj cX X a c mm M' {s with heap:=h',toks:=tk}∧Ext Γ (n6 l) (·=env.locals) ρ (tE s X) ρ (tE {s with heap:=h',toks:=tk} X):=
 C.put zc sb (λh=>C.F.Fp ((bT.mp h).elim λv e=>by refine aO ((hl _ v e).2) ?_;rfl)) λy v e=>(C.hl y v (hl y v e).2).imp λu q=>⟨(hl y v e).1.trans q.1,q.2⟩
def DX.fin (C:DX Γ l env ρ H (del loc x) cX X a c mm M s)(O:v8 Γ k env)(hx:k x=aa .local)(hW:W env.locals)(xs:Ext Γ (n6 l) W iu iC ρ (tE s X))
  (hQ:∀s',∀J:Ext Γ (n6 l) W iu iC ρ s',∀J:SR Γ ρ H s',∀J:FR Γ l ρ s'.heap env (del loc x) cX,Q () s'):aP Γ.M A (do aow env x .none;aox env x pos) Q E s:=by
 have kf:(env.scope.kind== .class || (env.scope.kind== .module&&env.locals !=env.globals))=aC:=by refine aO O.kind ?_;rfl
 refine aj (wpAny_bindName (qt (O.loc x hx) C.hn (λh1 hn1 sb1=> ?_) kf));obtain⟨C1,x1⟩:=C.write hn1 sb1 λy v e=>⟨bk (aj3 e).1,e⟩;refine wpAny_onRaise (wpAny_unbindName_local (O.loc x hx) hn1 (bN rfl) kf λh2 u hn2 sb2=> ?_);obtain⟨C2,x2⟩:=C1.write hn2 sb2 λy v e=>⟨bk (aj3 e).1,e⟩;have kp:∀b o,∀J:(fW h2 X).get? b=aa o,h2.get? b=aa o:=λb o e=>iR X e;have xr:Ext Γ (n6 l) (λU=>False) ρ (tE {s with heap:=h2,toks:=s.toks+1} X) ρ {s with heap:=h2,toks:=s.toks+1}:=Ext.keeps kp;exact hQ _ (((xs.trans' x1 (λb hb=> .inl (hb▸hW))).trans' x2 (λb hb=> .inl (hb▸hW))).trans' xr λb hb=>hb.elim) (SR.keeps C2.S kp) (FR.ext (lk:= []) C2.F (xr.weaken λU z=>z.elim))
end
structure Gg (k:Kd)(h:DK):Prop where
 exc:(yq h.cls).isSome=au
 kc:k h.cls=aa .globalImplicit
 kx:k h.x=aa .local
 xe:h.x≠("errors":aJ)
 xd:h.x≠("__debug__":aJ)
 kt:k h.to=aa .local
 ne:h.to≠h.x
 ks:k ("str":aJ)=aa .globalImplicit
abbrev CQ (h:DK)(p2 p3 p4:sZ):aG:= .Call (.Name ("str":aJ) p2) [.Name h.x p3] [] p4
inductive ax5 (h:DK):lM->Prop
 | app (p2 p3 p4 yp ap p ep:sZ) (ha:h.app=au) (td:h.to≠("__debug__":aJ)) (hl:(ap.endLine==p.line)=au):ax5 h (.Expr (.Call (.Attribute (.Name h.to yp) ("append":aJ) ap) [CQ h p2 p3 p4] [] p) ep)
 | asg (p2 p3 p4 yp p:sZ) (ha:h.app=aC) (tc:h.to≠("__class__":aJ)):ax5 h (.Assign [.Name h.to yp] (CQ h p2 p3 p4) p)
inductive aja (h:DK):∀J:jO,Prop
 | mk (np pos:sZ) (st:lM) (hs:ax5 h st):aja h (.ExceptHandler (aa (.Name h.cls np)) (aa h.x) [st] pos)
def aN1 (h:cText k x e=aa pre):k ("str":aJ)=aa .globalImplicit∧∃p2 p3 p4,e= .Call (.Name ("str":aJ) p2) [.Name x p3] [] p4:=by refine oG (Y9 h) λc h3 h=> ?_;refine oG (Y9 h) λa h4 h=> ?_;refine oG (Y9 h) λy h5 h=> ?_;obtain⟨hc,h⟩:=J9 h;obtain⟨q,hk⟩:=al0 h3;exact⟨hk,c.1,y.2,c.2.2,aO q (aO (O8 h4) (aO (ac9 h5) (aO (gH hc) rfl)))⟩
def aY9 (h:Tz s=aa e):∃p,s= .Expr e p:=by
 cases s with
 | Expr a p=>exact ak h▸⟨p,rfl⟩
 | _=>exact t7 h
def Oh (h:TF s=aa q):∃ep,s= .Expr (.Call (.Attribute (.Name q.1.1 q.1.2) q.2.1.1 q.2.1.2) [q.2.2.1] q.2.2.2.1 q.2.2.2.2) ep:=by refine j5 h λe h1 h=> ?_;refine j5 h λc h2 h=> ?_;refine j5 h λm h3 h=> ?_;refine j5 h λy h4 h=> ?_;refine j5 h λa h5 h=> ?_;obtain rfl:=ak h;refine(aY9 h1).imp λep h=> ?_;exact aO h (aO (am3 h2) (aO (av0 h3) (aO (ac9 h4) (aO (O8 h5) rfl))))
def Oi (h:apu s=aa q):∃p,s= .Assign [.Name q.1.1 q.1.2] q.2 p:=by
 cases s with
 | Assign ts e p=>
  refine j5 h λt h1 h=> ?_;refine j5 h λy h2 h=> ?_;obtain rfl:=ak h;exact⟨p,aO (O8 h1) (aO (ac9 h2) rfl)⟩
 | _=>exact t7 h
structure aye (k:Kd)(c x:aJ)(sm:lM)(h:DK):Prop where
 hc:h.cls=c
 hx:h.x=x
 kt:k h.to=aa .local
 ne:h.to≠x
 ks:k ("str":aJ)=aa .globalImplicit
 su:ax5 h sm
def ajb (e:cHA k c x sm=aa h):aye k c x sm h:=by
 delta cHA at e;cases hq:TF sm with
 | some q=>
  rw[hq]at e;refine j5 e λU h8 e=> ?_;refine I3 e λhc e=> ?_;obtain rfl:=ak e;refine uG λY Z=> ?_;obtain⟨hk,p2,p3,p4,q8⟩:=aN1 h8;obtain⟨ep,q3⟩:=Oh hq;refine Z ?_;refine⟨rfl,rfl,gM (m8 (d8 (d8 (d8 hc)))),gH (m8 (d8 (d8 hc))),hk, ?_⟩;exact aO q3 (aO q8 (aO (cj.mp (d8 (d8 (d8 (d8 (d8 hc)))))) (aO (gH (m8 (d8 (d8 (d8 (d8 hc)))))) (.app _ _ _ _ _ _ _ rfl (gH (m8 (d8 hc))) (m8 hc)))))
 | none=>
  rw[hq]at e;refine j5 e λq h1 e=> ?_;refine j5 e λU h8 e=> ?_;refine I3 e λhc e=> ?_;obtain rfl:=ak e;refine uG λY Z=> ?_;obtain⟨hk,p2,p3,p4,q8⟩:=aN1 h8;obtain⟨ep,q3⟩:=Oi h1;refine Z ?_;refine⟨rfl,rfl,gM (d8 (d8 hc)),gH (m8 (d8 hc)),hk, ?_⟩;exact aO q3 (aO q8 (.asg _ _ _ _ _ rfl (gH (m8 hc))))
def ayf (e:cH k hd=aa h):Gg k h∧aja h hd:=by obtain⟨t,x,b,pos⟩:=hd;refine j5 e λt ht e=> ?_;refine j5 e λc h1 e=> ?_;refine j5 e λx hx e=> ?_;refine j5 e λst h2 e=> ?_;refine I3 e λhc e=> ?_;obtain⟨q1,q2,q3,q4,q5,q6⟩:=ajb e;refine⟨⟨q1▸(d8 (d8 (d8 (d8 hc)))),q1▸gM (m8 (d8 (d8 (d8 hc)))),q2▸gM (m8 (d8 (d8 hc))),q2▸gH (m8 (d8 hc)),q2▸gH (m8 hc),q3,q2▸q4,q5⟩, ?_⟩;rw[ht,ac9 h1,hx,O8 h2,←q1,←q2];exact .mk _ _ _ q6
end
section
variable {Γ:Cx}{n m:Nat}{k:Kd}
def ayg:pI (.type "ValueError") (.type "ValueError")=pure au:=by rw[iy];kernel_rfl
def ayh:pI (.type "TypeError") (.type "TypeError")=pure au:=by rw[iy];kernel_rfl
def ayi:pI (.type "ValueError") (.type "TypeError")=pure aC:=by rw[iy];kernel_rfl
def ayj:pI (.type "TypeError") (.type "ValueError")=pure aC:=by rw[iy];kernel_rfl
def Xx:pI (.type "ValueError") (.type "BaseException")=pure au:=by rw[iy];kernel_rfl
def Xy:pI (.type "TypeError") (.type "BaseException")=pure au:=by rw[iy];kernel_rfl
def Xz:pI (.type ((RV "ValueError").elim "type" λx=>x.metatype)) (.type "tuple")=pure aC:=by rw[iy];kernel_rfl
def XC:pI (.type ((RV "TypeError").elim "type" λx=>x.metatype)) (.type "tuple")=pure aC:=by rw[iy];kernel_rfl
def ayk (h:y≠x):∀{e:j7},(del e x).lookup y=e.lookup y:=by
 intro e
 induction e with
 | nil=>rfl
 | cons p r ih=>
  obtain⟨z,v⟩:=p;show(((z,v)::r).filter λp=>decide (p.1≠x)).lookup y=_;by_cases q:z=x
  ·rw[bw (by simpa using q),w5 (λc=>h (c.trans q))];exact ih
  ·rw[bD (by simpa using q)]
   by_cases c:y=z
   ·rw[c,G9,G9]
   ·rw[w5 c,w5 c];exact ih
def ayl {α β:Type}{lk:List Nat}{H:Hp}{i:Nat}{o:m6}{a:α}{σ jH:St}{f:α->St->G5 β}{q:Res β}(e:Q5 (lq σ (put lk H i o a)) f=aa (q,jH)):i∉lk∧f a {σ with hp:=H.set i o}=aa (q,jH):=by
 unfold put at e;cases h:lk.contains i with
 | true=>rw[h]at e;exact iz e
 | false=>rw[h]at e;exact⟨λhm=>(Ss ((cJ.mpr hm).symm.trans h)),e⟩
section
variable {A:bO}{env:fP}{s:aW}{E:PQ aD}{h:DK}{M:aJ->Option aD}{a:aV}{c:String}{mm:aJ}
def aS0 (G:Z6 Γ)(O:v8 Γ k env)(K:Gg k h)(hu:A.units+30<vL)(X:Γ.K.In s.heap)(hn:s.heap.Ns env.locals M)(hm:M h.x=aa (.ref a))(ex:Xv s.heap c mm a)
  (hQ:∀tk,Q (.str mm tk) s):aP Γ.M A (eval (CQ h p2 p3 p4) env) Q E s:=by
 obtain⟨o,vs,t,tk,n,⟨e1,e2,e3,e4,e5,e6⟩⟩:=ex;refine pZ (eX (ah2 O K.ks G.str X ?_) (by decide));refine pH (P:=λU=>True) rfl (λh U=>⟨.machine,.inr (.inl rfl),nA rfl⟩) (nu ?_);refine jk (eX (gB O.kind (O.loc _ K.kx) hn hm ?_) (J0 K.xd));refine mY ⟨trivial, ?_⟩;rcases e4 with rfl | rfl
 ·exact nZ yX (bB (bG (by decide) _) hu) ⟨o,vs,e1,e2,e3,e5⟩ ⟨_,n,e6,rfl,rfl⟩ (hQ _)
 ·exact nZ zL (bB (bG (by decide) _) hu) ⟨o,vs,e1,e2,e3,e5⟩ ⟨_,n,e6,rfl,rfl⟩ (hQ _)
def Oj (G:Z6 Γ)(O:v8 Γ k env)(K:Gg k h)(td:h.to≠("__debug__":aJ))(hl:(ap.endLine==p.line)=au)(hu:A.units+30<vL)(X:Γ.K.In s.heap)(hn:s.heap.Ns env.locals M)(hm:M h.x=aa (.ref a))(ex:Xv s.heap c mm a)
  (ht:M h.to=aa (.ref D)) (hD:s.heap.get? D=aa (listOf us nD)) (hs:us.size≤16777216) (hQ:∀tk,Q .next {s with heap:=s.heap.update D (dY (·.push (.str mm tk)))}):
  aP Γ.M A (aop [.Expr (.Call (.Attribute (.Name h.to yp) ("append":aJ) ap) [CQ h p2 p3 p4] [] p) ep] env) Q E s:=by
 refine qG (wpAny_Expr_any ?_ (by simp [aoq,O.kind]) rfl);refine aq3 rfl hl rfl rfl (uU rfl) (eX (gB O.kind (O.loc _ K.kt) hn ht λpl=> ?_) (J0 td));refine getMethod_list_append hD rfl rfl ?_;refine pH (P:=λU=>True) rfl (λh U=>⟨.machine,.inr (.inl rfl),nA rfl⟩) (nu ?_);refine jk (aS0 G O K hu X hn hm ex λtk=>mY ⟨trivial, ?_⟩);exact au9 hD hs (oN (hQ tk))
def Ol (G:Z6 Γ)(O:v8 Γ k env)(K:Gg k h)(hu:A.units+30<vL)(X:Γ.K.In s.heap)(hn:s.heap.Ns env.locals M)(hm:M h.x=aa (.ref a))(ex:Xv s.heap c mm a)
  (hQ:∀tk h' Ae,∀J:h'.Ns env.locals (λy=>if y=h.to then aa (.str mm tk) else M y),∀J:jE env.locals s.heap h',Q .next {s with heap:=h',toks:=Ae}):
  aP Γ.M A (aop [.Assign [.Name h.to yp] (CQ h p2 p3 p4) p] env) Q E s:=
 qG (auy (aS0 G O K hu X hn hm ex λtk=>ud (qt (O.loc _ K.kt) hn (λh6 hn6 sb6=>oN (hQ tk h6 _ hn6 sb6)) (by refine aO O.kind ?_;rfl))) rfl rfl)
end
section
variable {l:List fP}{env:fP}{ρ iu:fj}{X:List aV}{a:aV}{c:String}{mm:aJ}{s iC:aW}{lk:List Nat}{A:bO}{σ jH:St}{q:Res Fl}{h₀:bM}{Q:PQ Flow}{E:PQ aD}{hd:jO}{h:DK}{rest:List jO}
def aA6 {c:aJ}(h:(yq c).isSome=au):c≠("__debug__":aJ):=λe=>by subst e;exact absurd h (by decide)
def XD (G:Z6 Γ)(O:v8 Γ k env)(K:Gg k h)(hs:aja h hd)(vg:h.cls≠kO c)(S:SR Γ ρ σ.hp (tE s X))(f:Bk h₀ l c mm a X s.heap (aa .none))
  (w:aP Γ.M A (aoy (.ref a) env rest) Q E s):aP Γ.M A (aoy (.ref a) env (hd::rest)) Q E s:=by
 refine uG λY Z=> ?_;obtain⟨np,pos,st,hs⟩:=hs;obtain⟨o,vs,t,tk,n,hX,aX,⟨e1,e2,e3,e4,e5,e6⟩,tX,tf,wy⟩:=f;obtain⟨x,hx⟩:=bT.mp K.exc;refine Z ?_;rcases aM2 hx with⟨q,_⟩ | ⟨q,_⟩<;>rcases e4 with rfl | rfl
 ·exact absurd q vg
 ·exact nR Xx Xz ayj (eX (ah2 O K.kc (q▸G.ve) (λb o e=>iR X (S.qJ b o e)) ⟨rfl,⟨o,e1,e2⟩,w⟩) (J0 (aA6 K.exc)))
 ·exact nR Xy XC ayi (eX (ah2 O K.kc (q▸G.te) (λb o e=>iR X (S.qJ b o e)) ⟨rfl,⟨o,e1,e2⟩,w⟩) (J0 (aA6 K.exc)))
 ·exact absurd q vg
def aS1 (G:Z6 Γ)(O:v8 Γ k env)(hu:A.units+30<vL)(K:Gg k h)(UL:ax5 h sm)(S:SR Γ ρ σ.hp (tE s X))(F:FR Γ l ρ (tE s X).heap env σ.loc σ.cX)(f:Bk h₀ l c mm a X s.heap (aa .none))
  (xs:Ext Γ (n6 l) (vV Γ k lk iu env) iu iC ρ (tE s X)) (ev:hnd lk h mm σ=aa (q,jH)) (P:I9 Γ k l env lk iu iC q jH (zg Γ) Q E):
  aP Γ.M A (setFlight (.ref a) aB) (λU bK=>aP Γ.M A (storeName env h.x (.ref a)) (λU lL=>aP Γ.M A (aop [sm] env) (λfl wI=>
    aP Γ.M A' (do aow env h.x .none;aox env h.x pos) (λU kJ=>Q fl kJ) E wI) E3 lL) E2 bK) E1 s:=by
 refine az7 f λh4 f4 k4=> ?_;have x4:Ext Γ (n6 l) (λU=>False) ρ (tE s X) ρ (tE {s with heap:=h4} X):=Ext.keeps k4;obtain⟨M,C4⟩:=DX.of (S.keeps k4) (FR.ext (lk:=lk) F (x4.weaken λU z=>z.elim)) f4;refine qt (O.loc _ K.kx) C4.hn (λh5 hn5 sb5=> ?_) (by refine aO O.kind ?_;rfl);obtain⟨C5,x5⟩:=C4.write hn5 sb5 λy v e=>⟨bk (aj3 e).1,(aj3 e).2⟩;have xs5:=(xs.trans' x4 λb z=>z.elim).trans' x5 λb hb=> .inl (hb▸(.inr (.inl rfl)));delta hnd at ev;cases UL with
 | asg p2 p3 p4 yp p ha tc=>
  replace ev:=(bk (λz=>qI (ha.symm.trans z)))▸ev;refine Ol G O K hu C5.qJ hn5 (bN rfl) C5.exc λtk h6 Ae hn6 sb6=> ?_;have hw:∀J:((del (upd σ.loc h.to (.str mm)) h.x).lookup ("errors":aJ)).isSome=au,Γ.sE env:=λz=>by
   obtain⟨v,e⟩:=bT.mp z;replace e:=ac6▸(aj3 e).2;by_cases q:("errors":aJ)=h.to
   ·exact O.Fp (q▸K.kt)
   ·replace e:=(bk q)▸e
    exact F.Fp (aO e rfl)
  have hl':∀y v,∀J:(del (upd σ.loc h.to (.str mm)) h.x).lookup y=aa v,∃u,(if y=h.to then aa (Value.str mm tk) else(λy=>if y=h.x then aa (Bu a) else M y) y)=aa u∧VR Γ ρ (tE {s with heap:=h5,toks:=s.toks+1} X).heap v u:=λy v e=>by
   obtain⟨ne,e⟩:=aj3 e;rw[ac6]at e;by_cases q:y=h.to
   ·rw[bN q]at e
    obtain rfl:=ak e;exact⟨_,bN q,.mk tk⟩
   ·rw[bk q]at e
    exact(C5.hl y v ((ayk ne).trans e)).imp λu z=>⟨(bk q).trans z.1,z.2⟩
  obtain⟨C6,x6⟩:=C5.put hn6 sb6 hw hl';exact C6.fin O K.kx (.inr (.inl rfl)) (xs5.trans' x6 λb hb=> .inl (hb▸(.inr (.inl rfl)))) λs' xf Sf Ff=>(P.take ev:I9 Γ k l env lk iu iC (.ok .next) {σ with loc:=del (upd σ.loc h.to (.str mm)) h.x} (zg Γ) Q E) ρ s' .next xf Sf Ff rfl
 | app p2 p3 p4 yp ap p ep ha td hl=>
 replace ev:=(bN ha)▸ev;refine j5 ev λv hv ev=> ?_;refine j5 ev λpl hp ev=> ?_;refine I3 ev λhr ev=> ?_;refine uG λY Z=> ?_;obtain⟨ju,ev⟩:=ayl ev;refine Z ?_;refine oG (C4.hl h.to v hv) λu hu1 hvu=> ?_;obtain⟨D,us,nD,hi,hrr,hD,hDs,hDz⟩:=(VR.ext hvu x5).listAt C5.S hp;have hDr:=iR X hD;refine Oj G O K td hl hu C5.qJ hn5 (bN rfl) C5.exc ((bk K.ne).trans hu1) hDr (hDs.size▸hDz) λtk1=> ?_;have other:∀b,∀J:b≠D,(h5.update D (dY (·.push (.str mm tk1)))).get? b=h5.get? b:=λb hb=>kI _ _ (Ne.symm hb);obtain⟨nE,hb6⟩:∃n,(h5.update D (dY (·.push (.str mm tk1)))).get? D=aa (listOf (us.push (.str mm tk1)) n):=⟨_,jl _ hDr rfl⟩;generalize h5.update D (dY (·.push (.str mm tk1)))=h6 at*
 generalize s.toks+1=tk2 at*
 have x6:Ext Γ (n6 l) (Wr Γ lk ρ) ρ (tE {s with heap:=h5,toks:=tk2} X) ρ (tE {s with heap:=h6,toks:=tk2} X):=Ext.Fq C5.S hi hrr ju (λb o hb e=>(aE2 other b λq=>hb (q▸ .head _)).trans e) λb hb=>by obtain rfl:=aH.mp hb;exact⟨_,(jT X hb6 (U3 hD))⟩
 have S6:=C5.S.Fq (s':=tE {s with heap:=h6,toks:=tk2} X) (mo':= .list (pl.2++ [.str mm])) hi hrr (λb o hb e=>(aE2 other b λq=>hb (q▸ .head _)).trans e) ⟨D,_,_,(jT X hb6 (U3 hD)),by
  refine aO lD ?_;exact(gD.ext hDs x6).append (.mk _ [] ⟨tk1⟩ rfl),by refine aO az ?_;exact I5 hr⟩
 have dat:∀{b:aV}{o:ou},∀J:h5.get? b=aa o,∀J:(∀us n,o.data≠ .seq us n)∨o.cls≠ .type "list",b≠D:=λe d z=>by simp only[z,hDr]at e;cases e;exact d.elim (λd=>d _ _ rfl) λd=>d rfl
 obtain⟨o,vs,t,tk,n,⟨e1,e2,e3,e4,e5,e6⟩⟩:=C5.exc;have C6:DX Γ l env ρ (σ.hp.set pl.1 (.list (pl.2++ [.str mm]))) (del σ.loc h.x) σ.cX X a c mm _ {s with heap:=h6,toks:=tk2}:=
  ⟨S6,C5.F.ext x6,⟨o,vs,t,tk,n,(other a (dat e1 (.inl λus n q=>nomatch e3.symm.trans q))).trans e1,e2,e3,e4,e5,(other t (dat e6 (.inr (show jh "tuple" ≠ .type "list" by decide)))).trans e6⟩,Cu.ns (λo e=>⟨o,(other _ λ(z:env.locals=D)=>C5.F.wH (aO z (cM.mpr ⟨_,bV hrr,.head _⟩))).trans e,rfl⟩) hn5,λy v e=>(C5.hl y v e).imp λu q=>⟨q.1,VR.ext q.2 x6⟩⟩
 exact C6.fin O K.kx (.inr (.inl rfl)) (xs5.trans' x6.toS λb z=>z.back xs5.grow) λs' xf Sf Ff=>(P.take ev:I9 Γ k l env lk iu iC (.ok .next) {σ with hp:=σ.hp.set pl.1 (.list (pl.2++ [.str mm])),loc:=del σ.loc h.x} (zg Γ) Q E) ρ s' .next xf Sf Ff rfl
def ajc (G:Z6 Γ)(O:v8 Γ k env)(a0:jy A l (n+1))(K:Gg k h)(hs:aja h hd)(wJ:h.cls=kO c)(S:SR Γ ρ σ.hp (tE s X))(F:FR Γ l ρ (tE s X).heap env σ.loc σ.cX)(f:Bk h₀ l c mm a X s.heap (aa .none))
  (xs:Ext Γ (n6 l) (vV Γ k lk iu env) iu iC ρ (tE s X)) (ev:hnd lk h mm σ=aa (q,jH)) (P:I9 Γ k l env lk iu iC q jH (zg Γ) Q E):aP Γ.M A (aoy (.ref a) env (hd::rest)) Q E s:=by
 obtain⟨np,pos,st,UL⟩:=hs;have f0:=f;obtain⟨o,vs,t,tk,nn,hX,aX,⟨e1,e2,e3,e4,e5,e6⟩,tX,tf,wy⟩:=f0;have hu:(A.mark (aa (.ref a))).units+30<vL:=by have:=a0.units;show A.units+30<vL;lia
 rcases e4 with rfl | rfl
 ·exact nR Xx Xz ayg (eX (ah2 O K.kc (wJ▸G.ve) (λb o e=>iR X (S.qJ b o e)) ⟨rfl,⟨o,e1,e2⟩,aS1 G O hu K UL S F f xs ev P⟩) (J0 (aA6 K.exc)))
 ·exact nR Xy XC ayh (eX (ah2 O K.kc (wJ▸G.te) (λb o e=>iR X (S.qJ b o e)) ⟨rfl,⟨o,e1,e2⟩,aS1 G O hu K UL S F f xs ev P⟩) (J0 (aA6 K.exc)))
theorem Jv (G:Z6 Γ)(O:v8 Γ k env)(a0:jy A l (n+1))(S:SR Γ ρ σ.hp (tE s X))(F:FR Γ l ρ (tE s X).heap env σ.loc σ.cX)(f:Bk h₀ l c mm a X s.heap (aa .none))
  (xs:Ext Γ (n6 l) (vV Γ k lk iu env) iu iC ρ (tE s X)) (ev:hnd lk h mm σ=aa (q,jH)) (P:I9 Γ k l env lk iu iC q jH (zg Γ) Q E):∀{hs:List jO}{mhs:List DK},∀J:cHs k hs=aa mhs,∀J:(mhs.find? λh=>h.cls=kO c)=aa h,aP Γ.M A (aoy (.ref a) env hs) Q E s
 | [],_,e,hf=>by obtain rfl:=ak e;exact iz hf
 | y::ys,mhs,e,hf=>by
  refine j5 e λmy e1 e=> ?_;refine j5 e λmys e2 e=> ?_;obtain rfl:=ak e;obtain⟨K,hs⟩:=ayf e1;by_cases wJ:my.cls=kO c
  ·rw[oO (by simpa using wJ)]at hf
   obtain rfl:=ak hf;exact ajc G O a0 K hs wJ S F f xs ev P
  ·rw[oR (by simpa using wJ)]at hf
   exact XD G O K hs wJ S f (Jv G O a0 S F f xs ev P e2 hf)
end
def XF (G:Z6 Γ)(ih:yx Γ n)(hh:cHs k hs=aa mhs)(vg:hs.isEmpty=aC):W0 Γ (n+1) k (.Try b hs [] [] p) (.Ew (b.map (cS m k)) mhs):=λenv l A lk σ ρ s O W a S F q jH ev Q E P=>by
 cases hs with
 | nil=>exact Ss vg
 | cons y ys=>
  refine wpAny_Try_except ?_;have ev:(match z8 (ik Γ.G n lk) (b.map (cS m k)) σ with
   | some (.ok f,σ)=>eO f σ
   | some (.exc c m,σ)=>opt (mhs.find? λh=>h.cls=kO c) λh=>hnd lk h m σ
   | none=>aB)=aa (q,jH):=ev
  cases hq:z8 (ik Γ.G n lk) (b.map (cS m k)) σ with
  | none=>simp only[hq]at ev;exact iz ev
  | some pr=>
   obtain⟨res,ir⟩:=pr;rw[hq]at ev;cases res with
   | ok fl=>
    refine(ao3 ih O W a.pred b S F) _ _ hq _ _ λfK s' u x S' F' r=> ?_;have P':=P.take ev fK s';cases fl with
    | next=>obtain rfl:u= .next:=r;exact oN (P' .next x S' F' rfl)
    | brk=>obtain rfl:u= .brk:=r;exact P' .brk x S' F' rfl
    | cont=>obtain rfl:u= .cont:=r;exact P' .cont x S' F' rfl
    | ret v=>obtain⟨w,hv⟩:=r;exact P' (.ret w) x S' F' ⟨w,hv⟩
   | exc c mm=>
    refine j5 ev λh hf ev=> ?_;refine(ao3 ih O W a.pred b S F) _ _ hq _ _ λfK s' e X x S' F' fl=> ?_;obtain⟨r,rfl⟩:=W.head;obtain⟨a',xo,f,hx⟩:=fl;refine aD8 a.frames W.frame F'.uc x.live f (FP W.frame hx) λqD X' f' st=> ?_;have DQ:yd (n6 (env::r)) (tE s' X).heap (tE {s' with heap:=qD} X').heap:=st;refine az7 f' λh3 f3 k3=> ?_;have x3:Ext Γ (n6 (env::r)) (λU=>False) fK (tE {s' with heap:=qD} X') fK (tE {s' with heap:=h3} X'):=Ext.keeps k3;exact Jv G O a ((DQ.sr F'.uc S').keeps k3) (FR.ext (lk:=lk) (F'.stp DQ) (x3.weaken λU z=>z.elim)) f3 ((x.trans' (DQ.ext (W:=λU=>False) F'.uc) λb q=>q.elim).trans' x3 λb q=>q.elim) ev P hh hf
end
section
variable {Γ:Cx}{n m:Nat}{k:Kd}
def ajd (h:nameAt k ln t=aa x):k x=aa .local∧∃p,t= .Name x p:=by
 cases t with
 | Name y p=>
  have h:(if (k y==aa .local&&p.line==ln)=au then aa y else aB)=aa x:=h;by_cases c:(k y==aa .local&&p.line==ln)=au
  ·rw[bN c]at h
   obtain rfl:=ak h;exact⟨gM (d8 c),p,rfl⟩
  ·replace h:=(bk c)▸h;exact iz h
 | _=>exact t7 h
abbrev nmE (l:List (aJ×sZ)):List aG:=l.map λp=> .Name p.1 p.2
abbrev jB (l:List (aJ×sZ)):List aJ:=l.map (·.1)
inductive XH (k:Kd)(ts:List aG)(l:List aJ):Prop
 | mk (vH:List (aJ×sZ)) (ht:ts=nmE vH) (hl:l=jB vH) (hx:∀x∈jB vH,k x=aa .local):XH k ts l
def XJ:∀{ts:List aG},∀J:(ts.filterMap (nameAt k ln)).length=ts.length,XH k ts (ts.filterMap (nameAt k ln)):=by
 intro ts
 induction ts with
 | nil=>exact λU=> .mk [] rfl rfl λx hx=>zZ hx
 | cons a r ih=>
  intro hl;cases ha:nameAt k ln a with
  | none=>
   rw[dq ha]at hl;exact absurd (hl▸Bx _ r) (vA _)
  | some u=>
   rw[cO ha]at hl⊢;obtain⟨vH,h1,h2,h3⟩:=ih (nQ hl);obtain⟨hk,p,rfl⟩:=ajd ha;exact .mk ((u,p)::vH) (congrArg (_::·) h1) (congrArg (_::·) h2) λx hx=>(bc.mp hx).elim (λq=>q▸hk) (h3 x)
def ifs {α:Type}{c1 c2 c3 c4 c5:Prop} [Decidable c1] [Decidable c2] [Decidable c3] [Decidable c4] [Decidable c5] {a b r:α}{f:α->Prop}(h:f (if c1 then a else if c2 then a else if c3 then a else if c4 then a else if c5 then b else r)):(¬c3∧f r)∨f a∨f b:=by
 by_cases h1:c1
 ·rw[bN h1]at h;exact .inr (.inl h)
 by_cases h2:c2
 ·rw[bk h1,bN h2]at h;exact .inr (.inl h)
 by_cases h3:c3
 ·rw[bk h1,bk h2,bN h3]at h;exact .inr (.inl h)
 by_cases h4:c4
 ·rw[bk h1,bk h2,bk h3,bN h4]at h;exact .inr (.inl h)
 by_cases h5:c5
 ·rw[bk h1,bk h2,bk h3,bk h4,bN h5]at h;exact .inr (.inr h)
 ·rw[bk h1,bk h2,bk h3,bk h4,bk h5]at h;exact .inl ⟨h3,h⟩
set_option backward.match.sparseCases true in
def Om {i j:Nat}{p q:sZ}(hb:env.blockKind= .function)(hk:env.kindOf=k)(h:aF7 k ts vs=aa r):qN [.Tuple ts i p] (.Tuple vs j q) env=pure r:=by
 have key:∀(c1 c2 c3 c4 c5:Prop) [Decidable c1] [Decidable c2] [Decidable c3] [Decidable c4] [Decidable c5] (nm:Option (List aJ)) (bad:Sem (Option (List aJ))),∀J:(if c1 then aa aB else if c2 then aa aB else if c3 then aa aB else if c4 then aa aB else if c5 then aB else aa nm)=aa r,(if c1 then pure aB else if c2 then pure aB else if c3 then pure aB else if c4 then pure aB else if c5 then bad else pure nm:Sem (Option (List aJ)))=pure r:=by
  intro c1 c2 c3 c4 c5 _ _ _ _ _ nm bad h;by_cases h1:c1
  ·rw[bN h1]at h⊢;rw[ak h]
  rw[bk h1]at h⊢;by_cases h2:c2
  ·rw[bN h2]at h⊢;rw[ak h]
  rw[bk h2]at h⊢;by_cases h3:c3
  ·rw[bN h3]at h⊢;rw[ak h]
  rw[bk h3]at h⊢;by_cases h4:c4
  ·rw[bN h4]at h⊢;rw[ak h]
  rw[bk h4]at h⊢;by_cases h5:c5
  ·replace h:=(bN h5)▸h;exact iz h
  rw[bk h5]at h⊢;rw[ak h]
 subst hk;show(if ((_ || (env.blockKind !=uV))=au) then(pure aB:Sem (Option (List aJ))) else _)=_;refine aO hb (aO (show(uV !=uV)=aC from rfl) ?_);rw[jL];exact key _ _ _ _ _ _ _ h
def aZ0 (h:aF7 k ts vs=aa (aa l)):XH k ts l:=by
 rcases ifs (f:=λz=>z=aa (aa l)) h with⟨h3,h⟩ | h | h
 ·have e:=ak (ak h)
  rw[lr,not_or]at h3;exact e▸XJ (Es.mp λz=>h3.1 (bne_iff_ne.mpr z))
 ·cases ak h
 ·exact iz h
def Gh:j7->List aJ->List V->j7
 | e,x::xs,v::vs=>Gh (upd e x v) xs vs
 | e,_,_=>e
def aym:∀{xs:List aJ}{vs:List V},∀J:x∉xs,(xs.zip vs).lookup x=aB:=by
 intro xs
 induction xs with
 | nil=>exact λU=>rfl
 | cons y r ih=>
  intro vs h;cases vs with
  | nil=>rfl
  | cons v vs=>exact(w5 λ(q:x=y)=>h (q▸ .head _)).trans (ih λq=>h (.tail _ q))
def aN2:∀{xs:List aJ}{vs:List V}{e:j7},∀J:xs.Nodup,(Gh e xs vs).lookup z=((xs.zip vs).lookup z).or (e.lookup z):=by
 intro xs
 induction xs with
 | nil=>exact λU=>rfl
 | cons x r ih=>
  intro vs e nd;cases vs with
  | nil=>rfl
  | cons v vs=>
   refine(ih (gw.mp nd).2).trans ?_;show _=(((x,v)::r.zip vs).lookup z).or _;rw[ac6];by_cases q:z=x
   ·rw[bN q,q,aym (gw.mp nd).1,G9];rfl
   ·rw[bk q,w5 q]
def XK (nd:xs.Nodup)(hl:xs.length=vs.length):(Gh e xs.reverse vs.reverse).lookup z=(Gh e xs vs).lookup z:=by
 rw[aN2 ((List.reverse_perm xs).nodup_iff.mpr nd),aN2 nd]
 congr 1
 refine Eq.trans (congrArg (nY z) ?_) (aR0 (by rw[List.map_fst_zip (cN hl)];exact nd) z);exact(List.reverse_zipWith hl).symm
def FR.alike (he:∀z,zj.lookup z=loc.lookup z)(F:FR Γ l ρ h env loc cX):FR Γ l ρ h env zj cX:=by obtain⟨M,hn,hl⟩:=F.ns;exact⟨F.uc,⟨M,hn,λz v e=>hl z v ((he z).symm.trans e)⟩,F.cells,F.wH,F.xH,F.xJ,F.sU,F.Ac,F.vR,F.oH,F.apart,F.neL,λh=>F.Fp (by rw[←he];exact h)⟩
def Oo:∀{xs:List aJ}{vs:List V}{σ:St},∀J:SQ (I6 Γ.G n lk) (xs.map .loc) vs σ=aa (q,jH),q= .ok ()∧jH={σ with loc:=Gh σ.loc xs vs}:=by
 intro xs
 induction xs with
 | nil=>
  intro vs σ e;cases vs with
  | nil=>exact⟨(lJ (ak e)).1.symm,(lJ (ak e)).2.symm⟩
  | cons v vs=>exact iz e
 | cons x r ih=>
  intro vs σ e;cases vs with
  | nil=>exact iz e
  | cons v vs=>
   cases n with
   | zero=>exact iz e
   | succ n=>exact ih e
def ayn (e:I6 Γ.G n lk (.tup (xs.map .loc)) v σ=aa (q,jH)):∃vs,itemsOf σ.hp v=aa vs∧xs.length=vs.length∧q= .ok ()∧jH={σ with loc:=Gh σ.loc xs vs}:=by
 cases n with
 | zero=>exact iz e
 | succ n=>
  refine j5 e λvs h1 e=> ?_;refine I3 e λh2 e=> ?_;exact⟨vs,h1,(aF ..).symm.trans (gH h2),Oo e⟩
def Oq (hh:A.handled=aB)(S:SR Γ ρ H s)(hv:VR Γ ρ s.heap v u)(e:itemsOf H v=aa vs)(hn:n=vs.length)
  (hQ:∀h' tk us,∀J:gD Γ ρ s.heap vs us,∀J:(∀b o,∀J:s.heap.get? b=aa o,h'.get? b=aa o),Q us {s with heap:=h',toks:=tk}):aP Γ.M A (Bt u n aB) Q E s:=by
 rcases aL8 e with rfl | ⟨p,e1,rfl⟩
 ·obtain⟨t,us,nn,ht,Rk⟩:=hv
  refine aO (hn.trans Rk.size.symm) (wpAny_unpackItems_tuple hh (an8 ht) λh' he=> ?_);exact hQ h' s.toks _ Rk λb o e=>he b o (cW (gf e)) e
 ·obtain⟨b,us,nn,hi,hr,hb,Rk,hz⟩:=hv.listAt S e1
  exact ao1 hh (M7 hb) (hn.trans Rk.size.symm) λh' tk he=>hQ h' tk _ Rk he
def aZ1 (O:v8 Γ k env):∀{xs:List aJ}{vs:List V}{us:List aD}{σ:St}{s:aW},∀J:(∀x∈xs,k x=aa .local),∀J:xs.length=vs.length,∀J:gD Γ ρ s.heap vs us,∀J:SR Γ ρ σ.hp s,∀J:FR Γ l ρ s.heap env σ.loc σ.cX,∀J:(∀s',∀J:Ext Γ (n6 l) (vV Γ k lk ρ env) ρ s ρ s',∀J:SR Γ ρ σ.hp s',∀J:FR Γ l ρ s'.heap env (Gh σ.loc xs vs) σ.cX,Q () s'),aP Γ.M A (qM (xs.map λn=>aow env n) us) Q E s:=by
 intro xs
 induction xs with
 | nil=>
  intro vs us σ s hx hl Rk S F P;cases vs with
  | nil=>exact aA (P s .refl S F)
  | cons v vs=>exact nxZ hl
 | cons x r ih=>
  intro vs us σ s hx hl Rk S F P;cases vs with
  | nil=>exact nxY hl
  | cons v vs=>
   obtain⟨u,us,hu,Rk⟩:=Rk;exact aj (bJ (wpAny_bindName (Fx O (hx x (.head _)) S F hu λaU cQ cg oF=>ih (σ:={σ with loc:=upd σ.loc x v}) (λy hy=>hx y (.tail _ hy)) (nQ hl) (Rk.ext cQ) cg oF λbK du fU yD=>P bK (cQ.trans' du λb q=> .inl q) fU yD)))
def gD.rev:∀{l:List V}{us:List aD},∀J:gD Γ ρ h l us,gD Γ ρ h l.reverse us.reverse:=by
 intro l
 induction l with
 | nil=>intro us x;exact x.nil▸rfl
 | cons v l ih=>
  rintro _ ⟨u,us,hu,hs⟩;rw[xu,xu];exact(ih hs).append (.mk u [] hu rfl)
def Ot (hx:∀x∈jB vH,k x=aa .local)(nd:(jB vH).Nodup)(he:v9 Γ n k e me)(O:v8 Γ k env)(a:jy A l n)
  (hs:swapsWithSole [.Tuple (nmE vH) i pt] e p.line env=pure aC) (hw:qN [.Tuple (nmE vH) i pt] e env=pure (aa (jB vH))) (S:SR Γ ρ σ.hp s) (F:FR Γ l ρ s.heap env σ.loc σ.cX):
  I8 Γ k l env lk ρ s (ik Γ.G (n+1) lk (.asg (.tup ((jB vH).map .loc)) me) σ) (λQ E=>aP Γ.M A (adw (.Assign [.Tuple (nmE vH) i pt] e p) env) Q E s) (zg Γ):=by
 generalize jB vH=xs at*
 refine(he env l A (σ.fm lk) σ.hp ρ s O a S F).stmt (uI:=λu aU Q E=>aP Γ.M A (Bt u xs.length aB) (λus bK=>aP Γ.M A (qM (xs.reverse.map λn=>aow env n) us.reverse) (λU=>Q Flow.next) E bK) E aU) F (λQ E w=> ?_) λv cU aY aU u cQ cg hv q jH ev Q E P=> ?_
 ·simp only[exec_Assign_arm];refine aO hs ?_
  exact aj (dM (aj (aA (pM (bk (by decide)) (aO hw (aj (bH w (λu aU z=>aj (aA (aj (lG (aj (bH z (λus bK z=>aj (bH z (λU U z=>aA z) λU U z=>z)) λU U z=>z)))))) λU U z=>z)))))))
 ·have ev:(Q5 (I6 Γ.G n lk (.tup (xs.map .loc)) v {σ with hp:=cU}) λU σ=>eO Fl.next σ)=aa (q,jH):=ev
  cases hr:I6 Γ.G n lk (.tup (xs.map .loc)) v {σ with hp:=cU} with
  | none=>rw[hr]at ev;exact iz ev
  | some r=>
   obtain⟨r,a8s⟩:=r;refine oG (ayn hr) λvs hi h=> ?_;obtain⟨hl,rfl,rfl⟩:=h;rw[hr]at ev;refine Oq a.hand cg hv hi hl λh' tk us Rk he=> ?_;have du:Ext Γ (n6 l) (Wr Γ lk aY) aY aU aY {aU with heap:=h',toks:=tk}:=Ext.keeps he;refine aZ1 (σ:={σ with hp:=cU}) O (λx h=>hx x (List.mem_reverse.mp h)) ((QW ..).trans (hl.trans (QW ..).symm)) (Rk.ext du).rev (cg.keeps he) ((F.ext cQ).ext du) λs' (x':Ext Γ (n6 l) (vV Γ k lk aY env) aY {aU with heap:=h',toks:=tk} aY s') S' F'=> ?_;exact P.take ev aY s' .next (du.toS.trans' x' λb q=> .inl q) S' (F'.alike λz=>(XK nd hl).symm) rfl
end
section
variable {Γ:Cx}{n m:Nat}{k:Kd}
structure Gi (Γ:Cx):Prop where
 fn:∀c x g,∀J:Γ.G.bW c x=aa g,fnIn Γ.K g=au∧wZ Γ.K (.ref g) "__get__"=aa (aa (.builtin "function.__get__"))∧adp Γ.K (.ref g)=aa aC
 name:∀x g,∀J:Γ.G.bW Γ.G.gh x=aa g,copiedNames.contains x=aC
def Ou (hb:af5 o=au)
  (h:aP Γ.M A (eval o env) (λov aU=>aP Γ.M A (En ov name au) (λf bK=>aP Γ.M A (zK p f [] [(au,do let v←eval e env;nJ p;pure v)] []) Q E bK) E aU) E s):
  aP Γ.M A (eval (.Call (.Attribute o name ap) [.Starred e sp] [] p) env) Q E s:=by
 have e1:eval (.Call (.Attribute o name ap) [.Starred e sp] [] p) env=(do
   let ov←lZ o name env (eval o env)
   nJ ap.atName
   vz o name ap p env ov 1 [(au,do let v←eval e env;nJ p;pure v)] []):=by rfl
 rw[e1,az6 hb];refine aj (bH h (λov aU jQ=>aj (dM ?_)) λU U z=>z);delta vz;refine aO (show HJ 1 [(au,do let v←eval e env;nJ p;pure v)] []=aC from rfl) ?_;refine aj (bJ ?_);refine pM (bk (by decide)) ?_;refine aj (bH jQ (λf bK rP=>aA ?_) λU U z=>z);delta methodCallPos;exact aO (bN (by rfl)) (aj (aA rP))
def XM (K:N7 Γ)(C:Fv Γ)(Mo:O9 Γ)(B:Gi Γ)(hF:CK Γ n)(ho:v9 Γ n k o mo)(he:v9 Γ n k e me)(hb:af5 o=au):v9 Γ (n+1) k (.Call (.Attribute o x ap) [.Starred e sp] [] p) (.star mo x me):=λenv l A φ H ρ s O a S F=>
 (ho env l A φ H ρ s O a.pred S F).jb (λQ E w=>Ou hb w) λov cU aY aU u cQ cg hv=> .opt λg hg=>by refine j5 hg λp' h1 h2=> ?_;have hi0:=(ar5 h1).elim λU q=>q.1;obtain⟨hd0,hm⟩:=au6 h2;obtain⟨b,dx,es,nn,us,kk,hi,hr,hA,Bm,pB,iB,hz,hc,tG⟩:=hv.sS cg h1;replace hm:=hc▸hm;refine HY (Mo.bW _ _ _ hm) λm1 m2 m3=> ?_;refine HY (B.fn _ _ _ hm) λb1 b2 b3=> ?_;have du:Ext Γ (n6 l) (Wr Γ φ.lk aY) aY aU aY {aU with heap:=aU.heap.push (methodObj (.ref g) (.ref b)),toks:=aU.toks+1}:=Ext.keeps (N6 _ _);refine λq H' ev Q E P=>aD0 K cg.qJ (⟨hA,rfl,rfl,Bm⟩:InstAt aU.heap b _ Γ.G.gh (aa (iD es nn))) (findObj_fn (C.hasDict _ tG) m1 b2 b3 (B.name _ _ hm) (by simp only[Bs];exact(pB.look x).2 hd0)) (mZ (fn_get cg.qJ m2 (handed_on rfl ?_)));refine ks_call rfl (λh z=>z) (ks_lone ?_);refine(he env l A φ cU aY _ O a.pred (cg.keeps (N6 _ _)) ((F.ext cQ).ext du)).jb (W:=λw lL Q E=>StarOf Γ.M A E w (λus wI=>Y5 Γ wI.heap (.ref aU.heap.objs.size)∧aP Γ.M A (call (.ref aU.heap.objs.size) ([]++us) []) Q E wI) lL) (λQ E w=>w) (λav Ag qz lL w qg tH hw=> .opt λvs iB=> .fu λhl=> ?_) q H' ev Q E (P.ext du);obtain⟨t,ts,tn,ht,Ov⟩:=hw.yo iB;have arb:=qg.vf.vG _ _ (bx aU.heap rfl) (ad8 rfl rfl (by decide));intro q H' ev Q E P;refine aj (lN ⟨_,ht,rfl⟩ PySem.F.slot_tuple_iter.lookup (aA ⟨rfl, ?_⟩));refine wpAny_collect_seq t (.inr rfl) ht rfl rfl (λh' kp'=> ?_) (by refine aO Ov.size (aO gV ?_);exact aq (gH hl) (by decide));have vU:Ext Γ (n6 l) (Wr Γ φ.lk qz) qz lL qz {lL with heap:=h'}:=Ext.keeps kp';have Cw:SR Γ qz Ag {lL with heap:=h'}:=tH.keeps kp';refine⟨keeps_M b1 _ ⟨kp' _ _ arb,Cw.qJ⟩,mZ (method_call (kp' _ _ arb) ?_)⟩;exact hF l A φ.lk g (ov::vs) [] [] Ag qz _ (.ref b::ts.toList) [] a.pred Cw (((F.ext cQ).ext du).ext (qg.trans vU)).uc (.mk _ _ (((hv.ext du).ext qg).ext vU) (Ov.ext vU)) rfl q H' ev Q E (P.ext vU)
end
section
variable {Γ:Cx}{n m:Nat}{k:Kd}
inductive ak3 (h:bM)(q:aJ):aD->Prop
 | mk (c:aV) (o:ou) (vs:Array aD) (t:RG) (ho:h.get? c=aa o) (hc:o.cls= .type "code") (hd:o.data= .fields vs) (h1:vs[1]?=aa (.str q t)):ak3 h q (.ref c)
def ak3.keeps (kp:∀b o,∀J:o.cls= .type "code",∀J:h.get? b=aa o,h'.get? b=aa o):∀J:ak3 h q cv,ak3 h' q cv:=by rintro⟨c,o,vs,t,h1,hc,h2,h3⟩;exact .mk c o vs t (kp _ _ hc h1) hc h2 h3
inductive W8 (P:aV)(q:aJ)(h:bM):Prop
 | mk (ps:Array aD) (hP:h.get? P=aa (nW ps)) (ht:nM ps.toList) (hc:∀pos cv,∀J:Be pos ps.toList=aa cv,ak3 h q cv):W8 P q h
inductive Gj (cells:List (aJ×aV))(q:aJ):ou->aV->ou->aG->Prop
 | mk (args:rW) (body:aG) (sc:jK) (p:sZ) (pm:aD) (c:aV) (ctv:aD) (oc:ou) (vs:Array aD) (t:RG) (h1:oc.cls= .type "code") (h2:oc.data= .fields vs) (h3:vs[1]?=aa (.str q t)) (hf:∀x,∀J:(x,eG)∈sc.names,(cells.lookup x).isSome=au):Gj cells q (kla_obj "<lambda>" q args body sc (H6 cells sc.names []) pm c ctv) c oc (.Lambda args body sc p)
inductive V8 (P:aV)(h h':bM):Prop
 | mk (ps more:Array aD) (hP:h.get? P=aa (nW ps)) (hP':h'.get? P=aa (nW (ps++more))) (ht:nM (ps++more).toList):V8 P h h'
def V8.later (k:∀o,∀J:h'.get? P=aa o,qD.get? P=aa o):∀J:V8 P h h',V8 P h qD:=by rintro⟨ps,more,hP,hP',ht⟩;exact .mk ps more hP (k _ hP') ht
def V8.there:∀J:V8 P h h',∃o,h'.get? P=aa o:=by rintro⟨_,_,_,hP',_⟩;exact⟨_,hP'⟩
def V8.same (hP:h.get? P=aa (nW ps))(hP':h'.get? P=aa (nW ps))(ht:nM ps.toList):V8 P h h':=
 .mk ps #[] hP (aO jg hP') (aO jg ht)
structure ajf (Γ:Cx)(cells:List (aJ×aV))(c P:aV)(q:aJ):Prop where
 env:∀env,∀J:Γ.sE env,env.cells=cells∧env.code= .ref c∧env.qual++"<lambda>"=q
 hd:CodeHd Γ.g0 c P
 tab:P∈Γ.tabs
 gP:Γ.g0.get? P=aB
 tabs:∀h,∀J:Γ.tabsOk h,W8 P q h
 put:∀h h',∀J:Γ.tabsOk h,∀J:(∀b o,∀J:b≠P,∀J:h.get? b=aa o,h'.get? b=aa o),∀J:V8 P h h',∀J:W8 P q h',Γ.tabsOk h'
 lam:Γ.awm=Gj cells q
 a8z:Γ.G.lam=apv
 main:∃mg bm ob,Γ.g0.Ns bY mg∧mg "__builtins__"=aa (.ref bm)∧bm≠dJ∧bm≠bY∧Γ.g0.get? bm=aa ob∧ob.cls= .type "module" ∧ob.dict=aa dJ∧ob.data= .plain
def aJ4 {pos p:sZ}(h:nM l)(e:Be p (l++ [kW pos.line,kW pos.col,c])=aa cv):Be p l=aa cv∨cv=c:=by
 fun_induction nM l with
 | case1=>
  by_cases q:((pos.line:Int)==(p.line:Int)&&(pos.col:Int)==(p.col:Int))=au
  ·exact .inr (ak ((bN q).symm.trans e)).symm
  ·exact iz ((bk q).symm.trans e)
 | case2 a t b u x r ih=>
  by_cases q:(a==(p.line:Int)&&b==(p.col:Int))=au
  ·exact .inl ((bN q).trans ((bN q).symm.trans e))
  ·exact(ih h ((bk q).symm.trans e)).imp (λz=>(bk q).trans z) id
 | case3 l h1 h2=>exact h.elim
def aS2 {FS:List aV}{lk:List Nat}(S:SR Γ ρ H s)(hP:P∈Γ.tabs)(hg:Γ.g0.get? P=aB)(kp:∀b o,∀J:b≠P,∀J:s.heap.get? b=aa o,s'.heap.get? b=aa o)(lv:∃o,s'.heap.get? P=aa o)(T:Γ.tabsOk s'.heap)(G:Γ.Ab s'.gens)
  (h1:s'.os=s.os) (h2:s'.drawn=s.drawn):SR Γ ρ H s'∧Ext Γ FS (Wr Γ lk ρ) ρ s ρ s':=by
 refine oG (Γ.nT _ S.tabs P hP) λoP hoP hcP=> ?_;have mP:M3 oP:= .inr (.inr (.inr (.inr (.inr (.inl hcP)))));refine⟨⟨S.len,S.nodup,λi o e=>(S.objs i o e).imp λr q=>⟨q.1,q.2.mono (I2.refl ρ s.heap) (λb o e nm=>kp b o (λz=>by simp only[z,hoP]at e;cases e;exact nm mP) e) λb hb o e=>kp b o (λz=>S.mz b (cM.mpr ⟨r,bV q.1,hb⟩) (z▸hP)) e⟩,λb o e=>kp b o (Z1 e hg) (S.base b o e),S.apart,S.mz,G,T⟩,⟨.refl _ _,.TV hoP mP (.inl hP) kp,λb o e=> ?_,h1,h2⟩⟩;by_cases z:b=P
 ·refine aO z ?_;exact lv
 ·exact⟨o,kp b o z e⟩
section
variable {M:Br}{A:bO}{E:PQ aD}{s:aW}{env:fP}{c P:aV}{q:aJ}{pos:sZ}{zm:List (aJ×aV)}{params:rW}{body:aG}{scope:jK}{Q:PQ aD}
def XN (wJ:HS scope env=pure zm)(hge:env.globals=bY)(sW:env.code= .ref c)(C:CodeHd s.heap c P)(T:W8 P q s.heap){mg:aJ->Option aD}(hg:s.heap.Ns bY mg)(hbm:mg "__builtins__"=aa (.ref bm))(vg:bm≠dJ)(hng:bm≠bY)
  (hob:s.heap.get? bm=aa ob) (h1:ob.cls= .type "module") (h2:ob.dict=aa dJ) (h3:ob.data= .plain) (hq:env.qual++"<lambda>"=q) (ayo:defaultsOf params env=([], []))
  (hQ:∀c' ctv h' tk,∀J:(∀b o,∀J:b≠P,∀J:s.heap.get? b=aa o,h'.get? b=aa o),∀J:V8 P s.heap h',∀J:W8 P q h',∀J:ak3 h' q (.ref c'),Q (.ref h'.objs.size) {s with heap:=h'.push (kla_obj "<lambda>" q params body scope zm ((mg "__name__").getD .none) c' ctv),toks:=tk}):
  aP M A (eval (.Lambda params body scope pos) env) Q E s:=by
 obtain⟨ps,hP,ht,DP⟩:=T;have hbP:bm≠P:=λe=>by simp only[e,hP]at hob;cases hob;cases h1
 have hgP:bY≠P:=λe=>by obtain⟨o,es,ep,ho,hd,_⟩:=hg;simp only[e,hP]at ho;cases ho;cases hd
 refine kla_eval ayo ?_;refine aO hq ?_;cases hf:Be pos ps.toList with
 | some cv=>
  obtain⟨c',oc,vs,t,g1,g2,g3,g4⟩:=(DP pos cv hf);exact kla_makeFunctionHit wJ hge hg sW C hP ht hf ⟨bm,ob,hbm,vg,hng,hbP,hob,h1,h2,h3⟩ λctv h' tk kp U=>
   hQ c' ctv h' tk (λb o U e=>kp b o e) (.same hP (kp _ _ hP) ht) ⟨ps,kp _ _ hP,ht,λp cv e=>(DP p cv e).keeps λb o U e=>kp b o e⟩ (.mk c' oc vs t (kp _ _ g1) g2 g3 g4)
 | none=>
  rw[makeFunction_eq];simp only[RQ,wC,List.isEmpty_nil,if_true,pure_bind];delta makeTail;refine aO wJ (aO hge ?_);refine aj (aA ?_);have made:∀cl jQ,∀J:(∀b o,∀J:s.heap.get? b=aa o,jQ.get? b=aa o),∀arf:Nat,aP M A (functionCode env pos pos.line "<lambda>" q params scope (.expr body)) (λcv bK=>aP M A (do
     let bi←builtinsFor bY env.builtins
     let nm←nsGet bY "__name__"
     let dc←(pure .none:Sem aD)
     newObj (.type "function") (.func {name:="<lambda>",qualname:=q,params,body:= .expr body,scope,globals:=bY,closure:=zm,closureTuple:=cl,code:=cv,builtins:=bi,defaults:= .none,kwdefaults:= .none,annotations:=aB,pyModule:=nm.getD .none,doc:=dc})) Q E bK) E {s with heap:=jQ,toks:=arf}:=λcl jQ kp arf=>by
   refine wpAny_functionCodeX sW ((C.keeps kp).code (kp _ _ hP) ht) ((C.keeps kp).tab (kp _ _ hP)) hf λc' h' tk hx hge hlt U aMc htb aMd=> ?_;have cx:ak3 h' q (.ref c'):=by obtain⟨c₂,oc,vs,t,e,g1,g2,g3⟩:=aMc;cases e;obtain⟨P',_,_,⟨⟨o',vs',f1,f2,_⟩,_⟩⟩:=aMd;obtain rfl:=ak (g1.symm.trans f1);exact .mk c' oc vs t g1 f2 g2 g3
   refine aj (wpAny_builtinsFor ((hg.keeps kp).extBut hx hgP) hbm vg ((λb o hb e=>hx b o hb (kp b o e)) _ _ hbP hob) h1 h2 h3 (aj (wpAny_nsGet ((hg.keeps kp).extBut hx hgP) (aj (aA (fH ?_ (by size_fits)))))));have ht':nM (ps++ #[kW pos.line,kW pos.col,.ref c']).toList:=by rw[dC];exact TriplesOk_snoc _ _ _ _ ht
   refine hQ c' cl h' tk (λb o hb e=>hx b o hb (kp b o e)) ⟨ps,_,hP,htb.2,ht'⟩ ⟨_,htb.2,ht',λp cv e=> ?_⟩ cx;rw[dC]at e;exact(aJ4 ht e).elim (λe=>(DP p cv e).keeps λb o hc e=>(λb o hb e=>hx b o hb (kp b o e)) _ _ (λz=>by simp only[z,hP]at e;cases e;cases hc) e) λe=>e▸cx
  cases zm with
  | nil=>exact aj (aA (aj (made .none s.heap (λU U e=>e) s.toks)))
  | cons a r=>exact aj (wpAny_newTextTuple (aj (made _ _ (λb o e=>aZ _ e) _)))
end
theorem W8.push (T:W8 P q h)(o:ou):W8 P q (h.push o):=
 T.casesOn λps hP ht hc=> .mk ps (aZ _ hP) ht λp cv e=>(hc p cv e).keeps λb o U e=>aZ _ e
structure aMf (k:Kd)(a:rW)(sc:jK):Prop extends CompK k sc where
 Am:∀p∈sc.names,p.2≠ .cell
 po:a.posonlyargs= []
 ar:a.args= []
 ko:a.kwonlyargs= []
 va:a.vararg=aB
 kw:a.kwarg=aB
 df:a.defaults= []
 kd:a.kw_defaults= []
 co:sc.isCoroutine=aC
 ge:sc.isGenerator=aC
def N8 (h:(!b)=au):b=aC:=by cases b<;>first | rfl | exact qI h
def aA7 (h:Ip k a sc=au):aMf k a sc:=by have nm:∀p∈sc.names,p.2= .globalImplicit∨(p.2= .free∧(k p.1=aa .cell∨k p.1=aa .free)):=λp hp=>(fY.mp (bj.mp (m8 (d8 (d8 (d8 (d8 h))))) p hp)).imp gM λq=>⟨gM (d8 (d8 q)),(fY.mp (m8 (d8 q))).imp gM gM⟩;refine{uz:=λx hx=>((nm _ hx).resolve_left nofun).2,kind:=gM (m8 (d8 (d8 (d8 h)))),nodup:=gH (m8 h),noe:=λe=>(nm _ (mem_of_lookup e)).elim nofun λq=>(nomatch q.1),Am:=λp hp e=>(nm p hp).elim (λq=>nomatch q.symm.trans e) λq=>(nomatch q.1.symm.trans e),po:=cj.mp (d8 (d8 (d8 (d8 (d8 (d8 (d8 (d8 (d8 (d8 (d8 h))))))))))),ar:=cj.mp (m8 (d8 (d8 (d8 (d8 (d8 (d8 (d8 (d8 (d8 (d8 h))))))))))),ko:=cj.mp (m8 (d8 (d8 (d8 (d8 (d8 (d8 (d8 (d8 (d8 h)))))))))),va:=mD.mp (m8 (d8 (d8 (d8 (d8 (d8 (d8 (d8 (d8 h))))))))),kw:=mD.mp (m8 (d8 (d8 (d8 (d8 (d8 (d8 (d8 h)))))))),df:=cj.mp (m8 (d8 (d8 (d8 (d8 (d8 (d8 h))))))),kd:=cj.mp (m8 (d8 (d8 (d8 (d8 (d8 h)))))),co:=N8 (m8 (d8 (d8 h))),ge:=N8 (m8 (d8 h))}
def ajg (K:ajf Γ cells c P q)(ok:Ip k args sc=au):v9 Γ (n+1) k (.Lambda args body sc p) (.lam (.Lambda args body sc p)):=λenv l A φ H ρ s O a S F=> .fu λhe=> .ok λQ E Po=>by
 refine HY (K.env env (F.Fp he)) λe1 e2 e3=> ?_;obtain⟨mg,bm,ob,hg,hbm,vg,hng,hob,h1,h2,h3⟩:=K.main;have free:=(aA7 ok).toCompK.has O;have ayo:defaultsOf args env=([], []):=by obtain⟨a1,a2,a3,a4,a5,a6,a7⟩:=args;obtain rfl:_= []:=(aA7 ok).df;obtain rfl:_= []:=(aA7 ok).kd;rfl
 refine XN (au7 free) O.glob e2 (K.hd.keeps S.base) (K.tabs _ S.tabs) (hg.keeps S.base) hbm vg hng (S.base _ _ hob) h1 h2 h3 e3 ayo λc' ctv h' tk kp up T cx=> ?_;refine uG λY Z=> ?_;obtain⟨S',x'⟩:=aS2 (FS:=n6 l) (lk:=φ.lk) (s':={s with heap:=h'.push (kla_obj "<lambda>" q args body sc (H6 env.cells sc.names []) ((mg "__name__").getD .none) c' ctv),toks:=tk}) S K.tab K.gP (λb o hb e=>aZ _ (kp b o hb e)) ((up.later λo e=>aZ _ e).there) (K.put _ _ S.tabs (λb o hb e=>aZ _ (kp b o hb e)) (up.later λo e=>aZ _ e) (T.push (kla_obj "<lambda>" q args body sc (H6 env.cells sc.names []) ((mg "__name__").getD .none) c' ctv))) S.gens rfl rfl;obtain⟨c₂,oc,vs,t,g1,g2,g3,g4⟩:=cx;exact Z (Po ρ _ _ x' S' ⟨_,_,_,oc,bx _ rfl,aw7 rfl (by decide) rfl,aZ _ g1,aw7 g2 (by decide) (by refine aO g3 ?_;rfl),by refine aO K.lam (aO e1 ?_);exact .mk _ _ _ _ _ _ _ _ vs t g2 g3 g4 (e1▸free)⟩)
def bind_none (h1:fd.params.posonlyargs= [])(h2:fd.params.args= [])(h3:fd.params.kwonlyargs= [])(h4:fd.params.vararg=aB)(h5:fd.params.kwarg=aB)(h6:fd.defaults= .none)(h7:fd.kwdefaults= .none):wV fd ⟨[], []⟩=pure []:=by obtain⟨nm,qn,ps,bd,sc,gl,cl,df,kd,dc,pm,an,co,ct,bl⟩:=fd;obtain⟨a1,a2,a3,a4,a5,a6,a7⟩:=ps;simp only at h1 h2 h3 h4 h5 h6 h7;subst h1 h2 h3 h4 h5 h6 h7;rfl
def FR.push {env e:fP}(F:FR Γ l ρ h env loc cX)(he:Mg Γ ρ h e):FR Γ (e::l) ρ h env loc cX:={F with uc:=λe' h'=>(bc.mp h').elim (λq=>q▸he) (F.uc e')}
def Ow (h:iY Γ (env::l) lk (A.deeper env) ρ aU r (eval body env) (u6 Γ))(ao:jy A l (n+1))(hf:env.frame=aa env.locals)(K:H8 Γ (env::l) ρ aU.heap)
  (x:Ext Γ (n6 l) (Wr Γ lk ρ) ρ s ρ aU) (new:∀c,∀J:(c=env.locals∨∃x,k x=aa .cell∧env.cells.lookup x=aa c),s.heap.get? c=aB):q7 Γ l lk ρ s r (λQ E=>iw Γ.M A (.expr body env) (Ret Q E) aU) (u6 Γ):=λq H' ev Q E P=>by
 refine kla_codeExpr (h q H' ev _ _ ?_);cases q with
 | ok v=>exact λfK s' u y S' hv'=>P fK s' u (x.call y.toS hf new) S' hv'
 | exc cc mm=>
  intro fK s' e X y S' f;exact aM0 (uE ao.frames) hf (K.ext y) (x.live.trans y.live) (f.less x.live) λqD X' f' st=>(P fK {s' with heap:=qD} e X' (x.call (y.toS.trans' (st.ext (W:=λU=>False) (K.ext y)) λb q=>q.elim) hf new) (st.sr (K.ext y) S') f')
def XQ (K:ajf Γ cells c P q)(Nl:Γ.g0.NoLimit)(ih:∀m k,U0 Γ n m k)(env:fP)(l:List fP)(A:bO)(φ:Fm)(i:aG)(H:Hp)(ρ:fj)(s:aW)(u:aD)(a:jy A l (n+1))(S:SR Γ ρ H s)(F:FR Γ l ρ s.heap env φ.loc φ.cX)(hv:VR Γ ρ s.heap (.BK i) u):
  q7 Γ l φ.lk ρ s (callC Γ.G (o8 Γ.G n) φ i H) (λQ E=>Y5 Γ s.heap u∧aP Γ.M A (call u [] []) Q E s) (u6 Γ):= .fu λhe=> .opt λpm hpm=>by
 rw[K.a8z]at hpm;obtain⟨f,o,c',oc,ho,hnm,hoc,hnc,hl⟩:=hv;replace hl:=K.lam▸hl;obtain⟨args,body,sc,p,pmv,c',ctv,oc,vs,t,g1,g2,g3,free⟩:=hl;refine I3 hpm λhok hpm=> ?_;obtain rfl:=ak hpm;have L:=aA7 hok;refine HY (K.env env (F.Fp he)) λe1 e2 e3=> ?_;refine .keep ⟨.frame,.inl rfl,(uP ho).andThen Looks.now⟩ (q7.of (W:=λQ E=>aP Γ.M A.in1 (nC sc bY (H6 cells sc.names []) [] (q++".<locals>.") (aa f) (.ref c') aB dJ) (λen bK=>bK.heap.NoLimit∧iw Γ.M A (.expr body en) (Ret Q E) bK) E s) ?_ λQ E w=>mZ (kla_callFunE a.room ho rfl L.co L.ge rfl ⟨c',oc,vs,t,rfl,hoc,g2,g3⟩ ?_))
 rotate_left
 ·refine pM (bind_none L.po L.ar L.ko L.va L.kw rfl rfl) ?_
  exact aA w
 ·intro r H' ev Q E Po
  refine aor L.Am (λx hx=>zZ hx) (λjQ Ri hsb=>⟨(Nl.keeps S.base).fresh _ hsb, ?_⟩) L.kind;have kp:∀b o,∀J:s.heap.get? b=aa o,jQ.get? b=aa o:=λb o e=>hsb.extBut b o (cW (gf e)) (aZ _ e);have fL:=N5 s.heap;have fU:SR Γ ρ H {s with heap:=jQ,toks:=s.toks+0}:=S.keeps kp;have x:Ext Γ (n6 l) (Wr Γ φ.lk ρ) ρ s ρ {s with heap:=jQ,toks:=s.toks+0}:=Ext.keeps kp;have B:=I7 S fL;refine uG λY Z=> ?_;obtain⟨oL,es,ep,hoL,hdL,_⟩:=id Ri;refine Z ?_;have F':=(FR.takes (env':=newEnv sc s.heap.objs.size bY (H6 cells sc.names []) (q++".<locals>.") (aa f) (.ref c') aB dJ) S F rfl fL kp Ri (λx a e=> .inl (aO e1 ((aj1 free e).resolve_left nofun).2)) (λx y a e e' q=>(by obtain⟨o,_,ho,_⟩:=F.oH x a (aO e1 ((aj1 free e).resolve_left nofun).2);exact iz (q.symm.trans ho))) λx hx=>(by obtain⟨a,ha⟩:=bT.mp (au8 hx);exact ha.trans (aO e1 ((aj1 free ha).resolve_left nofun).2.symm))).push (e:=newEnv sc s.heap.objs.size bY (H6 cells sc.names []) (q++".<locals>.") (aa f) (.ref c') aB dJ) ⟨_,oL,es,ep,by refine aO L.kind ?_;decide,rfl,hoL,hdL,B.obj,B.tab,B.base⟩;exact Ow (k:=kdOf sc) (ih 40 (kdOf sc) body _ _ _ ⟨[],φ.cX.filter λp=>(Tt sc).contains p.1,φ.lk⟩ H ρ _ (show v8 Γ (kdOf sc) (newEnv sc s.heap.objs.size bY (H6 cells sc.names []) (q++".<locals>.") (aa f) (.ref c') aB dJ) from⟨L.kind,rfl,rfl,λx hx=>hx,λx hx=>absurd rfl (L.Am _ (mem_of_lookup hx)),λx hx=>⟨.inr hx,au8 (mem_of_lookup hx)⟩,λx hx=>hx,λhx=>absurd hx L.noe⟩) a.deeper fU F') a rfl F'.uc x (λc hc=>hc.elim (λq=>q▸fL) (by rintro⟨x,hx,_⟩;exact absurd rfl (L.Am _ (mem_of_lookup hx)))) r H' ev Q E Po
end
section
variable {Γ:Cx}{n m:Nat}{k:Kd}
section
variable {l:List fP}{lk:List Nat}{A:bO}{ρ:fj}{H:Hp}{s:aW}{u:aD}{vs:List V}{us:List aD}{y:aJ}{t:RG}{v:V}
def gD.one (x:gD Γ ρ h [v] us):∃u,us= [u]∧VR Γ ρ h v u:=by obtain⟨u,us,hu,hs⟩:=x;obtain rfl:=gD.nil hs;exact⟨u,rfl,hu⟩
def gD.two (x:gD Γ ρ h [a,b] us):∃u v,us= [u,v]∧VR Γ ρ h a u∧VR Γ ρ h b v:=by obtain⟨u,us,hu,hs⟩:=x;obtain⟨v,us,hv,hs⟩:=hs;obtain rfl:=gD.nil hs;exact⟨u,v,rfl,hu,hv⟩
def Ox:∀{l:List V}{us:List aD}{xs:List aJ},∀J:gD Γ ρ h l us,∀J:BL l=aa xs,StrsAre us xs:=by
 intro zz
 induction zz with
 | nil=>
  intro _ _ hv e;obtain rfl:=hv.nil;obtain rfl:=ak e;exact .nil
 | cons v l ih=>
  rintro _ _ ⟨u,us,hu,hs⟩ e;refine j5 e λy e1 e=> ?_;refine j5 e λys e2 e=> ?_;obtain rfl:=ak e;obtain⟨t⟩:=hu.strOf e1;exact .cons y t (ih hs e2)
def ajh:∀{l:List (aJ×RG)}{xs:List aJ},∀J:l.map (·.1)=xs,gD Γ ρ h (xs.map .str) (RW l):=by
 intro zz
 induction zz with
 | nil=>
  rintro _ rfl;exact rfl
 | cons p l ih=>
  rintro _ rfl;exact .mk _ _ ⟨p.2⟩ (ih rfl)
def aji (h:room n=au):Builtin.Str.tooLong n=aC:=by have:=I5 h;exact aO gV (decide_eq_false (ady.mpr this))
def aA8 (h:room n=au):n≤sJ:=by refine aO gV ?_;exact I5 h
def m_lower (S:SR Γ ρ H s)(iB:gD Γ ρ s.heap vs us):iY Γ l lk A ρ s (Ig H y "lower" vs) (call (.builtin "str.lower") (.str y t::us)) (u6 Γ):= .fu λh=> .ok λQ E P=>by obtain rfl:=cj.mp (d8 h);obtain rfl:=iB.nil;exact SC.lower (aji (m8 h)) (P.ok S ⟨_⟩)
def m_strip (S:SR Γ ρ H s)(iB:gD Γ ρ s.heap vs us):iY Γ l lk A ρ s (Ig H y "strip" vs) (call (.builtin "str.strip") (.str y t::us)) (u6 Γ):=by
 refine aO (show Ig H y "strip" vs=fu (vs.isEmpty&&room y.length) (ok (.str (qT y)) H) from(bk (by decide)).trans (bN rfl)) ?_;exact .fu λh=> .ok λQ E P=>by obtain rfl:=cj.mp (d8 h);obtain rfl:=iB.nil;exact SC.strip (λt' k=>P.ok S (.mk t')) (aA8 (m8 h))
def aS3:Ig H y "isspace" vs=fu vs.isEmpty (ok (.bool (kE y)) H):=(bk (by decide)).trans ((bk (by decide)).trans (bN rfl))
def m_isspace (S:SR Γ ρ H s)(iB:gD Γ ρ s.heap vs us):iY Γ l lk A ρ s (Ig H y "isspace" vs) (call (.builtin "str.isspace") (.str y t::us)) (u6 Γ):=by
 refine aO aS3 ?_;exact .fu λh=> .ok λQ E P=>by obtain rfl:=cj.mp h;obtain rfl:=iB.nil;exact SC.isspace (P.ok S rfl)
def aS4 (h1:x≠("lower":aJ))(h0:x≠("strip":aJ))(h2:x≠("isspace":aJ)):Ig H y x vs=opt (one vs) λv=>
  if x=("join":aJ) then opt (listAt H v) λl=>opt (BL l.2) λxs=>fu (room ((xs.map (·.length)).sum+xs.length*y.length)) (ok (.str (qj y xs)) H)
  else if x=("split":aJ) then opt (strOf v) λt=>fu (t.length !=0&&room y.length&&room (partsOf y t).length) (alloc H (.list ((pP y t).map .str)))
  else aB:=(bk h1).trans ((bk h0).trans (bk h2))
def ayq (S:SR Γ ρ H s)(iB:gD Γ ρ s.heap vs us):iY Γ l lk A ρ s (Ig H y "join" vs) (call (.builtin "str.join") (.str y t::us)) (u6 Γ):=by refine aO (aS4 (by decide) (by decide) (by decide)) ?_;refine .opt λv hv=> ?_;refine aO (bN rfl) ?_;obtain rfl:=ac8 hv;obtain⟨w,rfl,hw⟩:=iB.one;refine .opt λp hp=> .opt λxs hx=> .fu λhr=> .ok λQ E P=> ?_;obtain⟨b,us,nn,_,_,hb,hs,_⟩:=hw.listAt S hp;exact join_list (M7 hb) (Ox hs hx) (I5 hr) λt' k=>P.ok S ⟨t'⟩
def split_len (x y:aJ):(pP x y).length≤max 1 (partsOf x y).length:=by
 unfold pP partsOf
 split
 ·exact auz _ _
 split
 ·exact auz _ _
 ·exact Nat.le_max_right _ _
def m_split (S:SR Γ ρ H s)(iB:gD Γ ρ s.heap vs us):iY Γ l lk A ρ s (Ig H y "split" vs) (call (.builtin "str.split") (.str y t::us)) (u6 Γ):=by
 refine aO (aS4 (by decide) (by decide) (by decide)) ?_;refine .opt λv hv=> ?_;refine aO (bk (by decide)) (aO (bN rfl) ?_);obtain rfl:=ac8 hv;obtain⟨w,rfl,hw⟩:=iB.one;refine .opt λz hz=> .fu λhc=> .ok λQ E P=> ?_;obtain⟨t'⟩:=hw.strOf hz;have hz0:(z.length==0)=aC:=by simpa using (d8 (d8 hc))
 have hlen:((pP y z).map V.str).length≤16777216:=by rw[aF];exact aq (split_len y z) (Nat.max_le.mpr ⟨by decide,I5 (m8 hc)⟩)
 have back:∀(lv:List (aJ×RG))(tk:Nat),∀J:lv.map (·.1)=pP y z,Q (.ref s.heap.objs.size) {s with toks:=tk,heap:=s.heap.push {cls:= .type "list",data:= .seq (RW lv).toArray}}:=λlv tk e=>
  aw9 (s:={s with toks:=tk}) S.same (ajh e) hlen (P.ext .same)
 cases h1:(decide (y.length<z.length) || decide (tW y<tW z)) with
 | false=>
  cases hf:(yg y z 0 y.length (y.length+1)).isEmpty with
  | false=>
   refine oV oh (vm _ _ _) rU (rH _ _) (meets_str_split_sep y z t t' h1 hz0 hf (aA8 (m8 (d8 hc))) (aA8 (m8 hc))) ?_;rw[strsFrom_eq];exact back (numbered s.toks _) _ ((numbered_texts _ _).trans ((bk (ne_true_of_eq_false h1)).trans (bk (ne_true_of_eq_false hf))).symm)
  | true=>exact oV oh (vm _ _ _) rU (rH _ _) (meets_str_split_not_found y z t t' h1 hz0 hf) (back [(y,t)] s.toks ((bk (ne_true_of_eq_false h1)).trans (bN hf)).symm)
 | true=>exact oV oh (vm _ _ _) rU (rH _ _) (meets_str_split_cannot_occur y z t t' h1) (back [(y,t)] s.toks (bN h1).symm)
variable {i:Nat}{xs:List V}
def XR (S:SR Γ ρ H s)(hu:Y0 Γ ρ H s.heap i xs u)(iB:gD Γ ρ s.heap vs us):iY Γ l lk A ρ s (EY lk H i xs "append" vs) (call (.builtin "list.append") (u::us)) (u6 Γ):= .opt λv hv=> .fu λhr=> .put λju Q E P=>by obtain rfl:=ac8 hv;obtain⟨w,rfl,hw⟩:=iB.one;obtain⟨b,ys,nn,hi,vW,hb,hs,hz⟩:=hu;exact au9 hb (hs.size▸hz) (ab8 (Q:=λU=>Q .none) S hi vW hb ju _ (by refine aO lD ?_;exact hs.append (.mk w [] hw rfl)) (aO az (I5 hr)) s.toks λx S'=>P ρ _ .none x S' rfl)
def XS (S:SR Γ ρ H s)(hu:Y0 Γ ρ H s.heap i xs u)(iB:gD Γ ρ s.heap vs us):iY Γ l lk A ρ s (EY lk H i xs "insert" vs) (call (.builtin "list.insert") (u::us)) (u6 Γ):=by
 refine aO (show EY lk H i xs "insert" vs=opt (two vs) λp=>opt (intOf p.1) λk=>fu (decide (0≤k)&&decide (k≤xs.length)&&room (xs.length+1)) (put lk H i (.list (xs.take k.toNat++p.2::xs.drop k.toNat)) .none) from(bk (by decide)).trans ((bk (by decide)).trans (bN rfl))) ?_;refine .opt λp hp=> .opt λj hj=> .fu λhc=> .put λju Q E P=> ?_;have h0:=gH (d8 (d8 hc));have hk:=gH (m8 (d8 hc));have hr:=I5 (m8 hc);obtain rfl:=aiy hp;obtain⟨w,w',rfl,hw,hw'⟩:=iB.two;obtain⟨t⟩:=hw.intOf hj;obtain⟨b,ys,nn,hi,vW,hb,hs,hz⟩:=hu;have Uz:eQ j=au:=by delta eQ;simp only[fX,decide_eq_true_eq,decide_eq_true_eq];exact⟨dF (by decide) h0,jj hk (agk hz)⟩
 refine oV zM ⟨_,hb,rfl⟩ PySem.F.entry_list_insert (PySem.F.args_list_insert_3 _ _ _) (PySem.AutoSeq1.list_insert_list_int_val_1 b ys nn j t w' (by refine aO Uz ?_;decide) (by refine aO gV (aO hs.size ?_);exact dB hr)) ⟨hb, ?_⟩;refine ab8 (Q:=λU=>Q .none) S hi vW hb ju (λxs:Array aD=>
   have k:=if j<0 then mQ (j+↑(pL xs)) else min (mQ j) (pL xs)
   Array.push (vN xs 0 k) w'++vN xs k) ?_ ?_ s.toks λx S'=>P ρ _ .none x S' rfl
 ·show gD _ _ _ _ ((Array.push (vN ys 0 (if j<0 then mQ (j+↑(pL ys)) else min (mQ j) (pL ys))) w'++vN ys (if j<0 then mQ (j+↑(pL ys)) else min (mQ j) (pL ys))).toList)
  simp only[(show(if j<0 then mQ (j+↑(pL ys)) else min (mQ j) (pL ys))=j.toNat from by refine aO (bk (ig.mpr h0)) (aO hs.size ?_);exact lz (uv.mpr hk)),dC,lD,pU,pU,mK,mK,qU,ur,aQ];refine(hs.take _).append (.mk w' _ hw' ?_);rw[Eo (by refine aO ym (aO dR ?_);exact aN _)];exact hs.drop _
 ·refine aO az (aO dZ (aO tu (aO ym ?_)))
  have:min j.toNat xs.length+(xs.length-j.toNat)=xs.length:=by refine aO (lz (uv.mpr hk)) ?_;exact RX (uv.mpr hk)
  rw[←iH];refine aO this ?_;exact hr
def av1 (S:SR Γ ρ H s)(hu:Y0 Γ ρ H s.heap i xs u)(iB:gD Γ ρ s.heap vs us):iY Γ l lk A ρ s (EY lk H i xs "pop" vs) (call (.builtin "list.pop") (u::us)) (u6 Γ):=by
 refine aO (show EY lk H i xs "pop" vs=opt (one vs) λv=>opt (intOf v) λk=>fu (decide (k=0)) (opt xs.head? λx=>put lk H i (.list xs.tail) x) from(bk (by decide)).trans (bN rfl)) ?_;refine .opt λv hv=> .opt λj hj=> .fu λhc=> .opt λx hx=> .put λju Q E P=> ?_;obtain rfl:=gH hc;obtain rfl:=ac8 hv;obtain⟨w,rfl,hw⟩:=iB.one;obtain⟨t⟩:=hw.intOf hj;obtain⟨b,ys,nn,hi,vW,hb,hs,hz⟩:=hu;cases xs with
 | nil=>exact t7 hx
 | cons x' r=>
  obtain rfl:=ak hx;have hlen:=hs.size;have Jp:=hs;generalize hyl:ys.toList=yl at Jp;obtain⟨y,ys',hy,hr⟩:=Jp;have h0:ys[0]?=aa y:=by rw[←cz,hyl];rfl
  refine oV By ⟨_,hb,rfl⟩ Bf (PySem.F.args_list_pop_2 _ _) (PySem.MeetsSeq.list_pop_at b ys nn 0 t 0 y rfl ?_ h0 (aO gV (aO hlen hz))) ⟨hb, ?_⟩
  ·delta jP
   simp [hlen]
  exact ab8 (Q:=λU=>Q y) S hi vW hb ju (λxs=>xs.eraseIdxIfInBounds 0) (by rw[pg,hyl];exact hr) (dB hz) s.toks λcQ cg=>P ρ _ _ cQ cg (hy.ext cQ)
end
end
section
variable {Γ:Cx}{n m:Nat}{k:Kd}
structure ax6 (Γ:Cx):Prop where
 len:∀(l:List fP)(lk:List Nat)(A:bO)(H:Hp)(i:Nat)(c:aV)(d:j7)(xs:List V)(k:Int)(ρ:fj)(s:aW)(u:aD),∀J:jy A l 0,∀J:ag2 d xs=aa k,∀J:SR Γ ρ H s,∀J:Ad Γ ρ H s.heap i c d xs u,iY Γ l lk A ρ s (ok (.int k) H) (call (.builtin "len") [u]) (u6 Γ)
 str:∀(l:List fP)(lk:List Nat)(A:bO)(H:Hp)(i:Nat)(c:aV)(d:j7)(xs:List V)(ps:List (aJ×aJ))(ρ:fj)(s:aW)(u:aD),∀J:jy A l 0,∀J:pairs xs=aa ps,∀J:room (G3 ps).length=au,∀J:SR Γ ρ H s,∀J:Ad Γ ρ H s.heap i c d xs u,iY Γ l lk A ρ s (ok (.str (G3 ps)) H) (call (.type "str") [u]) (u6 Γ)
theorem ak2.are:∀{ns:List Int}{us:List aD},∀J:ak2 ns us,IntsAre us ns:=by
 intro ns us zz;cases zz with
 | nil=>
  exact .nil
 | cons i t _ _ h=>
  exact .cons i t h.are
def ajj (h:ak2 ns us.toList):∃xs,us=intItems xs∧ns=xs.toList.map (·.1):=by
 refine pN h.are.allInts.items λxs e=> ?_;have e':us=intItems xs:=by simpa using e
 exact⟨xs,e',by refine wj h.are.numsOf ?_;rw[←nums_intItems,←e']⟩
def sum_bound:∀{ns:List Int},∀J:(∀n∈ns,-B≤n∧n≤B),-(B*ns.length)≤ns.sum∧ns.sum≤B*ns.length:=by
 intro zz
 induction zz with
 | nil=>
  intro _;exact⟨by simp,by simp⟩
 | cons n ns ih=>
  intro h;obtain⟨h1,h2⟩:=h n (.head _);obtain⟨h3,h4⟩:=ih λm hm=>h m (.tail _ hm);simp only[nH,dZ,lA,Int.mul_add];exact⟨dF (oX Int.neg_add) (dF (Int.add_le_add h3 (dF (oX (congrArg Neg.neg (Int.mul_one B))) h1)) (oX (HW _ _))),dF (oX (HW _ _)) (Int.add_le_add h4 (dF h2 (oX (Int.mul_one B).symm)))⟩
section
variable {prog:oK}{w:vK}{A:bO}{E:PQ aD}{s:aW}{b:aV}{us:Array aD}{ns:List Int}{Q:PQ aD}
def ajk (h:j<xs.size):numAt xs j∈xs.toList.map (·.1):=by simp only[numAt_eq];exact PySem.getD_mem (by simp only[aF,dR];exact h)
def ajl (hh:A.handled=aB)(hl:s.heap.IsList b us)(hi:ak2 ns us.toList)(hn:ns.length≤1000)(hb:ns.all mid=au)
  (h:∀h' t tk,∀J:(∀b o,∀J:s.heap.get? b=aa o,h'.get? b=aa o),Q (.int ns.sum t) {s with heap:=h',toks:=tk}):aP (iG prog w) A (call (.builtin "sum") [.ref b]) Q E s:=by
 obtain⟨xs,rfl,Ri⟩:=ajj hi;have hb:∀n∈ns,-1000000000000000≤n∧n≤1000000000000000:=λn hn=>(j8 (bj.mp hb n hn)).imp gH gH;refine sum_intList hh hl (λj hj=>⟨?_, ?_⟩) λh' tk t' hk=> ?_
 ·obtain⟨h1,h2⟩:=hb _ (Ri▸ajk hj)
  exact⟨dF (by decide) h1,jj h2 (by decide)⟩
 ·simp only[preSum_eq,←Ri]
  obtain⟨h1,h2⟩:=sum_bound λn hn=>hb n (uZ hn);exact⟨dF (by decide) (dF (Int.neg_le_neg (qm (fM.mpr (aq (Lp _ _) hn)) (by decide))) h1),jj (dF h2 (qm (fM.mpr (aq (Lp _ _) hn)) (by decide))) (by decide)⟩
 ·have:=h h' t' tk hk
  simp only[preSum_eq,←Ri,(show xs.size=ns.length from by simp only[Ri,aF,dR]),tB];exact this
def aP3 (hq:Q (.type "str") s):aP (iG prog w) A (call (.type "type") [.str x t]) Q E s:=by
 obtain⟨h,g,d,tk,os⟩:=s;refine mZ (Dw ?_);refine aA ⟨wA _ (by decide+kernel),Dy entry_type_call ?_⟩
 repeat (first | exact hq | wp_step)
end
section
variable {l:List fP}{lk:List Nat}{A:bO}{ρ:fj}{H:Hp}{s:aW}{v:V}{u:aD}
def ajm (G:ax6 Γ)(a:jy A l 0)(S:SR Γ ρ H s)(hu:VR Γ ρ s.heap v u):iY Γ l lk A ρ s (a6p H v) (call (.builtin "len") [u]) (u6 Γ):=by
 cases v with
 | str x=>
  refine .fu λhr=> .ok λQ E P=> ?_;obtain⟨t⟩:=hu;exact RZ (by have:=I5 hr;lia) (P.ok S ⟨_⟩)
 | tup xs=>
  refine .fu λhr=> .ok λQ E P=> ?_;obtain⟨t,ts,nn,ht,Ov⟩:=hu;exact len_tuple (an8 ht) (by have:=I5 hr;have:=Ov.size;lia) (P.ok S (aO Ov.size ⟨_⟩))
 | ref i=>
  refine .opt λo hi=> ?_;cases o with
  | list xs=>
   refine .ok λQ E P=> ?_;obtain⟨t,ts,nn,_,_,ht,Ov,hz⟩:=VR.list hu S hi;exact call_len_list (M7 ht) (by have:=Ov.size;lia) (P.ok S (aO Ov.size ⟨_⟩))
  | acc c d xs=>exact .opt λk hk=>G.len l lk A H i c d xs k ρ s u a hk S (VR.acc hu S hi)
  | _=>exact .none
 | _=>exact .none
def ays (G:ax6 Γ)(b:String)(a:jy A l 0)(S:SR Γ ρ H s)(hu:VR Γ ρ s.heap v u):iY Γ l lk A ρ s (O7 H b v) (call (.builtin b) [u] []) (u6 Γ):=by
 delta O7;by_cases h1:b="len"
 ·subst h1;refine aO (bN rfl) ?_;exact ajm G a S hu
 refine aO (bk h1) ?_;by_cases h2:b="sum"
 ·cases h2;refine aO (bN rfl) ?_
  refine .opt λns e=> .fu λhc=> .ok λQ E P=> ?_;obtain⟨t,us,nn,rfl,ht,hi⟩:=aiz S hu e;exact ajl a.hand (M7 ht) hi (gH (d8 hc)) (m8 hc) λh' t tk kp=>P ρ {s with heap:=h',toks:=tk} _ (Ext.keeps kp) (S.keeps kp) ⟨t⟩
 refine aO (bk h2) ?_;by_cases h3:b="chr"
 ·subst h3;refine aO (bN rfl) ?_
  refine .opt λi e=> .fu λhc=> .ok λQ E P=> ?_;obtain⟨t⟩:=hu.intOf e;exact PySem.P.chr_of_int ((dI).mpr ⟨decide_eq_false (ig.mpr (gH (d8 hc))),decide_eq_false (ig.mpr (xQ (Int.lt_trans (gH (m8 hc)) (by decide))))⟩) (P.ok S (.mk _))
 exact aO (bk h3) .none
def ajn (G:ax6 Γ)(a:jy A l 0)(S:SR Γ ρ H s)(hu:VR Γ ρ s.heap v u):iY Γ l lk A ρ s (a6q H v) (call (.type "str") [u] []) (u6 Γ):=by
 cases v with
 | str x=>
  refine .ok λQ E P=> ?_;obtain⟨t⟩:=hu;exact PySem.P.str_of_str (P.ok S ⟨t⟩)
 | exc c m=>
  refine .ok λQ E P=> ?_;obtain⟨e,o,vs',t,tk,n,⟨he,hc,hd,hcc,h0,ht⟩⟩:=hu;have hA:A.units+2<vL:=bB (bG (by decide) _) a.units;rcases hcc with rfl | rfl
  ·exact nZ yX hA ⟨o,vs',he,hc,hd,h0⟩ ⟨_,n,ht,rfl,rfl⟩ (P.ok S ⟨_⟩)
  ·exact nZ zL hA ⟨o,vs',he,hc,hd,h0⟩ ⟨_,n,ht,rfl,rfl⟩ (P.ok S ⟨_⟩)
 | ref i=>
  refine .opt λp hp=> .opt λps e=> .opt λw hw=> ?_;obtain⟨rfl,hz⟩:=aI7 hw;exact G.str l lk A H p.1 _ _ _ ps ρ s u a e (gO hz) S (VR.sS hu S hp)
 | _=>exact .none
def ajo (S:SR Γ ρ H s)(hu:VR Γ ρ s.heap v u):iY Γ l lk A ρ s (a6r H v) (call (.type "type") [u] []) (u6 Γ):=by
 cases v with
 | str x=>
  refine .ok λQ E P=> ?_;obtain⟨t⟩:=hu;exact aP3 (P.ok S rfl)
 | tup xs=>
  refine .ok λQ E P=> ?_;obtain⟨t,ts,nn,ht,Ov⟩:=hu;exact kto_cont ⟨_,ht,rfl⟩ (by decide) (P.ok S rfl)
 | ref i=>
  refine .opt λp hp=> .ok λQ E P=> ?_;obtain⟨t,ts,nn,_,_,ht,Ov,hz⟩:=VR.listAt hu S hp;exact kto_cont ⟨_,ht,rfl⟩ (by decide) (P.ok S rfl)
 | _=>exact .none
def ayt (G:ax6 Γ)(b:String)(a:jy A l 0)(S:SR Γ ρ H s)(hu:VR Γ ρ s.heap v u):iY Γ l lk A ρ s (Lw H b v) (call (.type b) [u] []) (u6 Γ):=by
 delta Lw;by_cases h1:b="str"
 ·subst h1;refine aO (bN rfl) ?_;exact ajn G a S hu
 refine aO (bk h1) ?_;by_cases h2:b="list"
 ·subst h2;refine aO (bN rfl) ?_
  refine .opt λp hp=> .ok λQ E P=> ?_;obtain⟨t,ts,nn,hi,hr,ht,Ov,hz⟩:=hu.listAt S hp;refine call_list_seq t (.inl rfl) ht rfl rfl (λh' c' kp hc=> ?_) (aO gV (aO Ov.size hz));have x:=Ext.ug (Γ:=Γ) (FS:=n6 l) (W:=Wr Γ lk ρ) (ρ:=ρ) (s':={s with heap:=h',toks:=s.toks}) kp (ag6 s.heap);exact P (ρ++ [[s.heap.objs.size]]) _ _ x (S.ug kp (ag6 s.heap) (by simp) ⟨_,ts,c',hc,Ov.ext x,hz⟩) ⟨_, [],ai8 S.len⟩
 refine aO (bk h2) ?_;by_cases h3:b="type"
 ·subst h3;refine aO (bN rfl) ?_;exact ajo S hu
 exact aO (bk h3) .none
end
end
section
variable {Γ:Cx}
structure XX (Γ:Cx):Prop where
 sys:∃o,Γ.g0.get? sysModules=aa o
 re:∀a bad,∀J:Γ.G.re a=aa bad,∃code pc,aA2 Γ.g0 a code∧RE.qi code pc bad∧RE.yC code pc
def aA2.keeps {code:Array Nat}(x:aA2 h a code)(kp:∀b o,∀J:h.get? b=aa o,h'.get? b=aa o):aA2 h' a code:=by refine uG λY Z=> ?_;obtain⟨o,vs,t,cs,n,ot,ho,hc,hdi,hd,h2,h6,h5,hot,DP,sW⟩:=x;exact Z ⟨o,vs,t,cs,n,ot,kp _ _ ho,hc,hdi,hd,h2,h6,h5,kp _ _ hot,DP,sW⟩
section
variable {l:List fP}{lk:List Nat}{A:bO}{ρ:fj}{H:Hp}{s:aW}{u:aD}{vs:List V}{us:List aD}{i:Nat}{ov:V}{x:aJ}
def Yb (R:XX Γ){bad:Nat->Bool}(hb:Γ.G.re a=aa bad)(S:SR Γ ρ H s)(iB:gD Γ ρ s.heap vs us):iY Γ l lk A ρ s (opt (one vs) λv=>opt (strOf v) λs=>fu (room s.length) (ok (if s.cps.toList.any bad then V.mat else .none) H)) (call (.builtin "re.Pattern.search") (.ref a::us)) (u6 Γ):= .opt λv hv=> .opt λy hy=> .fu λhr=> .ok λQ E P=>by
 obtain rfl:=ac8 hv;obtain⟨w,rfl,hw⟩:=iB.one;obtain⟨t⟩:=hw.strOf hy;obtain⟨code,pc,h1,h2,h3⟩:=R.re _ _ hb;refine aY5 (h1.keeps S.base) h2 h3 (I5 hr) (λhy m h' o kp hm hc ⟨fs,hd⟩=> ?_) λhn=> ?_
 ·rw[bN hy]at P
  exact P ρ {s with heap:=h'} _ (Ext.keeps kp) (S.keeps kp) ⟨m,o,hm,hc,aw7 hc (by decide) (by refine aO hd ?_;rfl)⟩
 ·rw[bk (by refine aO hn ?_;decide)]at P
  exact P.ok S rfl
def aA9 (R:XX Γ)(hi:H[i]?=aa .vD)(S:SR Γ ρ H s)(hu:age ρ i u):iY Γ l lk A ρ s (ok (.QZ i) H) (call (.builtin "dict.items") [u]) (u6 Γ):= .ok λQ E P=>by
 obtain⟨d,r,hr⟩:=hu;obtain⟨r',vW,⟨d',nn,hd⟩⟩:=S.at_ hi;obtain rfl:=an0 hr vW;have hD:s.heap.DictAt (strKind Γ.prog Γ.w) d [] nn:=⟨_, #[],hd,⟨rfl,rfl,rfl⟩,rfl,λe he=>by simp at he,.nil,by decide⟩;have hg:=S.apart d (cM.mpr ⟨_,bV vW,.head _⟩);have hS:(d==sysModules)=aC:=beq_eq_false_iff_ne.mpr λe=>by obtain⟨o,ho⟩:=R.sys;simp only[e,ho]at hg;exact nxS hg
 refine call_meetsIn zX hD.dictOf.typeIs PySem.F.entry_dict_items (PySem.F.args_dict_items_1 _) (meets_dict_items (strKind Γ.prog Γ.w) d hS) ⟨⟨_,hD.dictOf⟩, ?_⟩;have kp:=N6 s.heap {cls:= .type "dict_items",data:= .fields #[.ref d]};exact P ρ {s with heap:=s.heap.push {cls:= .type "dict_items",data:= .fields #[.ref d]}} _ (Ext.keeps kp) (S.keeps kp) ⟨_,d,vW,bx _ rfl⟩
def aX0 (K:N7 Γ)(hu:Ad Γ ρ H s.heap j c d xs u)(S:SR Γ ρ H s)(hw:VR Γ ρ s.heap v w):iY Γ l lk A ρ s (fu (room (xs.length+1)) (put lk H j (.acc c d (xs++ [v])) V.none)) (call (.builtin "list.append") [u,w]) (u6 Γ):= .fu λhr=> .put λju Q E P=>by obtain⟨b,dx,es,nn,ys,kk,hi,vW,hA,hd,pB,hs,hz,rfl,tG⟩:=hu;refine an9 K S.qJ ⟨_,hA,rfl⟩ aV8 (by decide+kernel:xm "list.append"=aa ("list","append")) (by decide+kernel) PySem.F.entry_list_append (PySem.F.args_list_append_2 _ _) ?_;show aP _ _ (updateSeq b (·.push w)>>=λU=>ret .none) _ _ _;refine aj (vM hA rfl ?_ (by refine aO hs.size (aO gV ?_);exact hz) (by rw[afk,hs.size];exact iT (aA8 hr)));exact aA ⟨_,rfl,au2 (Q:=λU=>Q .none) S hi vW hA hd pB tG ju (·.push w) (by refine aO lD ?_;exact hs.append (.mk w [] hw rfl)) (aO az (I5 hr)) s.toks λx S'=>P ρ _ .none x S' rfl⟩
def aE3 (hu:Y0 Γ ρ H s.heap i xs u){id:String}(slot:Slot "list" x id)(hty:vp (.builtin id)=pure (.type "method_descriptor")):Found Γ s u x (.builtin id):=λA pl Q E h=>by obtain⟨a,us,nn,_,_,ha,_⟩:=hu;exact zN ⟨_,ha,rfl⟩ PySem.F.plainAttrs_list slot hty (λb e=>by cases e;exact⟨_,ha,rfl⟩) h
def aE4 {id:String}(slot:Slot "str" x id)(hty:vp (.builtin id)=pure (.type "method_descriptor"))(h:Q (.builtin id, [.str y t]) s):aP Γ.M A (rZ (.str y t) x pl) Q E s:=by with_reducible exact GM.of (.str y t) (vm _ _ _) slot hty GM.noRef h
def ar9 {id:String}(slot:Slot "str" x id)(hty:vp (.builtin id)=pure (.type "method_descriptor")):Found Γ s (.str y t) x (.builtin id):=λA pl Q E h=>by with_reducible exact aE4 slot hty h
def ayu (h:X5.contains x=au):x="lower" ∨x="strip" ∨x="isspace" ∨x="join" ∨x="split":=by simpa [X5] using h
def ayv (h:ab1.contains x=au):x="append" ∨x="pop" ∨x="insert":=by simpa [ab1] using h
abbrev ari (Γ:Cx)(tg:Rc)(ov:V)(x:aJ)(u:aD)(id:String):Prop:=∀(r:Rec)(n:Nat)(l:List fP)(A:bO)(lk:List Nat)(vs:List V)(H:Hp)(ρ:fj)(s:aW)(us:List aD),∀J:jy A l n,∀J:SR Γ ρ H s,∀J:VR Γ ρ s.heap ov u,∀J:gD Γ ρ s.heap vs us,q7 Γ l lk ρ s (W7 r lk tg ov x vs [] [] H) (λQ E=>aP Γ.M A (call (.builtin id) (u::us)) Q E s) (u6 Γ)
def ayw (h:X5.contains x=au):∃id,Found Γ s (.str y t) x (.builtin id)∧ari Γ (.str y) (.str y) x (.str y t) id:=by
 rcases ayu h with rfl | rfl | rfl | rfl | rfl
 ·exact⟨"str.lower",by with_reducible exact ar9 PySem.F.slot_str_lower PySem.F.type_str_lower,λr n l A lk vs H ρ s us a S hv iB=>m_lower S iB⟩
 ·exact⟨"str.strip",by with_reducible exact ar9 PySem.F.slot_str_strip PySem.F.type_str_strip,λr n l A lk vs H ρ s us a S hv iB=>m_strip S iB⟩
 ·exact⟨"str.isspace",by with_reducible exact ar9 PySem.F.slot_str_isspace PySem.F.type_str_isspace,λr n l A lk vs H ρ s us a S hv iB=>m_isspace S iB⟩
 ·exact⟨"str.join",by with_reducible exact ar9 tY tZ,λr n l A lk vs H ρ s us a S hv iB=>ayq S iB⟩
 ·exact⟨"str.split",by with_reducible exact ar9 oh PySem.F.type_str_split,λr n l A lk vs H ρ s us a S hv iB=>m_split S iB⟩
def ayx (h:ab1.contains x=au)(hu:Y0 Γ ρ H s.heap j xs u):∃id,Found Γ s u x (.builtin id)∧ari Γ (.lst i) ov x u id:=by
 rcases ayv h with rfl | rfl | rfl
 ·exact⟨"list.append",by with_reducible exact aE3 hu PySem.F.slot_list_append zO,λr n l A lk vs H ρ s us a S hv iB=> .opt λp e=>XR S (hv.listAt S e) iB⟩
 ·exact⟨"list.pop",by with_reducible exact aE3 hu By tV,λr n l A lk vs H ρ s us a S hv iB=> .opt λp e=>av1 S (hv.listAt S e) iB⟩
 ·exact⟨"list.insert",by with_reducible exact aE3 hu zM PySem.F.type_list_insert,λr n l A lk vs H ρ s us a S hv iB=> .opt λp e=>XS S (hv.listAt S e) iB⟩
def bm (K:N7 Γ)(R:XX Γ):BM Γ where
 find:=λov x tg H ρ s u S hl ht hv=>by
  cases ov with
  | str y=>
   refine I3 hl λhx hl=> ?_;obtain rfl:=ak hl;obtain⟨t⟩:=hv;exact ayw hx
  | gl v=>
   cases v with
   | ref a=>
    refine I3 hl λhx hl=> ?_;refine j5 hl λbad hb hl=> ?_;obtain rfl:=ak hl;obtain rfl:=gH hx;obtain rfl:u= .ref a:=hv;refine uG λY Z=> ?_;obtain⟨code,pc,h1,_,_⟩:=R.re _ _ hb;obtain⟨o,_,_,_,_,_,ho,hc,hd,_⟩:=h1.keeps S.base;exact Z ⟨_,λA pl Q E h=>zN ⟨o,ho,hc⟩ aP0 aD3 aW6 (λb e=>by cases e;exact⟨o,ho,hd⟩) h,λr n l A lk vs H ρ s us a S hv iB=>Yb R hb S iB⟩
   | _=>exact t7 hl
  | ref i=>
   refine j5 hl λo hi hl=> ?_;cases o with
   | vD=>
    refine I3 hl λhx hl=> ?_;obtain rfl:=ak hl;obtain rfl:=gH hx;obtain⟨r',vW,⟨d',nn,hd⟩⟩:=S.at_ hi;obtain⟨d,r,hr⟩:=hv;obtain rfl:=an0 hr vW;refine⟨_,λA pl Q E h=>zN ⟨_,hd,rfl⟩ PySem.F.plainAttrs_dict zX PySem.F.type_dict_items (λb e=>by cases e;exact⟨_,hd,rfl⟩) h,λr n l A lk vs H ρ s us a S hv iB=> .fu λhz=> .opt λo hi=> ?_⟩;obtain rfl:=cj.mp (d8 hz);obtain rfl:=iB.nil;cases o with
    | vD=>exact aA9 R hi S hv
    | _=>exact .none
   | inst c d=>
    exact oG (cR.mp hl) λf _ e=>(absurd e.symm (ht f))
   | acc c d xs=>
    have hl:(match d.lookup x with
     | some _=>aB
     | none=>match Γ.G.bW c x with
      | some f=>aa (Rc.fn f)
      | none=>fu (decide (x=("append":aJ))) (aa (.acc i)))=aa tg:=hl
    cases hd:d.lookup x with
    | some v=>rw[hd]at hl;exact t7 hl
    | none=>
     rw[hd]at hl;cases hm:Γ.G.bW c x with
     | some f=>simp only[hm]at hl;exact absurd (ak hl).symm (ht f)
     | none=>
      simp only[hm]at hl;refine I3 hl λhx hl=> ?_;obtain rfl:=ak hl;obtain rfl:=gH hx;obtain⟨b,dx,es,nn,ys,kk,hi,vW,hA,hD,pB,hs,hz,hc,tG⟩:=VR.acc hv S hi;exact⟨_,λA pl Q E h=>Uy K S.qJ (od:=aa (iD es nn)) ⟨hA,rfl,rfl,hD⟩ K.app zO (by show(lookIn _ (iD es nn)).map _=_;simp only[Bs,(pB.look _).2 hd];rfl) h,λr n l A lk vs H ρ s us a S hv iB=> .opt λv h1=> .opt λp e=>by
       obtain rfl:=ac8 h1;obtain⟨w,rfl,hw⟩:=iB.one;exact aX0 K (hv.sS S e) S hw⟩
   | list xs=>
    refine I3 hl λhx hl=> ?_;obtain rfl:=ak hl;exact ayx hx (VR.list hv S hi)
  | _=>exact t7 hl
end
end
section
variable {Γ:Cx}
structure Jw (sc:jK):Prop where
 co:sc.isCoroutine=aC
 kind:sc.kind= .function
 zm:∀env,HS sc env=pure []
 cell:∀y∈sc.names,y.2≠ .cell
 z:sc.names.lookup (".0":aJ)=aa NameKind.local
 f:sc.names.lookup ("fws":aJ)=aa NameKind.local
 p:sc.names.lookup ("part":aJ)=aa NameKind.local
structure ao5 (Γ:Cx)(c P:aV):Prop where
 tab:P∈Γ.tabs
 gP:Γ.g0.get? P=aB
 hd:CodeHd Γ.g0 c P
 at_:∀h,∀J:Γ.tabsOk h,∃ps,h.get? P=aa (nW ps)∧nM ps.toList
 put:∀h h',∀J:Γ.tabsOk h,∀J:(∀b o,∀J:b≠P,∀J:h.get? b=aa o,h'.get? b=aa o),∀J:V8 P h h',Γ.tabsOk h'
 bare:∀g,Γ.Ab g↔aea g
 qR:Γ.g0.NoLimit
 main:∃mg bm ob,Γ.g0.Ns bY mg∧mg "__builtins__"=aa (.ref bm)∧bm≠dJ∧bm≠bY∧Γ.g0.get? bm=aa ob∧ob.cls= .type "module" ∧ob.dict=aa dJ∧ob.data= .plain
def Yc (hc:env.code= .ref c)(C:CodeHd s.heap c P)(hP:s.heap.get? P=aa (nW ps))(ht:nM ps.toList)
  (hQ:∀code h' tk more,∀J:yM P s.heap h',∀J:h'.get? P=aa (nW (ps++more)),∀J:nM (ps++more).toList,Q code {s with heap:=h',toks:=tk}):aP M A (genexprCode env pos qualname scope) Q E s:=by
 cases hf:Be pos ps.toList with
 | none=>
  exact wpAny_genexprCodeX hc (C.code hP ht) (C.tab hP) hf λc' h' tk hx U U U U htb U=>hQ _ _ _ _ hx htb.2 (aO dC (TriplesOk_snoc _ _ _ _ ht))
 | some cv=>
  refine uG λY Z=> ?_;obtain⟨o,vs,file,tf,flags,tg,inF,text,tt,e1,_,e3,_,f3,_⟩:=C;refine Z ?_;unfold genexprCode codeAt;exact aO hc (pM (bk aR) (aj (HR e1 e3 (aO f3 (aj (HR hP rfl (aO hf (aA (hQ cv s.heap s.toks #[] (Heap.ExtBut.refl _ _) (aO jg hP) (aO jg ht))))))))))
def addrOf (ys:Array aD)(j:Nat):aV:=match ys[j]? with
 | some (.ref b)=>b
 | _=>0
def aB0 (h:bM)(a:aV):Array aD:=match h.get? a with
 | some ⟨_,_,.seq vs _,_⟩=>vs
 | _=> #[]
inductive Yd (h:bM)(ps:List (aJ×aJ))(j:Nat):aD->Prop
 | mk (T:aV) (x1 x2:aJ) (t1 t2:RG) (n:Nat) (hp:ps[j]?=aa (x1,x2)) (hT:h.get? T=aa {cls:= .type "tuple",data:= .seq #[.str x1 t1,.str x2 t2] n}):Yd h ps j (.ref T)
def pairs_at:∀{xs:List V}{us:List aD}{ps:List (aJ×aJ)},∀J:gD Γ ρ h xs us,∀J:pairs xs=aa ps,∀{j:Nat}{u:aD},∀J:us[j]?=aa u,Yd h ps j u:=by
 intro zz
 induction zz with
 | nil=>
  intro _ _ hv _ _ _ e;obtain rfl:=hv.nil;exact iz e
 | cons x xs ih=>
  rintro _ ps ⟨u,us,hu,hs⟩ hp j u' e;refine j5 hp λp h1 hp=> ?_;refine j5 hp λps' h2 hp=> ?_;obtain rfl:=ak hp;cases j with
  | zero=>
   obtain rfl:=ak e;refine j5 h1 λl e1 h1=> ?_
   match l,e1,h1 with
   | [a,b],e1,h1=>
    refine j5 h1 λx1 q1 h1=> ?_;refine j5 h1 λx2 q2 h1=> ?_;obtain rfl:=ak h1;obtain⟨T,vs,n,hT,iB⟩:=hu.yo e1;obtain⟨u1,u2,e,g1,g2⟩:=iB.two;obtain⟨t1⟩:=g1.strOf q1;obtain⟨t2⟩:=g2.strOf q2;obtain rfl:vs= #[.str x1 t1,.str x2 t2]:=jc.mp e;exact⟨T,x1,x2,t1,t2,n,rfl,hT⟩
  | succ j=>
   obtain⟨T,x1,x2,t1,t2,n,a,c⟩:=ih hs h2 e;exact⟨T,x1,x2,t1,t2,n,a,c⟩
def pairs_len:∀{xs:List V}{ps:List (aJ×aJ)},∀J:pairs xs=aa ps,ps.length=xs.length:=by
 intro zz
 induction zz with
 | nil=>
  intro _ e;obtain rfl:=ak e;rfl
 | cons x xs ih=>
  intro ps hp;refine j5 hp λp h1 hp=> ?_;refine j5 hp λps' h2 hp=> ?_;obtain rfl:=ak hp;exact congrArg tK (ih h2)
def aD5 (n:Nat):passing (λU=>au) n 0=dm n:=by simp [passing]
section
variable {k:Kd}{env:fP}{l:List fP}{A:bO}{ρ:fj}{H:Hp}{s:aW}{E:PQ aD}{loc cX:j7}{c P a dx:aV}{sc:jK}{xs:List V}{ps:List (aJ×aJ)}{ys:Array aD}{nn:Nat}{elt:aG}{Fy:aJ->aJ->aD->Prop}
structure ayz (Γ:Cx)(A:bO)(P c:aV)(ps:List (aJ×aJ))(Fy:aJ->aJ->aD->Prop)(s:aW)(ga:aV)(kJ:aW)(fp wr:List aV)(g:Nat)(St:PQ Nat):Prop where
 kp:∀b o,∀J:b≠P,∀J:s.heap.get? b=aa o,kJ.heap.get? b=aa o
 code:V8 P s.heap kJ.heap
 bare:aea kJ.gens
 os:kJ.os=s.os
 drawn:kJ.drawn=s.drawn
 W:WalksS Γ.prog Γ.w A.in4 ga fp wr (GenOnlyQ g) ps.length (λj y=>∃p,ps[j]?=aa p∧Fy p.1 p.2 y) St
 st:St 0 kJ
 low:∀b∈fp,b<kJ.heap.objs.size
 new:∀b∈wr,s.heap.get? b=aB
 ty:∀i s',St i s'->s'.TypeIs (.ref ga) "generator"
 gaf:ga∈fp
def Jx (KA:N7 Γ)(T:ao5 Γ c P)(C:Jw sc)(O:v8 Γ k env)(hse:k ("self":aJ)=aa .local)(sW:env.code= .ref c)(hh:A.handled=aB)(yw:A.depth<mW)(S:SR Γ ρ H s){m:aJ->Option aD}(hn:s.heap.Ns env.locals m)(hm:m ("self":aJ)=aa (.ref a))
  (hA:s.heap.get? a=aa {cls:= .ref Γ.G.gh,dict:=aa dx,data:= .seq ys nn}) (ha:a∈ρ.flatten) (hys:gD Γ ρ s.heap xs ys.toList) (hxs:pairs xs=aa ps)
  (aMj:∀(C':aV)(code:aD)(A':bO)(E':PQ aD)(x1 x2:aJ)(t1 t2:RG)(bK:aW) m₂,∀J:A'.handled=aB,∀J:(x1,x2)∈ps,∀J:Γ.K.In bK.heap,∀J:bK.heap.Ns C' m₂,∀J:m₂ "fws"=aa (.str x1 t1),∀J:m₂ "part"=aa (.str x2 t2),aP Γ.M A' (eval elt (genEnv sc [] C' code dJ env)) (λy lL=>Fy x1 x2 y∧Keeps bK lL) E' bK)
  (hQ:∀ga kJ fp wr g St,∀J:ayz Γ A P c ps Fy s ga kJ fp wr g St,Q (.ref ga) kJ):
  aP Γ.M A (eval (.GeneratorExp elt [⟨.Tuple [.Name ("fws":aJ) p1,.Name ("part":aJ) p2] kt p3,.Name ("self":aJ) p4, [],0⟩] sc pos) env) Q E s:=by
 refine oG (T.at_ _ S.tabs) λtb hP htb=> ?_;refine uG λY Z=> ?_;obtain⟨mg,bm,ob,hmg,hbm,vg,hng,hob,h1,h2,h3⟩:=T.main;refine Z ?_;refine oG (Γ.nT _ S.tabs P T.tab) λoP hoP hcP=> ?_;have haP:a≠P:=λe=>S.mz a ha (e▸T.tab);refine wpAny_GeneratorExp_walksQT hh C.co (C.zm env) C.cell C.z C.f C.p (by decide) C.kind yw ?_ (λU=>rfl);refine eX (gB O.kind (O.loc _ hse) hn hm ?_) (J0 (by decide));refine Xb KA S.qJ ⟨_,hA,rfl⟩ ⟨(T.qR.keeps S.base).keeps λb o e=>aZ _ e, ?_⟩;refine Yc sW (T.hd.keeps λb o e=>aZ _ (S.base b o e)) (aZ _ hP) htb λcode Cv aWb more hx hc' ht'=> ?_;have Ye:∀b o,∀J:b≠P,∀J:s.heap.get? b=aa o,Cv.get? b=aa o:=λb o hb e=>hx b o hb (aZ _ e);have ye:∀b o,∀J:Γ.g0.get? b=aa o,Cv.get? b=aa o:=λb o e=>Ye b o (Z1 e T.gP) (S.base b o e);refine aO O.glob ?_;refine wpAny_builtinsFor (hmg.keeps ye) hbm vg (ye _ _ hob) h1 h2 h3 ?_;have nI:s.heap.get? s.heap.objs.size=aB:=N5 _;have Yg:=gf (hx _ _ ((Z1 hoP nI).symm) (bx _ rfl));have hat:∀j,∀J:j<ys.size,∃x1 x2 t1 t2 n,ys[j]?=aa (.ref (addrOf ys j))∧ps[j]?=aa (x1,x2)∧s.heap.get? (addrOf ys j)=aa {cls:= .type "tuple",data:= .seq #[.str x1 t1,.str x2 t2] n}∧aB0 s.heap (addrOf ys j)= #[.str x1 t1,.str x2 t2]:=λj hj=>by
  obtain⟨u,hu⟩:∃u,ys[j]?=aa u:=⟨_,fG hj⟩;obtain⟨T',x1,x2,t1,t2,n,e2,e3⟩:=pairs_at hys hxs (by rw[cz];exact hu);have e4:addrOf ys j=T':=by delta addrOf;exact aO hu rfl
  exact⟨x1,x2,t1,t2,n,by refine aO e4 ?_;exact hu,e2,by refine aO e4 ?_;exact e3,by delta aB0;exact aO e4 (aO e3 rfl)⟩
 have Yh:∀j,∀J:j<ys.size,Cv.IsTuple (addrOf ys j) (aB0 s.heap (addrOf ys j)):=λj hj=>by obtain⟨x1,x2,t1,t2,n,e1,e2,e3,e4⟩:=hat j hj;refine aO e4 ?_;refine⟨_,Ye _ _ (λz=> ?_) e3,rfl,n,rfl⟩;simp only[z,hoP]at e3;cases e3;cases hcP
 refine⟨s.heap.objs.size,s.heap.objs.size::a::(dm ys.size).map (addrOf ys), [s.heap.objs.size],ys.size,_,_,_,λU=>au,(λi y=>∃p,ps[i]?=aa p∧Fy p.1 p.2 y),rfl,λA' hA'=>Xa hA' _ a (Z1 hA nI) ys (addrOf ys) (λj=>aB0 s.heap (addrOf ys j)) (λj hj=>(hat j hj).elim (by rintro _ ⟨_,_,_,_,e,_⟩;exact e)) (λj hj=>(hat j hj).elim (by rintro _ ⟨_,_,_,_,_,_,e3,_⟩;exact Z1 e3 nI)),λi vals hv=> ?_,⟨⟨_,(hx _ _ ((Z1 hoP nI).symm) (bx _ rfl)),rfl,rfl⟩,⟨_,Ye _ _ haP hA,nn,rfl⟩,Yh⟩,λb hb=> ?_,T.qR.keeps ye,λaxz=> ?_,λbcu a82=>⟨λA' E' i va vb bK m₂ hA' hP hN hma hmb hkp=>aA ⟨rfl,bK.heap,bK.toks,rfl,λU U e=>e⟩,λA' E' i va vb bK m₂ hA' hP U hN hma hmb hkp=> ?_⟩,λga ayb tk gs hgb hag aza arj W aMk=> ?_⟩
 ·obtain⟨hi,rfl⟩:=hv
  obtain⟨x1,x2,t1,t2,n,_,_,_,e4⟩:=hat i hi;exact⟨_,_,e4⟩
 ·rcases bc.mp hb with rfl | hb
  ·exact Yg
  ·rcases bc.mp hb with rfl | hb
   ·exact gf (Ye _ _ haP hA)
   ·obtain⟨j,hj,rfl⟩:=cC.mp hb
    exact oG (Yh j (cP.mp hj)) λ_ e _=>(gf e)
 ·obtain⟨mc,⟨o,_,_,ho,_⟩,_⟩:=T.qR.keeps S.base
  exact Z1 ho nI (aH.mp axz)
 ·obtain⟨hi,hv⟩:=hP
  refine uG λY Z=> ?_;obtain⟨x1,x2,t1,t2,n,_,e2,_,e4⟩:=hat i hi;refine Z ?_;simp only[e4]at hv;refine uG λY Z=> ?_;obtain⟨rfl,rfl⟩:va= .str x1 t1∧vb= .str x2 t2:=by simpa using hv
  refine Z ?_;refine bH (aMj _ code A' E' x1 x2 t1 t2 bK m₂ hA' (bV e2) (λb o e=> ?_) hN hma hmb) (by rintro y lL ⟨z1,z2⟩;exact⟨⟨_,e2,z1⟩,z2⟩) λU U z=>z;have eb:=ye b o (Γ.inK b o e);exact hkp b (cP.mpr (gf eb)) (λhm=>Z1 (S.base b o (Γ.inK b o e)) nI (aH.mp hm)) o (a82 b o eb)
 ·simp only[show(passing (λU=>au) ys.size 0).length=ps.length by simp only[aD5,lH,(hys.size.trans (pairs_len hxs).symm)]]at W
  refine hQ ga _ _ _ _ _ ⟨λb o hb e=>arj b o (Ye b o hb e),⟨tb,more,hP,arj _ _ hc',ht'⟩,((T.bare _).mp S.gens).push hgb,rfl,rfl,W.imp λj y ⟨i,hi,p,e1,e2⟩=> ?_,aMk,λb hb=> ?_,λb hb=> ?_,λi s' st=>st.1.typeIs,.head _⟩
  ·rw[aD5]at hi
   have hj:=(aL.mp hi).1;rw[lH]at hj;rw[List.getElem?_range hj]at hi;exact⟨p,ak hi▸e1,e2⟩
  ·show b<ayb.objs.size
   rw[aza];rcases bc.mp hb with rfl | hb
   ·exact eE _
   ·rcases bc.mp hb with rfl | hb
    ·exact jG hag
    ·exact jG (dG (cP.mp hb) hag)
  ·rcases bc.mp hb with rfl | hb
   ·exact gQ (bz Yg)
   ·refine aO (aH.mp hb) ?_;exact nI
structure aG6 (Γ:Cx)(g c:aV)(body:List pK)(kd:Kd):Prop where
 fn:∃f o fd dU,FnAt Γ g f o fd body dU∧f.params= [("self":aJ)]∧f.eN= []∧f.kwarg=aB∧f.cells= []∧(1, [])∈f.shapes∧fd.code= .ref c∧kdOf fd.scope=kd
structure Rm (A:bO):Prop where
 hand:A.handled=aB
 depth:A.depth+4<mW
def jy.rm (a:jy A l 0)(h:A'.handled=A.handled)(d:A'.depth≤A.depth+4):Rm A':=⟨h.trans a.hand,bB (aq (aK d 4) (show A.depth+8≤A.depth+20 from bG (by decide) _)) a.depth⟩
def aS5 (T:ao5 Γ c P){FS:List aV}{lk:List Nat}(S:SR Γ ρ H s)(kp:∀b o,∀J:b≠P,∀J:s.heap.get? b=aa o,s'.heap.get? b=aa o)(hc:V8 P s.heap s'.heap)(hg:aea s'.gens)(h1:s'.os=s.os)(h2:s'.drawn=s.drawn):SR Γ ρ H s'∧Ext Γ FS (Wr Γ lk ρ) ρ s ρ s':=
 aS2 S T.tab T.gP kp hc.there (T.put _ _ S.tabs kp hc) ((T.bare _).mpr hg) h1 h2
def ayz.fin {St:PQ Nat}{lk:List Nat}(G:ayz Γ A P c ps Fy s ga kJ fp wr g St)(T:ao5 Γ c P)(S:SR Γ ρ H s)(hm:Moved wr (GenOnlyQ g) {kJ with toks:=tk} s'){FS:List aV}:SR Γ ρ H s'∧Ext Γ FS (Wr Γ lk ρ) ρ s ρ s':=
 aS5 T S (λbb oo vg e=>hm.heap bb oo (λz=>iz ((G.new bb z).symm.trans e)) (G.kp bb oo vg e)) (G.code.casesOn λps more q q' r=> .mk ps more q (hm.heap _ _ (λy=>iz ((G.new _ y).symm.trans q)) q') r) (hm.gens.bare G.bare) (hm.os.trans G.os) (hm.drawn.trans G.drawn)
variable {lk:List Nat}{u:aD}{i:Nat}{g:aV}{body:List pK}{kd:Kd}{R:PQ Ba}
set_option backward.match.sparseCases true in
def aN3 (D:aG6 Γ g c body kd)(qR:Γ.g0.NoLimit)(a:Rm A)(S:SR Γ ρ H s)(hu:VR Γ ρ s.heap (.ref i) u)
  (h:∀env bK,∀J:v8 Γ kd env,∀J:env.code= .ref c,∀J:SR Γ ρ H bK,∀J:FR Γ [env] ρ bK.heap env [(("self":aJ),.ref i)] [],∀J:(∀W:aV->Prop,Ext Γ (n6 l) W ρ s ρ bK),aP Γ.M (A.deeper env) (aop body env) (λf s'=>R (.ok (.ret (match f with | .ret v=>v | _=> .none))) s') (λU U=>False) bK):iw Γ.M A (.call (.ref g) ⟨[u], []⟩) R s:=by
 refine uG λY Z=> ?_;obtain⟨f,o,fd,dU,F,h1,h2,h3,h4,h5,h6,rfl⟩:=D.fn;refine Z ?_;refine vY (bB (bh _ 4) a.depth) (S.base _ _ F.obj) F.data F.co F.gen F.stmts (F.code.keeps S.base) ?_;refine F.bind 1 [] h5 [u] [] rfl rfl [] (by refine aO h1 (aO h2 ?_);rfl) _ _ _ _ _ S.base ?_;delta ar8;refine aO h3 (aO h1 ?_);refine au5 F.toFrmOk S (λe he=>zZ he) (show BR Γ ρ s.heap [(("self":aJ),.ref i)] [(("self":aJ),u)] from .mk u [] hu rfl) (by simp only[Fn.names,h1,h2,h3];rfl) (λq=>absurd q F.noe) λenv bK D=>⟨qR.keeps D.S.base, ?_⟩;refine codeAny_func (bH (h env bK D.O (D.T.code.trans h6) D.S ?_ λW=> ?_) (λU U z=>z) λU U z=>z.elim)
 ·have yD:=D.F
  rw[h4]at yD;exact yD
 ·have x:=D.x W
  exact⟨x.grow,⟨x.vf.vG,λb o e w U=>x.vf.keep b o e w nofun,λb o e w U=>⟨o.slots,x.vf.keep b o e w nofun⟩⟩,x.live,x.os,x.drawn⟩
end
end
section
variable {Γ:Cx}
section
variable {A:bO}{s:aW}
def Jy (h1:env.scope.kind= .function)(h2:env.kindOf x=aa .globalImplicit)(h3:env.globals=bY)(h4:env.builtins=dJ)(gr:Bl Γ x v)(X:Γ.K.In s.heap)(h:Q v s):aP M A (aok env x) Q E s:=by
 rw[QL h1 h2];delta loadGlobal;refine aO h3 (aO h4 ?_);rcases gr with z | ⟨z1,z2⟩
 ·exact aj ((oW X z).here (aA h))
 ·exact aj ((oW X z1).here (aj ((oW X z2).here (aA h))))
def ao6 {env:fP}{m:aJ->Option aD}(h1:env.scope.kind= .function)(h2:env.kindOf "len"=aa .globalImplicit)(h3:env.globals=bY)(h4:env.builtins=dJ)(gr:Bl Γ "len" (.builtin "len"))(X:Γ.K.In s.heap)
  (hx:env.kindOf x=aa .local) (hN:s.heap.Ns env.locals m) (hm:m x=aa (.str y t)) (hd:x≠("__debug__":aJ)) (hs:y.length≤16777216) (h:∀tk k',Q (.int y.length tk) {s with toks:=k'}) (p0 p1 p2:sZ):aP Γ.M A (eval (.Call (.Name ("len":aJ) p0) [.Name x p1] [] p2) env) Q E s:=by
 refine pZ (eX (Jy h1 h2 h3 h4 gr X ?_) (J0 (by decide)));refine pH (P:=λU=>True) rfl (λh U=>⟨.machine,.inr (.inl rfl),nA rfl⟩) (nu ?_);refine jk (eX (gB h1 hx hN hm ?_) (J0 hd));refine mY ⟨trivial, ?_⟩;exact RZ (rD.mpr (agk hs)) (h _ _)
end
def as3 (ps:List (aJ×aJ))(j:Nat):Int:=match ps[j]? with
 | some p=>(p.1.length+p.2.length:Nat)
 | none=>0
def aX1 (g:Nat->Int):∀j n,yN (am2 n g) (j+2)=yN (am2 (n+g 0) λi=>g (i+1)) (j+1):=by
 intro zz
 induction zz with
 | zero=>
  intro n;simp [yN,am2]
 | succ j ih=>
  intro n;rw[yN,ih n];rfl
def aq9 (p:aJ×aJ)(ps:List (aJ×aJ)):G6 (p::ps)=p.1.length+p.2.length+G6 ps:=by delta G6;exact aO cF (aO nH rfl)
def Oz:∀(ps:List (aJ×aJ))(n:Int),yN (am2 n (as3 ps)) (ps.length+1)=n+(G6 ps:Int):=by
 intro zz
 induction zz with
 | nil=>
  intro n;simp [yN,am2,G6]
 | cons p ps ih=>
  intro n;rw[dZ,aX1,show(λi=>as3 (p::ps) (i+1))=as3 ps from rfl,ih,aq9,lA,Int.add_assoc];rfl
def Jz:∀{ps:List (aJ×aJ)}{p:aJ×aJ},∀J:p∈ps,p.1.length+p.2.length≤G6 ps:=by
 intro zz
 induction zz with
 | nil=>intros;contradiction
 | cons q ps ih=>
  intro p h;rw[aq9];rcases bc.mp h with rfl | h
  ·exact bh _ _
  ·exact aq (ih h) (cL _ _)
def Rm.deep (a:Rm A):(A.deeper env).depth<mW:=bB (bG (show 1≤4 by decide) A.depth) a.depth
inductive Yi (sc:jK):List pK->Prop
 | mk (a0 a1 a2 b0 b1 b2 b3 p1 p2 p3 p4:sZ) (kt:Nat) (pos q0 q1 q2 q3 q4:sZ):Yi sc [.Return (aa (.Call (.Name ("sum":aJ) q0) [.GeneratorExp (.BinOp (.Call (.Name ("len":aJ) a0) [.Name ("fws":aJ) a1] [] a2) .Add (.Call (.Name ("len":aJ) b0) [.Name ("part":aJ) b1] [] b2) b3) [⟨.Tuple [.Name ("fws":aJ) p1,.Name ("part":aJ) p2] kt p3,.Name ("self":aJ) p4, [],0⟩] sc pos,.Attribute (.Name ("self":aJ) q1) ("_initial_size":aJ) q2] [] q3)) q4]
inductive Yj (sc:jK):List pK->Prop
 | mk (a0 a1 a2 a3 a4 a5:sZ) (b0:Nat) (p1 p2 p3 p4:sZ) (kt:Nat) (pos q0 q1 q3 q4:sZ) (ha:(a1.endLine==a5.line)=au) (hq:(q1.endLine==q3.line)=au):Yj sc [.Return (aa (.Call (.Attribute (.Name ("EMPTYSTRING":aJ) q0) ("join":aJ) q1) [.GeneratorExp (.Call (.Attribute (.Name ("EMPTYSTRING":aJ) a0) ("join":aJ) a1) [.Tuple [.Name ("fws":aJ) a2,.Name ("part":aJ) a3] b0 a4] [] a5) [⟨.Tuple [.Name ("fws":aJ) p1,.Name ("part":aJ) p2] kt p3,.Name ("self":aJ) p4, [],0⟩] sc pos] [] q3)) q4]
structure aG7 (Γ:Cx)(g c P:aV)(body:List pK)(kd:Kd)(sc:jK):Prop where
 tab:ao5 Γ c P
 dn:aG6 Γ g c body kd
 Rn:Jw sc
 scl:sc.names.lookup ("len":aJ)=aa .globalImplicit
 JB:kd ("self":aJ)=aa .local
 aMm:kd ("sum":aJ)=aa .globalImplicit
 aMn:Bl Γ "sum" (.builtin "sum")
 a84:Bl Γ "len" (.builtin "len")
 bd:Yi sc body
structure Gk (Γ:Cx)(g c P:aV)(body:List pK)(kd:Kd)(sc:jK):Prop where
 tab:ao5 Γ c P
 dn:aG6 Γ g c body kd
 Rn:Jw sc
 sce:sc.names.lookup ("EMPTYSTRING":aJ)=aa .globalImplicit
 JB:kd ("self":aJ)=aa .local
 aMo:kd ("EMPTYSTRING":aJ)=aa .globalImplicit
 aMp:∃t,Bl Γ "EMPTYSTRING" (.str "" t)
 bd:Yj sc body
section
variable {l:List fP}{lk:List Nat}{A:bO}{ρ:fj}{H:Hp}{s:aW}{u:aD}{i:Nat}{g c P cl:aV}{body:List pK}{kd:Kd}{sc:jK}{R:PQ Ba}{d:j7}{xs:List V}{k:Int}
def aN4 (h:Ie d xs=aa p):d.lookup ("_initial_size":aJ)=aa (.int p.1)∧pairs xs=aa p.2∧mid p.1=au∧room (G6 p.2)=au:=by refine j5 h λv h1 h=> ?_;refine j5 h λn h2 h=> ?_;refine j5 h λps h3 h=> ?_;refine I3 h λhc h=> ?_;obtain rfl:=ak h;exact⟨aL4 h2▸h1,h3,(j8 (d8 hc)).1,(j8 (d8 hc)).2⟩
def ajr (KA:N7 Γ)(C:Fv Γ)(L:aG7 Γ g c P body kd sc)(a:Rm A)(S:SR Γ ρ H s)(hi:H[i]?=aa (.acc cl d xs))(hp:Ie d xs=aa p)(hu:VR Γ ρ s.heap (.ref i) u)
  (h:∀s' t,∀J:SR Γ ρ H s',∀J:Ext Γ (n6 l) (Wr Γ lk ρ) ρ s ρ s',R (.ok (.ret (.int (p.1+(G6 p.2:Int)) t))) s'):iw Γ.M A (.call (.ref g) ⟨[u], []⟩) R s:=by
 refine anB (aN4 hp) λhd ht hm1 hr=> ?_;obtain⟨a0,a1,a2,b0,b1,b2,b3,p1,p2,p3,p4,kt,pos,q0,q1,q2,q3,q4⟩:=L.bd;refine aN3 (l:=l) L.dn L.tab.qR a S hu λenv bK O sW fU yD du=> ?_;obtain⟨m,hn,hl⟩:=yD.ns;refine oG (hl ("self":aJ) (.ref i) rfl) λu' hm hu'=> ?_;obtain⟨b,dx,es,nn,ys,kk,_,vW,hA,Bm,pB,hys,hz,_,tG⟩:=VR.acc hu' fU hi;have hb:=cM.mpr ⟨_,bV vW,.head _⟩;refine qG (zJ ?_);refine pZ (eX (ab5 O L.aMm L.aMn fU ?_) (J0 (by decide)));refine pH (P:=λU=>True) rfl (λh U=>⟨.machine,.inr (.inl rfl),nA rfl⟩) (nu ?_);refine jk (Jx (Fy:=λx1 x2 y=>∃t,y= .int ((x1.length+x2.length:Nat):Int) t) KA L.tab L.Rn O L.JB sW a.hand a.deep fU hn hm hA hb hys ht (λC' code A' E' x1 x2 t1 t2 lL m₂ hA' azc ajs hN hf hp'=> ?_) λga kJ fp wr gg St G=> ?_)
 ·have hle:=aq (Jz azc) (I5 hr)
  refine wpAny_BinOp (ao6 (env:=genEnv sc [] C' code dJ env) L.Rn.kind L.scl O.glob rfl L.a84 ajs L.Rn.f hN hf (by decide) (aq (bh _ _) hle) (λtk k'=> ?_) a0 a1 a2);refine ao6 (env:=genEnv sc [] C' code dJ env) (s:={lL with toks:=k'}) L.Rn.kind L.scl O.glob rfl L.a84 ajs L.Rn.p hN hp' (by decide) (aq (cL _ _) hle) (λtk2 k2=> ?_) b0 b1 b2;exact wpAny_add_int ⟨⟨_,by rw[lA]⟩,lL.heap,_,rfl,λU U e=>e⟩
 ·refine tL (λAi rQ=> ?_) (aS5 (FS:=n6 l) (lk:=lk) L.tab fU G.kp G.code G.bare G.os G.drawn)
  have mem:∀{z:aV},∀J:z∈ [b,dx],z≠P:=λhz e=>fU.mz _ (cM.mpr ⟨_,bV vW,hz⟩) (e▸L.tab.tab);have a85:=G.kp _ _ (mem (.tail _ (.head _))) Bm;obtain⟨w,hw,hvw⟩:=(pB.look ("_initial_size":aJ)).1 _ hd;obtain⟨tn⟩:=hvw;refine jk ?_;show aP _ _ (do
   let ov←lZ (.Name ("self":aJ) q1) ("_initial_size":aJ) env (eval (.Name ("self":aJ) q1) env)
   nJ q2.atName
   let r←pR [ov] (En ov ("_initial_size":aJ) au)
   letTemporaryGo (.Name ("self":aJ) q1) ov r
   pure r) _ _ _
  rw[az6 rfl];refine aj (eX (gB O.kind (O.loc _ L.JB) (hn.at' λo e=>G.kp _ o (λz=>yD.xJ (z▸L.tab.tab)) e) hm (aj (dM (aj (bJ ?_))))) (J0 (by decide)));refine a7u KA C Ai.qJ (⟨(G.kp _ _ (mem (.head _)) hA),rfl,rfl,a85⟩:InstAt kJ.heap b _ Γ.G.gh (aa (iD es nn))) tG (by decide) hw rfl ?_;refine aj (wN (aA (mY ⟨trivial, ?_⟩)));refine Xc (G.W.in4_1.self 0 {kJ with toks:=kJ.toks+1} _ _ (G.W.frame 0 kJ kJ.heap (kJ.toks+1) G.st (eY _) λU U U e=>e) ⟨ga,fp,wr,_,_,_,_,as3 p.2,rfl,G.W.in4_1,(G.W.frame 0 kJ kJ.heap (kJ.toks+1) G.st (eY _) λU U U e=>e),G.low,(by rintro j v ⟨p,e,t,ev⟩;exact⟨t,by refine aO ev ?_;delta as3;exact aO e rfl⟩),λs' t' Rg=> ?_⟩);refine aO (Oz p.2 p.1) ?_;obtain⟨azd,aze⟩:=G.fin L.tab fU Rg;exact h s' t' azd ((du _).trans aze)
end
def aJ5 (p:aJ×aJ):aJ:=p.1.append p.2
def OD:∀(r:List aJ)(acc:Array Nat),r.foldl (λacc p=>acc++(#[]:Array Nat)++p.cps) acc=acc++(r.foldr (λy z=>y.append z) yI).cps:=by
 intro zz
 induction zz with
 | nil=>
  intro acc;exact(jg ..).symm
 | cons y r ih=>
  intro acc;rw[aoj,ih,aoz,jg,QH];rfl
def a86 (ys:List aJ):qj ⟨#[]⟩ ys=ys.foldr (λy z=>y.append z) yI:=by
 cases ys with
 | nil=>rfl
 | cons y r=>
  show Str.mk ((r.drop 0).foldl (λacc p=>acc++(#[]:Array Nat)++p.cps) y.cps)=_;rw[qU,OD];rfl
def Yk:∀{ps:List (aJ×aJ)},(ps.map aJ5).foldr (λy z=>y.append z) yI=G3 ps∧((ps.map aJ5).map (·.length)).sum=(G3 ps).length∧G6 ps=(G3 ps).length:=by
 intro zz
 induction zz with
 | nil=>
  exact⟨rfl,rfl,rfl⟩
 | cons p ps ih=>
  refine HY ih λi1 i2 i3=> ?_;have hl:(G3 (p::ps)).length=(p.1.length+p.2.length)+(G3 ps).length:=by show((p.1.append p.2).append (G3 ps)).length=_;rw[aJ.qy,aJ.qy]
  refine⟨?_, ?_, ?_⟩
  ·refine aO cF (aO aoz (aO i1 ?_));rfl
  ·simp only[cF,cF,nH,i2,hl]
   show(p.1.append p.2).length+_=_;rw[aJ.qy]
  ·simp only[aq9,i3,hl]
def aS6:("":aJ)=⟨#[]⟩:=by decide
def OJ (x1 x2:aJ)(h:x1.length+x2.length≤16777216):(([x1,x2]:List aJ).map (·.length)).sum+([x1,x2]:List aJ).length*("":aJ).length≤16777216:=by refine aO aS6 ?_;assumption
section
variable {l:List fP}{lk:List Nat}{A:bO}{ρ:fj}{H:Hp}{s:aW}{u:aD}{i:Nat}{g c P cl:aV}{body:List pK}{kd:Kd}{sc:jK}{R:PQ Ba}{d:j7}{xs:List V}{k:Int}{ps:List (aJ×aJ)}
def ajt (KA:N7 Γ)(L:Gk Γ g c P body kd sc)(a:Rm A)(S:SR Γ ρ H s)(hi:H[i]?=aa (.acc cl d xs))(hp:pairs xs=aa ps)(hr:room (G3 ps).length=au)(hu:VR Γ ρ s.heap (.ref i) u)
  (h:∀s' t,∀J:SR Γ ρ H s',∀J:Ext Γ (n6 l) (Wr Γ lk ρ) ρ s ρ s',R (.ok (.ret (.str (G3 ps) t))) s'):iw Γ.M A (.call (.ref g) ⟨[u], []⟩) R s:=by
 refine HY (Yk (ps:=ps)) λz1 z2 z3=> ?_;obtain⟨te,ge⟩:=L.aMp;obtain⟨a0,a1,a2,a3,a4,a5,b0,p1,p2,p3,p4,kt,pos,q0,q1,q3,q4,ha1,hq1⟩:=L.bd;refine aN3 (l:=l) L.dn L.tab.qR a S hu λenv bK O sW fU yD du=> ?_;obtain⟨m,hn,hl⟩:=yD.ns;refine oG (hl ("self":aJ) (.ref i) rfl) λu' hm hu'=> ?_;obtain⟨b,dx,es,nn,ys,kk,_,vW,hA,Bm,pB,hys,hz,_,tG⟩:=VR.acc hu' fU hi;refine qG (zJ ?_);refine aq3 rfl hq1 rfl rfl (uU rfl) (eX (ab5 O L.aMo ge fU λpl=> ?_) (J0 (by decide)));refine(by with_reducible exact aE4 tY tZ ·) ?_;refine pH (P:=λU=>True) rfl (λh U=>⟨.machine,.inr (.inl rfl),nA rfl⟩) (nu ?_);refine jk (Jx (Fy:=λx1 x2 y=>∃t,y= .str (x1.append x2) t) KA L.tab L.Rn O L.JB sW a.hand a.deep fU hn hm hA (cM.mpr ⟨_,bV vW,.head _⟩) hys hp (λC' code A' E' x1 x2 t1 t2 lL m₂ hA' azc ajs hN hf hp'=> ?_) λga kJ fp wr gg St G=> ?_)
 ·have hle:=aq (Jz azc) (z3▸(I5 hr))
  refine aq3 rfl ha1 rfl rfl (uU rfl) (eX (Jy L.Rn.kind L.sce O.glob rfl ge ajs λpl=> ?_) (J0 (by decide)));refine(by with_reducible exact aE4 tY tZ ·) ?_;refine pH (P:=λU=>True) rfl (λh U=>⟨.machine,.inr (.inl rfl),nA rfl⟩) (nu ?_);show aP _ _ (spliced ((aC,eval (.Tuple [.Name ("fws":aJ) a2,.Name ("part":aJ) a3] b0 a4) (genEnv sc [] C' code dJ env)):: [])) _ _ _;refine jk (wpAny_Tuple ?_);refine jk (eX (gB L.Rn.kind L.Rn.f hN hf ?_) (J0 (by decide)));refine jk (eX (gB L.Rn.kind L.Rn.p hN hp' ?_) (J0 (by decide)));refine mY ⟨by refine aO gV ?_;exact Lj rfl,mY ⟨trivial, ?_⟩⟩;refine join_tuple ⟨_,bx _ rfl,rfl,_,rfl⟩ (.cons _ _ (.cons _ _ .nil)) (OJ x1 x2 hle) λt' k'=> ?_;exact⟨⟨t',by congr 1⟩,lL.heap.push _,k',rfl,λU U e=>aZ _ e⟩
 ·refine mY ⟨trivial, ?_⟩
  refine aO aS6 ?_;refine SC.joinGen G.W.in4_2 G.ty G.st G.low G.gaf (by rintro j v ⟨p,e,t,ev⟩;exact⟨_,t,ev⟩) (λs' lt Rg a87=> ?_) (by refine aO gV (aO (pairs_len hp) ?_);exact hz);have hlt:lt.map (·.1)=ps.map aJ5:=by
   apply adx;intro j;refine aO (gF) (aO (gF) ?_);by_cases hj:j<lt.length
   ·obtain⟨p,e,t,ev⟩:=a87.2 j (.str lt[j].1 lt[j].2) (by simp [RW,bU hj])
    injection ev with e1 _
    refine aO (bU hj) (aO e ?_);exact congrArg aa e1
   ·refine aO (uB (cV hj)) (aO (uB (wj (show lt.length=ps.length from by simpa [RW] using a87.1) (cV hj))) ?_);rfl
  refine aO hlt ?_;refine⟨joinOk_of (by refine aO z2 ?_;simpa [wL] using (I5 hr)),λt' k'=> ?_⟩;rw[a86,z1];refine tL (λazd aze=> ?_) (G.fin (FS:=n6 l) (lk:=lk) L.tab fU Rg);exact h {s' with toks:=k'} t' (azd.same) ((du _).trans (aze.trans (Ext.same)))
end
end
section
variable {Γ:Cx}
def aZ2:HN (.type "re.Match") "__bool__"=pure aB:=by rw[lR,iI];kernel_rfl
def Pa:HN (.type "re.Match") "__len__"=pure aB:=by rw[lR,iI];kernel_rfl
def agu (ho:s.heap.get? a=aa o)(hc:o.cls= .type "re.Match")(h:∀tk,Q au {s with toks:=tk}):aP Γ.M A (vo (.ref a)) Q E s:=aj (aj (lN ⟨o,ho,hc⟩ aZ2 (aA (aj (lN ⟨o,ho,hc⟩ Pa (aA (h s.toks)))))))
def truthy_own (X:Γ.K.In s.heap)(I:IK s.heap x c)(hb:gn Γ.K (.ref c) "__bool__"=aa aB)(hl:gn Γ.K (.ref c) "__len__"=aa (aa (.ref g)))
  (h:aP Γ.M A (runValue (.builtin "len" ⟨[.ref x], []⟩)) (λv s'=>∃i t,v= .int i t∧Q (i !=0) s') E s):aP Γ.M A (vo (.ref x)) Q E s:=by
 refine aj (aj (aj (I.type.here ((fD X hb).here (aA ?_)))));refine aj (aj (I.type.here ((fD X hl).here ?_)));refine pM (bk (by simp)) ?_;refine aj (bH h (λv s' z=> ?_) λU U z=>z);obtain⟨i,t,rfl,z⟩:=z;exact aA z
structure aB1 (Γ:Cx):Prop where
 bool:gn Γ.K (.ref Γ.G.gh) "__bool__"=aa aB
 len:∃g c P body kd sc,gn Γ.K (.ref Γ.G.gh) "__len__"=aa (aa (.ref g))∧sI Γ.K (.ref g)=aa (.type "function")∧aG7 Γ g c P body kd sc
 str:∃g c P body kd sc,gn Γ.K (.ref Γ.G.gh) "__str__"=aa (aa (.ref g))∧sI Γ.K (.ref g)=aa (.type "function")∧Gk Γ g c P body kd sc
section
variable {l:List fP}{lk:List Nat}{A A':bO}{H:Hp}{i:Nat}{c:aV}{d:j7}{xs:List V}{k:Int}{ρ:fj}{s:aW}{u:aD}{E:PQ aD}{Q:PQ aD}
def JC (KA:N7 Γ)(C:Fv Γ)(L:aG7 Γ g cc P body kd sc)(a:Rm A)(hk:ag2 d xs=aa k)(S:SR Γ ρ H s)(hi:H[i]?=aa (.acc c d xs))(hu:VR Γ ρ s.heap (.ref i) u)
  (h:∀s' t,∀J:SR Γ ρ H s',∀J:Ext Γ (n6 l) (Wr Γ lk ρ) ρ s ρ s',Q (.int k t) s'):iw Γ.M A (.call (.ref g) ⟨[u], []⟩) (FZ Q E) s:=by
 refine j5 hk λp hp hk=> ?_;refine I3 hk λh0 hk=> ?_;obtain rfl:=ak hk;refine anB (aN4 hp) λ_ _ h1 h2=> ?_;have h3:=gH (m8 h1);have h4:=I5 h2;exact ajr KA C L a S hi hp hu λs' t S' x'=>⟨_,t,rfl,gH h0,by omega,λt' tk=>h {s' with toks:=tk} t' (S'.same) (x'.trans (Ext.same))⟩
def azf (KA:N7 Γ)(C:Fv Γ)(D:aB1 Γ):ax6 Γ where
 len:=λl lk A H i c d xs k ρ s u a hk S hu=> .ok λQ E P=>by refine uG λY Z=> ?_;obtain⟨g,cc,P',body,kd,sc,h1,h2,L⟩:=D.len;obtain⟨b,dx,es,nn,ys,kk,hi,vW,hA,Bm,pB,hys,hz,rfl,tG⟩:=hu;exact Z (aqu S.qJ (od:=aa (iD es nn)) ⟨hA,rfl,rfl,Bm⟩ h1 h2 (JC KA C L (a.rm rfl (bh _ _)) hk S hi ⟨b, [dx],vW⟩ λs' t S' x'=>P ρ s' _ x' S' ⟨t⟩))
 str:=λl lk A H i c d xs ps ρ s u a hp hr S hu=> .ok λQ E P=>by refine uG λY Z=> ?_;obtain⟨g,cc,P',body,kd,sc,h1,h2,L⟩:=D.str;obtain⟨b,dx,es,nn,ys,kk,hi,vW,hA,Bm,pB,hys,hz,rfl,tG⟩:=hu;exact Z (aqv S.qJ (by have:=a.units;lia) (od:=aa (iD es nn)) ⟨hA,rfl,rfl,Bm⟩ h1 h2 (ajt KA L (a.rm rfl (bh _ _)) S hi hp hr ⟨b, [dx],vW⟩ λs' t S' x'=>⟨⟨_,_,rfl⟩,λtk=>P ρ {s' with toks:=tk} _ (x'.trans (Ext.same)) (S'.same) ⟨t⟩⟩))
def a88 (KA:N7 Γ)(C:Fv Γ)(D:aB1 Γ):aq2 Γ where
 a7q:=λl lk A H i c d xs k ρ s u a hk S hu=> .ok λQ E P=>by refine uG λY Z=> ?_;obtain⟨g,cc,P',body,kd,sc,h1,h2,L⟩:=D.len;obtain⟨b,dx,es,nn,ys,kk,hi,vW,hA,Bm,pB,hys,hz,rfl,tG⟩:=hu;exact Z (truthy_own S.qJ ⟨_,hA,rfl⟩ D.bool h1 (wpAny_runValue (Dy entry_len (aO (Er plain_len _) (bH (Jo (Q:=λv s'=>∃i t,v= .int i t∧Q (i !=0) s') S.qJ (od:=aa (iD es nn)) ⟨hA,rfl,rfl,Bm⟩ h1 h2 (JC KA C L (a.rm rfl (bh _ _)) hk S hi ⟨b, [dx],vW⟩ λs' t S' x'=>⟨k,t,rfl,P ρ s' _ x' S' rfl⟩)) (λfin s' z=>by obtain⟨v,rfl,z⟩:=z;exact z) λU U z=>z)))))
 agu:=λA s a o Q E ho hc h=>agu ho hc h
end
end
section
variable {Γ:Cx}{n m:Nat}{k:Kd}
structure Pb (Γ:Cx):Prop where
 opq:ado Γ.K aoh "thirdparty.any"=aa aB
 cls:∃cd,Hv Γ.K Γ.G.gh=aa cd∧cd.qualname=("_Accumulator":aJ)∧cd.mro= [.ref Γ.G.gh,.type "list",.type "object"]
 typ:∃o,Γ.K.lookup Γ.G.gh=aa o∧o.cls= .type "type"
 at_:∀a f,∀J:Γ.G.fn a=aa f,∀o fd,∀J:Γ.g0.get? a=aa o,∀J:o.data= .func fd,∀J:kdOf fd.scope ("__class__":aJ)=aa .free,∃ar cc oc vs tf cl ocl,(fd.params.posonlyargs++fd.params.args).head?=aa ar∧ar.arg=("self":aJ)∧fd.code= .ref cc∧Γ.g0.get? cc=aa oc∧oc.data= .fields vs∧vs[2]?=aa (.str Γ.prog.main.file tf)∧fd.closure= [(("__class__":aJ),cl)]∧Γ.g0.get? cl=aa ocl∧ocl.data= .cell (aa (.ref Γ.G.gh))
 top:(Γ.prog.main.scope.names.lookup ("super":aJ)).isSome=aC
theorem q7.put {α β:Type}{R:fj->bM->α->β->Prop}{l:List fP}{lk:List Nat}{ρ:fj}{H:Hp}{s:aW}{i:Nat}{o:m6}{a:α}{W:∀J:(PQ β),∀J:(PQ aD),Prop}(h:∀J:i∉lk,∀Q E,∀J:Q7 Γ l lk ρ s (.ok a) (H.set i o) R Q E,W Q E):q7 Γ l lk ρ s (put lk H i o a) W R:= .fu λhn=> .ok (h (by simpa using hn))
def aju {α:Type}{xs:List α}{v:α}(h:xs.getLast?=aa v):∃n,xs.length=n+1∧xs[n]?=aa v:=by
 rw[List.getLast?_eq_getElem?]at h;cases xs with
 | nil=>exact iz h
 | cons a r=>exact⟨r.length,rfl,h⟩
def aP4 (C:aV):(([.ref C,.type "list",.type "object"]:List aD).dropWhile (· != .ref C)).drop 1= [.type "list",.type "object"]:=by simp [List.dropWhile]
def Yl (K:aog)(r:List aD)(h:fastBuiltinOwn "list" x=aa v):alongIn K x (.type "list"::r)=aa (aa v):=by simp only[alongIn,ownIn,h]
def Pg (h:an7.contains x=au):x="__init__" ∨x="__len__" ∨x="pop":=by simpa [an7] using h
def aZ3 {id bt:String}(hb:h.get? b=aa {cls:= .type bt,data:= .fields #[.builtin id,.ref x]})(hbt:bt="method-wrapper" ∨bt="builtin_function_or_method"):Y5 Γ h (.ref b):=by refine⟨.machine,.inr (.inl rfl), ?_⟩;refine(uP hb).andThen ?_;dsimp only;exact aO (bN (by rcases hbt with rfl | rfl<;>decide)) (aO (bN (by rcases hbt with rfl | rfl<;>decide)) .now)
def av2 (hl:(ap.endLine==p.line)=au)
  (h:_root_.PySem.wpAt Γ.M A c (lZ o name env (eval o env)) (λov aU=>∀pl,aP Γ.M A (rZ ov name pl) (λfx bK=>aP Γ.M A (zK p fx.1 fx.2 [] []) Q E bK) E aU) E s):
  _root_.PySem.wpAt Γ.M A c (eval (.Call (.Attribute o name ap) [] [] p) env) Q E s:=by
 have e:eval (.Call (.Attribute o name ap) [] [] p) env=(do
   let ov←lZ o name env (eval o env)
   nJ ap.atName
   vz o name ap p env ov 0 [] []):=rfl
 refine aO e ?_;refine _root_.PySem.wpAt_bind (ks_wpAt_mono h (λov aU jQ=>qw (aj (dM ?_))) λU U z=>z);delta vz;refine aO (Jl rfl rfl (by decide)) ?_;refine aj (bJ ?_);refine pM (bN rfl) ?_;refine bH (jQ _) (λfx bK rP=> ?_) λU U z=>z;obtain⟨f,first⟩:=fx;exact aj (pM (bN ((lr _ _).mpr (.inr hl))) (aA rP))
section
variable {a:aV}{f:Fn}{o:ou}{fd:jA}{body:List pK}{dU:List (aJ×aD)}{env:fP}{l:List fP}{A:bO}{lk:List Nat}{ρ:fj}{H:Hp}{s:aW}{loc cX:j7}{Q:PQ aD}{E:PQ aD}{x:aJ}
structure a89 (fd:jA)(x:aJ):Prop where
 mem:an7.contains x=au
 sup:kdOf fd.scope ("super":aJ)=aa .globalImplicit
 cls:kdOf fd.scope ("__class__":aJ)=aa .free
 self:kdOf fd.scope ("self":aJ)=aa .local
def aE5 (KA:N7 Γ)(KS:Pb Γ){id bt:String}(S:SR Γ ρ H s)(hA:s.heap.get? b=aa {cls:= .ref Γ.G.gh,dict:=aa dx,data:= .seq ys kk})(kp:∀b o,∀J:s.heap.get? b=aa o,h'.get? b=aa o)(DW:h'.get? sp=aa {cls:= .type "super",data:= .fields #[.ref Γ.G.gh,.ref b,.ref Γ.G.gh]})
  (hat:(x==("__class__":aJ))=aC) (hB:Sp.Binds Γ b Γ.G.gh id bt) (hbt:bt="method-wrapper" ∨bt="builtin_function_or_method") (hfb:fastBuiltinOwn "list" x=aa (.builtin id)) (hpl:plainId id=au) (hen:zE table id=aa B)
  (aMv:∀bK:aW,∀J:Γ.K.In bK.heap,∀J:bK.heap.get? b=aa {cls:= .ref Γ.G.gh,dict:=aa dx,data:= .seq ys kk},aP Γ.M A.in1 (nF id ⟨[.ref b], []⟩) (λU s'=>s'=bK) (λU U=>False) bK)
  (aMw:∀bK:aW,∀J:(∀b o,∀J:s.heap.get? b=aa o,bK.heap.get? b=aa o),∀J:Ext Γ (n6 l) (Wr Γ lk ρ) ρ s ρ bK,∀J:SR Γ ρ H bK,∀J:bK.heap.get? b=aa {cls:= .ref Γ.G.gh,dict:=aa dx,data:= .seq ys kk},aP Γ.M A.in1 (B ⟨[.ref b], []⟩) (λfin s'=>∃v,fin= .done (.ret v)∧Q v s') E bK):
  aP Γ.M A (rZ (.ref sp) x pl) (λfx bK=>aP Γ.M A (zK p fx.1 fx.2 [] []) Q E bK) E {s with heap:=h'}:=by
 refine Su KS.cls λcd Gm hq Ym=> ?_;refine oG KS.typ λoC hoC htC=> ?_;have cg:SR Γ ρ H {s with heap:=h'}:=S.keeps kp;have vg:b≠Γ.G.gh:=λe=>by have:=S.qJ _ _ hoC;rw[←e,hA]at this;cases this;cases htC
 refine NB hB ((show IK h' b Γ.G.gh from⟨_,(kp _ _ hA),rfl⟩).type.andThen (qP cg.qJ KA.mro)) DW KS.opq ((wR cg.qJ Gm).andThen .now) cg.qJ (by simp only[Ym,aP4];exact Yl _ _ hfb) vg hat ?_;have um:∀y oy,∀J:s.heap.get? y=aa oy,(h'.push {cls:= .type bt,data:= .fields #[.builtin id,.ref b]}).get? y=aa oy:=λy oy e=>aZ _ (kp y oy e);have ark:(h'.push {cls:= .type bt,data:= .fields #[.builtin id,.ref b]}).get? h'.objs.size=aa {cls:= .type bt,data:= .fields #[.builtin id,.ref b]}:=Heap.get?_push_at rfl rfl;have fU:SR Γ ρ H {s with heap:=h'.push {cls:= .type bt,data:= .fields #[.builtin id,.ref b]},toks:=s.toks+1}:=S.keeps um;exact pH (P:=λh=>Y5 Γ h (.ref h'.objs.size)) rfl (λh z=>z) (evalArgs_nil3 ⟨aZ3 ark hbt,aY7 ark hbt hpl hen (aMv _ fU.qJ (um _ _ hA)) (aMw _ um (Ext.keeps um) fU (um _ _ hA))⟩)
set_option tactic.hygienic true in
def aE6 (KS:Pb Γ)(KG:Z6 Γ)(FA:FnAt Γ a f o fd body dU)(hf:Γ.G.fn a=aa f)(N:a89 fd x)(hat:(x==("__class__":aJ))=aC)(O:v8 Γ (kdOf fd.scope) env)(W:Own (kdOf fd.scope) env l)(T:AtF a fd env)(S:SR Γ ρ H s)(F:FR Γ l ρ s.heap env loc cX)
  (hl:∃v,loc.lookup ("self":aJ)=aa v∧∀u,∀J:VR Γ ρ s.heap v u,u= .ref b) (hA:s.heap.get? b=aa {cls:= .ref Γ.G.gh,dict:=aa dx,data:= .seq ys kk})
  (hQ:∀h',∀J:(∀b o,∀J:s.heap.get? b=aa o,h'.get? b=aa o),∀J:h'.get? s.heap.objs.size=aa {cls:= .type "super",data:= .fields #[.ref Γ.G.gh,.ref b,.ref Γ.G.gh]},Q (.ref s.heap.objs.size) {s with heap:=h'}):
  _root_.PySem.wpAt Γ.M A (.func body env) (lZ (.Call (.Name ("super":aJ) p0) [] [] p1) x env (eval (.Call (.Name ("super":aJ) p0) [] [] p1) env)) Q E s:=by
 refine uG λY Z=> ?_;obtain⟨ar,cc,oc,vs,tf,cl,ocl,hp,har,hco,hcc,hoc,iB,aNa,wJ,Rh⟩:=KS.at_ a f hf o fd FA.obj FA.data N.cls;refine Z ?_;refine Su KS.cls λcd Gm hq Ym=> ?_;obtain⟨m,hn,ju⟩:=F.ns;refine oG hl λv hv hvu=> ?_;refine oG (ju _ _ hv) λu hu hr=> ?_;obtain rfl:=hvu u hr;obtain⟨oD,hD1,hD2⟩:∃oD,s.heap.get? Γ.G.gh=aa oD∧oD.data= .cls cd:=by obtain⟨oc,od,sl,z⟩:=aM8 Gm;exact⟨_,S.qJ _ _ z,rfl⟩
 refine ks_wpAt_super_base (O.jq _ N.sup) ((W.kd _).trans N.cls) hat T.func (S.base _ _ FA.obj) FA.data hp (T.code.trans hco) (S.base _ _ hcc) hoc iB (by simp) KS.top ?_;refine ab5 O N.sup KG.sup S ⟨rfl, ?_⟩;refine auq O.kind ((W.kd _).trans N.cls) (T.cls _ aNa) ⟨ocl,S.base _ _ wJ,Rh⟩ ?_ (J0 (by decide));refine aO har ?_;refine gB O.kind (O.loc _ N.self) hn hu (xR hD1 hD2 ⟨rfl, ?_⟩);exact ks_wpAny_call_super hD1 hD2 hA rfl (by simp) (qP S.qJ (by simp [RD,Gm,Ym])) λh' DW kp=>hQ h' kp DW
def Yn:Lx lk H i c d xs "__len__"=ok (.int xs.length) H:=(bk (by decide)).trans (bN rfl)
def Yo:Lx lk H i c d xs "pop"=opt xs.getLast? λx=>put lk H i (.acc c d xs.dropLast) x:=(bk (by decide)).trans ((bk (by decide)).trans (bN rfl))
def aS7 (KA:N7 Γ)(KS:Pb Γ)(KG:Z6 Γ)(FA:FnAt Γ a f o fd body dU)(hf:Γ.G.fn a=aa f)(N:a89 fd x)(O:v8 Γ (kdOf fd.scope) env)(W:Own (kdOf fd.scope) env l)(T:AtF a fd env)(S:SR Γ ρ H s)(F:FR Γ l ρ s.heap env loc cX)(p0 p1 ap p:sZ)(hap:(ap.endLine==p.line)=au):
  q7 Γ l lk ρ s (dD Γ.G n ⟨loc,cX,lk⟩ (.sup x) H) (λQ E=>_root_.PySem.wpAt Γ.M A (.func body env) (eval (.Call (.Attribute (.Call (.Name ("super":aJ) p0) [] [] p1) x ap) [] [] p) env) Q E s) (u6 Γ):=by
 cases n with
 | zero=>exact .none
 | succ n=>
  refine .opt λv hv=> .opt λq hq=> ?_;obtain⟨_,hn,ju⟩:=F.ns;refine oG (ju _ _ hv) λu _ hu=> ?_;obtain⟨b,dx,es,nn,ys,kk,hi,vW,hA,hd,pB,hs,hz,hc,tG⟩:=hu.sS S hq;have Mi:=hs.size;have self:∃v,loc.lookup ("self":aJ)=aa v∧∀u,∀J:VR Γ ρ s.heap v u,u= .ref b:=⟨v,hv,λu hu=>by
   obtain⟨_,_,_,_,_,_,_,h1,_⟩:=hu.sS S hq;exact aO (an0 vW h1) rfl⟩
  rw[hc]at hi⊢;refine Su KS.cls λcd Gm hqn Ym=> ?_;refine oG KS.typ λoC hoC htC=> ?_;rcases Pg N.mem with rfl | rfl | rfl
  ·refine .put λju Q E P=>av2 hap (aE6 KS KG FA hf N (by decide) O W T S F self hA λh' kp DW pl=> ?_)
   exact aE5 KA KS S hA kp DW (by decide) Sp.Gf (.inl rfl) rfl (by decide+kernel) PySem.F.entry_list_init (λbK U U=>NK rfl) λbK um du fU uX=>WW uX rfl (by refine aO Mi (aO gV ?_);exact hz) ⟨_,rfl,au2 (Q:=λU=>Q .none) fU hi vW uX (um _ _ hd) (pB.mono (I2.refl ρ s.heap) λb o e U=>um b o e) tG ju (λU=> #[]) (show gD Γ ρ bK.heap [] [] from rfl) (bR _) bK.toks λx S'=>P ρ _ .none (du.trans x) S' rfl⟩
  ·refine aO Yn ?_
   exact .ok λQ E P=>av2 hap (aE6 KS KG FA hf N (by decide) O W T S F self hA λh' kp DW pl=>(aE5 KA KS S hA kp DW (by decide) Sp.Ny (.inl rfl) rfl (by decide+kernel) PySem.F.entry_list_len (λbK U U=>WQ rfl) λbK U du fU uX=>ait uX rfl λtk=>⟨_,rfl,P ρ {bK with toks:=bK.toks+1} _ (du.trans (Ext.same)) (fU.same) (aO Mi ⟨tk⟩)⟩))
  ·refine aO Yo ?_
   refine .opt λv hgl=> .put λju Q E P=> ?_;refine oG (aju hgl) λn' zc aNc=> ?_;obtain⟨w,hw⟩:∃w,ys[n']?=aa w:=⟨_,fG (show n'<ys.size by refine aO Mi (aO zc ?_);exact eE _)⟩;refine av2 hap (aE6 KS KG FA hf N (by decide) O W T S F self hA λh' kp DW pl=> ?_);refine aE5 (l:=l) (lk:=lk) KA KS S hA kp DW (by decide) Sp.Nz (.inr rfl) rfl (by decide+kernel) Bf (λbK azh uX=> ?_) λbK um du fU uX=>aiu uX rfl (Mi.trans zc) hw (by refine aO Mi (aO gV ?_);exact hz) ⟨_,rfl, ?_⟩
   ·have aNd:IK bK.heap b Γ.G.gh:=⟨_,uX,rfl⟩
    exact WT (aNd.type.andThen (qP azh (by simp [RD,Gm,Ym]))) uX rfl (by simp) (wR azh Gm) hqn (htC▸(uP (azh _ _ hoC)).andThen .now) rfl
   ·refine au2 (Q:=λU=>Q w) fU hi vW uX (um _ _ hd) (pB.mono (I2.refl ρ s.heap) λb o e U=>um b o e) tG ju (λus=>us.eraseIdxIfInBounds n') ?_ (by refine aO List.length_dropLast ?_;exact aq (aeb _ _) hz) bK.toks λx S'=>P ρ _ w (du.trans x) S' ((hs.get aNc (cz.trans hw)).ext (du.trans x))
    simp only[pg,List.eraseIdx_eq_take_drop_succ,Et (by refine aO dR (aO Mi (aO zc ?_));exact aN _),bf,List.dropLast_eq_take,zc];exact(hs.take n').ext du
end
structure aNe (k:Kd)(e:aG)(x:aJ):Prop where
 sup:k ("super":aJ)=aa .globalImplicit
 cls:k ("__class__":aJ)=aa .free
 self:k ("self":aJ)=aa .local
 mem:an7.contains x=au
 is:∃p0 p1 ap p,e= .Call (.Attribute (.Call (.Name ("super":aJ) p0) [] [] p1) x ap) [] [] p∧(ap.endLine==p.line)=au
def aq4 (h:TJ k e=aa x):aNe k e x:=by refine oG (Y9 h) λc h1 h=> ?_;refine oG (Y9 h) λm h2 h=> ?_;refine oG (Y9 h) λg h3 h=> ?_;obtain⟨hb,h⟩:=J9 h;obtain rfl:=ak h;have e:=am3 h1;simp only[av0 h2,(al0 h3).1,cj.mp (d8 (d8 (d8 (d8 (d8 (d8 hb)))))),cj.mp (m8 (d8 (d8 (d8 (d8 (d8 hb)))))),cj.mp (m8 (d8 (d8 (d8 (d8 hb)))))]at e;exact⟨(al0 h3).2,gM (m8 (d8 (d8 hb))),gM (m8 (d8 hb)),(m8 (d8 (d8 (d8 hb)))),⟨_,_,_,_,e,(m8 hb)⟩⟩
def azi (KA:N7 Γ)(KS:Pb Γ)(KG:Z6 Γ):Wi Γ:=λn a f o fd body dU FA hf st ms hs env l A lk σ ρ s O W T ao S F=>by
 cases n with
 | zero=>exact .none
 | succ n=>
  cases st with
  | Expr e pe=>
   obtain⟨x,hx,h⟩:=Y9 hs;obtain rfl:=ak h;refine uG λY Z=> ?_;obtain⟨h1,h2,h3,h4,p0,p1,ap,p,rfl,hap⟩:=aq4 hx;exact Z ((aS7 KA KS KG FA hf ⟨h4,h1,h2,h3⟩ O W T S F p0 p1 ap p hap).Cz F (λQ E w=>ks_wpAt_Expr_any w (by simp [aoq,O.kind]) rfl) λv cU aY aU u cQ cg hv=>(.ok λQ E P=>P.done cg (F.ext cQ) rfl))
  | Return oe pe=>
   obtain⟨e,rfl,h'⟩:=Y9 hs;refine oG (Y9 h') λx hx h=> ?_;obtain rfl:=ak h;refine uG λY Z=> ?_;obtain⟨h1,h2,h3,h4,p0,p1,ap,p,rfl,hap⟩:=aq4 hx;exact Z ((aS7 KA KS KG FA hf ⟨h4,h1,h2,h3⟩ O W T S F p0 p1 ap p hap).Cz F (λQ E w=>ks_wpAt_Return_some w) λv cU aY aU u cQ cg hv=>(.ok λQ E P=>P.done cg (F.ext cQ) ⟨u,hv⟩))
  | _=>exact iz hs
end
section
variable {Γ:Cx}{n m:Nat}{k:Kd}
structure Given (Γ:Cx)(cells:List (aJ×aV))(c P:aV)(q:aJ):Prop where
 acc:N7 Γ
 sup:Pb Γ
 jq:Z6 Γ
 CT:Fv Γ
 defs:aB1 Γ
 fns:az9 Γ
 mo:O9 Γ
 made:Wx Γ
 item:ag8 Γ
 jf:Gi Γ
 re:XX Γ
 lam:ajf Γ cells c P q
structure Lv (Γ:Cx)(n:Nat):Prop where
 e:∀m k,U0 Γ n m k
 b:∀m k,AllB Γ n m k
 t:∀m k j,MF Γ n j (cE m k) k
 s:yx Γ n
 f:CK Γ n
def ki:j0->Nat
 | .Bh _=>2
 | .za _=>2
 | .not _=>1
 | .yR _ _=>1
 | .ite _ _ _=>1
 | _=>0
def kx:aG->Nat
 | .UnaryOp _ _ _=>1
 | .BoolOp _ _ _=>1
 | .IfExp _ _ _ _=>1
 | _=>0
def Yp (h:ki e≤j):ki (gm b e)≤j:=by
 cases b with
 | true=>exact h
 | false=>exact bR j
def aB2 {α:Type}{o:Option α}{f:α->j0}{j:Nat}(h:∀a,ki (f a)≤j):ki (mb o f)≤j:=by
 cases o with
 | some a=>exact h a
 | none=>exact bR j
def Yq {r:aG->j0}:ki (Ci r o x ap args ks p)≤0:=by
 delta Ci;refine Yp ?_;cases opt (Bj args) S5 with
 | some a=>exact Yp (aN 0)
 | none=>exact Yp (aB2 λU=>aN 0)
def Yr (e:aG):ki (cE m k e)≤kx e:=by
 cases m with
 | zero=>exact bR _
 | succ m=>
  cases e with
  | Constant c j p=>cases c<;>exact aN 0
  | Name x p=>
   show ki (Cg k x)≤0;delta Cg;by_cases h:x=("__debug__":aJ)
   ·rw[bN h];exact aN 0
   ·rw[bk h]
    exact Yp (aB2 λd=>by cases d<;>exact aN 0)
  | UnaryOp o a p=>cases o<;>first | exact aN 1 | exact bR 1
  | Tuple l j p=>exact Yp (aN 0)
  | List l p=>exact Yp (aN 0)
  | Compare a os bs p=>exact aB2 λo=>aB2 λb=>Yp (aN 0)
  | Call f args ks p=>
   show ki (Cj (cE m k) f args ks p)≤0;delta Cj;cases ar3 f with
   | some q=>exact Yq
   | none=>exact Yp (aB2 λU=>aN 0)
  | Attribute o x p=>exact Yp (aN 0)
  | Subscript o i p=>
   show ki (Tv (cE m k) o i)≤0;delta Tv;cases jt i<;>exact aN 0
  | ListComp el gs sc p=>exact aB2 λg=>Yp (aN 0)
  | Lambda a b sc p=>exact Yp (aN 0)
  | _=>first | exact aN 1 | exact aN 0
def Ph (h:ki e≤1):VJ e=au:=by
 cases e with
 | Bh l=>exact absurd h (show¬(2:Nat)≤1 by decide)
 | za e=>exact absurd h (show¬(2:Nat)≤1 by decide)
 | _=>rfl
def aN5 (h:ki e≤0):plainT e=au:=by
 cases e with
 | not a=>exact absurd h (show¬(1:Nat)≤0 by decide)
 | yR o l=>exact absurd h (show¬(1:Nat)≤0 by decide)
 | ite t a b=>exact absurd h (show¬(1:Nat)≤0 by decide)
 | _=>rfl
def a9a (e:aG):kx e≤1:=by
 cases e with
 | _=>first | exact aN 1 | exact bR 1
def aE7 (G:Z6 Γ)(ih:U0 Γ n m k)(tg it:aG)(h:Tw (cI (cE m k) k it)=aC∨∃elts j p,tg= .Tuple elts j p):CN Γ n k tg it (cI (cE m k) k it):=by
 unfold cI at h⊢;cases h1:at9 k ("range":aJ) it with
 | some c=>
  rw[h1]at h;dsimp only at h⊢;cases h2:W5 c.2.1 with
  | false=>exact aG3 aa1 rfl
  | true=>
   obtain⟨h3,h4⟩:=al0 h1;exact aO h3 (Wb G ih h4 h2)
 | none=>
  rw[h1]at h;dsimp only at h⊢;cases h5:at9 k ("enumerate":aJ) it with
  | some c=>
   rw[h5]at h;dsimp only at h⊢;cases h2:W5 c.2.1 with
   | false=>exact aG3 aa1 rfl
   | true=>
    rw[h2]at h;cases h6:Bj c.2.1 with
    | none=>exact aG3 aa1 rfl
    | some a=>
     rw[h6]at h;obtain⟨h3,h4⟩:=al0 h5;rw[(O8 h6)]at h3 h2;rcases h with h | ⟨elts,j,p,rfl⟩
     ·exact Ss h
     ·refine aO h3 ?_
      exact Xu G ih h4 h2
  | none=>exact aG3 (ih it) (Ph (aq (Yr it) (a9a it)))
def a9b (h:an6 (gm b e)=au):an6 e=au:=by
 cases b with
 | false=>exact qI h
 | true=>exact h
def aNg {α:Type}{o:Option α}{f:α->j0}(h:an6 (mb o f)=au):∃a,an6 (f a)=au:=by
 cases o with
 | none=>exact qI h
 | some a=>exact⟨a,h⟩
def aN6 {r:aG->j0}(h:an6 (cT r k j t)=au):∃elts i p,t= .Tuple elts i p:=by
 cases j with
 | zero=>exact qI h
 | succ j=>
  cases t with
  | Tuple l i p=>exact⟨l,i,p,rfl⟩
  | Name x p=>
   obtain⟨d,h⟩:=aNg (a9b h);cases d<;>exact qI h
  | Subscript o i p=>
   have h:an6 (match jt i with
    | some s=>gm s.2.2.1.isNone (.vC (r o) (Fj r s.1) (Fj r s.2.1) (.cst .none))
    | none=> .sub (r o) (r i))=au:=h
   cases hs:jt i with
   | none=>replace h:=hs▸h;exact qI h
   | some s=>replace h:=hs▸h;cases a9b h
  | _=>exact qI h
def aE8 (h:isSet it=aC)(env:fP)(x:aD):pY it env x=pure x:=by
 cases it with
 | Set a b c=>exact Ss h
 | _=>rfl
section
variable {cells:List (aJ×aV)}{c P:aV}{q:aJ}
def Given.V (W:Given Γ cells c P q)(L:Lv Γ n):axu Γ n:=
 have A:=azf W.acc W.CT W.defs
 aLa W.fns W.mo (a8g W.mo W.made) {fn:=λl A' lk b v H ρ s u a S hu=>ays A b a S hu,ty:=λl A' lk b v H ρ s u a S hu=>ayt A b a S hu,lam:=λn ih env l A φ i H ρ s u a S F hv=>XQ W.lam W.fns.qR ih env l A φ i H ρ s u a S F hv} L.f L.e
def Given.pr (W:Given Γ cells c P q):aq2 Γ:=a88 W.acc W.CT W.defs
def Pj (W:Given Γ cells c P q)(L:Lv Γ n):v9 Γ (n+1) k (.Call (.Attribute o x ap) args ks p) (Ci (cE m k) o x ap args ks p):=by
 delta Ci;refine Un λhb=> ?_;refine tL (λhb h3=> ?_) (j8 hb);have h1:=m8 (d8 hb);have h2:=m8 hb;cases hs:opt (Bj args) S5 with
 | some a=>
  refine Un λhe=> ?_;refine j5 hs λb e1 e2=> ?_;obtain⟨sp,rfl⟩:=aY8 e2;exact aO (O8 e1) (aO (cj.mp he) (XM W.acc W.CT W.mo W.jf L.f (L.e m k o) (L.e m k a) h1))
 | none=>
  exact Un λhn=>ar6 λq hq=>Wm (aKz W.fns W.mo (bm W.acc W.re) L.f) (L.e m k) (L.e m k o) h1 h2 (gH h3) hn hq
def Pk (W:Given Γ cells c P q)(L:Lv Γ n):v9 Γ (n+1) k (.Call f args ks p) (Cj (cE m k) f args ks p):=by
 delta Cj;cases hf:ar3 f with
 | some q=>refine aO (av0 hf) ?_;exact Pj W L
 | none=>
  refine Un λhn=>ar6 λq hq=>VV (W.V L) (L.e m k) (L.e m k f) hn hq λenv=> ?_;cases f with
  | Attribute o x ap=>exact nxS hf
  | _=>rfl
def Ys (W:Given Γ cells c P q)(L:Lv Γ n):v9 Γ (n+1) k (.Subscript o i p) (Tv (cE m k) o i):=by
 delta Tv;cases hs:jt i with
 | none=>exact ahu W.acc (L.e m k o) (L.e m k i) hs
 | some s=>refine aO (aW9 hs) ?_;exact ahv W.acc (L.e m k) (L.e m k o)
def Pr (W:Given Γ cells c P q)(L:Lv Γ n){gs:List Comprehension}:v9 Γ (n+1) k (.ListComp e gs sc p) (cE (m+1) k (.ListComp e gs sc p)):=by
 refine ar6 λg hg=>Un λhb=> ?_;obtain⟨hb,hi⟩:=j8 hb;obtain⟨hb,h3⟩:=j8 hb;obtain⟨h1,h2⟩:=j8 hb;refine aO (O8 hg) ?_;obtain⟨t,it,ifs,ia⟩:=g;obtain rfl:ia=0:=gM h1;refine Xm h2 (aE7 W.jq (L.e m k) t it ?_) (L.t m (kdOf sc) m t) (L.b m _) (L.e m _) (aE8 (N8 h3));rcases fY.mp hi with hi | hi
 ·exact .inl (N8 hi)
 ·exact .inr (aN6 hi)
def azj (W:Given Γ cells c P q)(L:Lv Γ n)(m:Nat)(k:Kd):U0 Γ (n+1) m k:=λe=>by
 cases m with
 | zero=>exact aa1
 | succ m=>
  cases e with
  | Constant c j p=>exact snd_const
  | Name x p=>exact Uo W.jq
  | BoolOp o vs p=>exact ahl W.pr (L.e m k)
  | BinOp a o b p=>exact ahh (L.e m k a) (L.e m k b)
  | UnaryOp o a p=>
   cases o with
   | Not=>exact ahk W.pr (L.e m k a)
   | USub=>exact ahj (L.e m k a)
   | _=>exact aa1
  | IfExp t a b p=>exact ahg (L.b m k t) (L.e m k a) (L.e m k b)
  | Tuple l j p=>exact Un λh=>ahe (L.e m k) (gH h)
  | List l p=>exact Un λh=>ahf (L.e m k) (gH h)
  | Compare a os bs p=>exact ar6 λo ho=>ar6 λb hb=>Un λh=>by refine aO (O8 ho) (aO (O8 hb) ?_);exact ahm (Wv W.mo L.f) (L.e m k a) (L.e m k b) (N8 h)
  | Call f args ks p=>exact Pk W L
  | Attribute o x p=>exact Un λh=>Vh W.acc W.CT (L.e m k o) h
  | Subscript o i p=>exact Ys W L
  | ListComp e gs sc p=>exact Pr W L
  | Lambda a b sc p=>exact Un λh=>ajg W.lam h
  | _=>exact aa1
def aS8 (h:plainT me=au):Z0 Γ 1 k e me:=λenv l A φ H ρ s O a S F=>by refine aO (Iz h) ?_;exact .none
def av3:Z0 Γ n k e .bad:=match n with
 | 0=>λU U U U U U U U U U U=> .none
 | 1=>aS8 rfl
 | _+2=>λU U U U U U U U U U U=> .none
def JD {α:Type}{e:aG}{o:Option α}{f:α->j0}(h:∀a,∀J:o=aa a,Z0 Γ n k e (f a)):Z0 Γ n k e (mb o f):=by
 cases o with
 | none=>exact av3
 | some a=>exact h a rfl
def ajv (h:∀J:b=au,Z0 Γ n k e me):Z0 Γ n k e (gm b me):=by
 cases b with
 | true=>exact h rfl
 | false=>exact av3
def azk (W:Given Γ cells c P q)(L:∀j≤n,Lv Γ j)(m:Nat)(k:Kd):AllB Γ (n+1) m k:=λe=>by
 have L':=L n (aN n);cases m with
 | zero=>exact av3
 | succ m=>
  have val:∀J:(∀env w,isTrue e env w=(do let v←w;nJ e.pos;pR [v] (vo v))),∀J:kx e≤0,Z0 Γ (n+1) k e (cE (m+1) k e):=λh h0=>aP9 W.pr (L'.e (m+1) k e) h (aN5 (aq (Yr e) h0));cases e with
  | BoolOp o vs p=>exact Ut (L'.b m k)
  | UnaryOp o a p=>
   cases o with
   | Not=>exact Us (L'.b m k a)
   | USub=>exact aP9 W.pr (L'.e (m+1) k _) (λU U=>rfl) rfl
   | _=>exact av3
  | IfExp t a b p=>exact Uq (L'.b m k t) (L'.b m k a) (L'.b m k b)
  | Compare a os bs p=>
   cases n with
   | zero=>exact aS8 (aN5 (Yr _))
   | succ n=>
    exact JD λo ho=>JD λb hb=>ajv λh=>by refine aO (O8 ho) (aO (O8 hb) ?_);exact Uv W.pr (Wv W.mo (L n (eY n)).f) ((L n (eY n)).e m k a) ((L n (eY n)).e m k b) (N8 h)
  | _=>exact val (λU U=>rfl) (aN 0)
end
end
section
variable {Γ:Cx}{n m:Nat}{k:Kd}
section
variable {cells:List (aJ×aV)}{c P:aV}{q:aJ}
def Yt (W:Given Γ cells c P q)(L:Lv Γ n):W0 Γ (n+1) k (.AugAssign t o e p) (a7d (cE m k) o e t):=by
 cases t with
 | Subscript a i sp=>exact ac7 λh=>Nb W.mo W.item L.f (L.e m k a) (L.e m k i) (L.e m k e) (mD.mp h)
 | _=>exact ao2
def aZ4 (W:Given Γ cells c P q):W0 Γ (n+1) k (.Raise x cc p) (TG k x cc):=
 ac7 λh0=>aa2 λx' h1=>aa2 λq h2=>aa2 λnm h3=>aa2 λe h4=>aa2 λt h5=>aa2 λcls h6=>ac7 λh7=>by obtain⟨f,l,ks,cp⟩:=q;obtain⟨cn,np⟩:=nm;obtain⟨msg,j,ep⟩:=t;obtain rfl:=h1;obtain rfl:=mD.mp h0;obtain rfl:ks= []:=cj.mp (d8 h7);obtain rfl:=am3 h2;obtain rfl:f= .Name cn np:=ac9 h3;obtain rfl:l= [e]:=O8 h4;obtain rfl:e= .Constant (.str msg) j ep:=Og h5;exact aY0 W.jq (gM (m8 h7)) h6
def ax7 (h:ar4 e=aC)(t:Option aG)(j:Nat)(env:fP):sy e t j env=pure aC:=by
 cases e with
 | ListComp a b c d=>exact Ss h
 | SetComp a b c d=>exact Ss h
 | DictComp a b c d e=>exact Ss h
 | _=>rfl
def aS9 (h:Ck t=au):(S5 t).isNone=au:=by
 cases t with
 | Starred a b=>exact qI h
 | _=>rfl
def JF (ht:Ck t=au)(h:tupleOf t=aB∨tupleOf e=aB):qN [t] e env=pure aB:=by
 cases t with
 | Tuple l i p=>
  cases e with
  | Tuple l' i' p'=>exact h.elim nofun nofun
  | _=>rfl
 | List l p=>exact qI ht
 | _=>rfl
inductive Yu (k:Kd)(t e:aG)(env:fP):Prop
 | none (h:qN [t] e env=pure aB):Yu k t e env
 | some (vH:List (aJ×sZ)) (i:Nat) (pt:sZ) (ht:t= .Tuple (nmE vH) i pt) (he:ar4 e=aC) (hx:∀x∈jB vH,k x=aa .local) (nd:(jB vH).Nodup) (hc:∀x∈jB vH,x≠("__class__":aJ)) (h:qN [t] e env=pure (aa (jB vH))):Yu k t e env
def ajw (hb:env.blockKind= .function)(hk:env.kindOf=k)(ht:Ck t=au)(h:Fo (aF8 k t e)=au):Yu k t e env:=by
 unfold aF8 at h;cases h1:tupleOf t with
 | none=>exact .none (JF ht (.inl h1))
 | some ts=>
  rw[h1]at h;cases h2:tupleOf e with
  | none=>exact .none (JF ht (.inr h2))
  | some vs=>
   rw[h2]at h;dsimp only at h;obtain⟨ts,i,pt⟩:=ts;obtain⟨vs,j,pe⟩:=vs;obtain rfl:=aD4 h1;obtain rfl:=aD4 h2;cases h3:aF7 k ts vs with
   | none=>replace h:=h3▸h;exact qI h
   | some r=>
    have hw:=Om (i:=i) (j:=j) (p:=pt) (q:=pe) hb hk h3;cases r with
    | none=>exact .none hw
    | some l=>
     rw[h3]at h;have h:=h;obtain⟨vH,ht,rfl,hx⟩:=aZ0 h3;exact .some vH i pt (aO ht rfl) rfl hx (gH (d8 h)) (λx hx=>gH (bj.mp (m8 h) x hx)) hw
def azl (O:v8 Γ k env):env.blockKind= .function:=by delta Env.blockKind;refine aO O.kind ?_;rfl
def Yv (W:Given Γ cells c P q)(L:∀j≤n,Lv Γ j){gs:List Comprehension}{mt:j0}(hmt:mt= .loc y)(hy:k y=aa .local)(O:v8 Γ k env)(a:jy A l (n+1))
  (hsw:sy (.ListComp elt gs sc p) (aa (.Name y py)) pos.line env=pure au) (S:SR Γ ρ σ.hp s) (F:FR Γ l ρ s.heap env σ.loc σ.cX):
  I8 Γ k l env lk ρ s (ik Γ.G (n+1) lk (.asg mt (cE (m+1) k (.ListComp elt gs sc p))) σ) (λQ E=>aP Γ.M A (adw (.Assign [.Name y py] (.ListComp elt gs sc p) pos) env) Q E s) (zg Γ):=by
 subst hmt;have bad:I8 Γ k l env lk ρ s (ik Γ.G (n+1) lk (.asg (.loc y) .bad) σ) (λQ E=>aP Γ.M A (adw (.Assign [.Name y py] (.ListComp elt gs sc p) pos) env) Q E s) (zg Γ):=by
  cases n with
  | zero=>exact .none
  | succ n=>exact .none
 cases n with
 | zero=>exact .none
 | succ n=>
  have ajx:=L n (eY n);rw[show cE (m+1) k (.ListComp elt gs sc p)=mb (Bj gs) λg=>gm ((g.is_async==0)&&ak7 k sc&& !isSet g.iter&&agb (cI (cE m k) k g.iter) (cT (cE m (kdOf sc)) (kdOf sc) m g.target)) (.comp (cE m (kdOf sc) elt) (cT (cE m (kdOf sc)) (kdOf sc) m g.target) (cI (cE m k) k g.iter) (g.ifs.map (cE m (kdOf sc))) (Tt sc)) from rfl];cases hg:Bj gs with
  | none=>exact bad
  | some g=>
   obtain rfl:=O8 hg;show I8 Γ k l env lk ρ s (ik Γ.G (n+1+1) lk (.asg (.loc y) (gm ((g.is_async==0)&&ak7 k sc&& !isSet g.iter&&agb (cI (cE m k) k g.iter) (cT (cE m (kdOf sc)) (kdOf sc) m g.target)) _)) σ) _ _;cases hb:((g.is_async==0)&&ak7 k sc&& !isSet g.iter&&agb (cI (cE m k) k g.iter) (cT (cE m (kdOf sc)) (kdOf sc) m g.target)) with
   | false=>exact bad
   | true=>
    obtain⟨t,it,ifs,ia⟩:=g;have hi:=m8 hb;have hb:=d8 hb;obtain rfl:ia=0:=gM (d8 (d8 hb));refine Od hy (m8 (d8 hb)) (aE7 W.jq (ajx.e m k) t it ?_) (ajx.t m (kdOf sc) m t) (ajx.b m _) (ajx.e m _) (aE8 (N8 (m8 hb))) O a.pred.pred hsw S F;rcases fY.mp hi with hi | hi
    ·exact .inl (N8 hi)
    ·exact .inr (aN6 hi)
def Yw {r:aG->j0}(hy:k y=aa .local)(hc:y≠("__class__":aJ)):cT r k (j+1) (.Name y py)= .loc y:=by show gm (decide (y≠("__class__":aJ))) (mb (k y) _)=_;refine aO hy (aO (gO hc) ?_);rfl
def ajy (t:aG):(∃y p,t= .Name y p)∨∀el gs sc cp ln env,sy (.ListComp el gs sc cp) (aa t) ln env=pure aC:=by
 cases t with
 | Name y p=>exact .inl ⟨y,p,rfl⟩
 | _=>exact .inr λU U U U U U=>rfl
def Yx (h:awl e=au):∃el gs sc cp,e= .ListComp el gs sc cp:=by
 cases e with
 | ListComp el gs sc cp=>exact⟨el,gs,sc,cp,rfl⟩
 | _=>exact qI h
def Yy (W:Given Γ cells c P q)(L:∀j≤n,Lv Γ j)(h1:Fo (aF8 k t e)=au)(h2:Ck t=au)(h3:(!ar4 e || awl e)=au):W0 Γ (n+1) k (.Assign [t] e p) (.asg (cT (cE m k) k (m+2) t) (cE m k e)):=λenv l A lk σ ρ s O Wn a S F=>by
 have he:=(L n (aN n)).e m k e;have ht:=(L n (aN n)).t m k (m+2) t;cases ajw (azl O) (funext Wn.kd) h2 h1 with
 | some vH i pt htt hc hx nd wJ hw=>
  subst htt;have e1:cT (cE m k) k (m+2) (.Tuple (nmE vH) i pt)= .tup ((jB vH).map .loc):=by have h1:((nmE vH).all λt=>(S5 t).isNone)=au:=bj.mpr λt ht=>(cC.mp ht).elim λp h=>h.2▸rfl;show gm ((nmE vH).all λt=>(S5 t).isNone) (.tup ((nmE vH).map (cT (cE m k) k (m+1))))=_;rw[h1];show j0.tup ((vH.map λp=>PySem.Expr.Name p.1 p.2).map (cT (cE m k) k (m+1)))= .tup ((vH.map (·.1)).map .loc);rw[bF,bF];exact congrArg j0.tup (qH λp hp=>Yw (hx p.1 (cC.mpr ⟨p,hp,rfl⟩)) (wJ p.1 (cC.mpr ⟨p,hp,rfl⟩)))
  exact aO e1 (Ot hx nd he O a.pred (show sy e (aa (.Tuple (nmE vH) i pt)) p.line env=pure aC from ax7 hc _ _ env) hw S F)
 | none hw=>
  cases hc:ar4 e with
  | false=>exact aE1 he ht (aS9 h2) O a.pred (ax7 hc _ _ env) hw S F
  | true=>
   rw[hc]at h3;obtain⟨el,gs,sc,cp,rfl⟩:=Yx ((fY.mp h3).resolve_left λz=>qI z);rcases ajy t with⟨y,py,rfl⟩ | hno
   ·have e1:sy (.ListComp el gs sc cp) (aa (.Name y py)) p.line env=pure (env.blockKind== .function&&env.kindOf y==aa .local&&py.line==cp.line&& !(sc.names.any λ(n,k)=>n==y&&(k== .local || k== .cell))):=rfl
    cases hb:(env.blockKind== .function&&env.kindOf y==aa .local&&py.line==cp.line&& !(sc.names.any λ(n,k)=>n==y&&(k== .local || k== .cell))) with
    | false=>exact aE1 he ht rfl O a.pred (by rw[hb]at e1;exact e1) hw S F
    | true=>
     rw[hb]at e1;cases m with
     | zero=>
      cases n with
      | zero=>exact .none
      | succ n=>exact .none
     | succ m=>exact Yv W L (Yw ((Wn.kd y).symm.trans (gM (m8 (d8 (d8 hb))))) (gH h2)) ((Wn.kd y).symm.trans (gM (m8 (d8 (d8 hb))))) O a e1 S F
   ·exact aE1 he ht (aS9 h2) O a.pred (hno _ _ _ _ _ _) hw S F
def azm (W:Given Γ cells c P q)(L:∀j≤n,Lv Γ j):yx Γ (n+1):=λm k st=>by
 have L':=L n (aN n);cases m with
 | zero=>exact ao2
 | succ m=>
  cases st with
  | Expr e p=>exact ac7 λh=>MN (L'.e m k e) (ax7 (N8 h) aB _)
  | Return o p=>exact Vx (L'.e m k)
  | Assign ts e p=>
   exact aa2 λt h1=>ac7 λh=>(aO (O8 h1) (Yy W L (d8 (d8 h)) (m8 (d8 h)) (m8 h)))
  | AugAssign t o e p=>exact Yt W L'
  | Delete ts p=>
   exact aa2 λt h1=>aa2 λq' h2=>ac7 λh3=>(aO (O8 h1) (aO (Oe h2) (VF W.mo W.item L'.f (L'.e m k q'.1) (L'.e m k q'.2.1))))
  | If t a b p=>exact Vy (L'.b m k t) L'.s
  | While t b o p=>
   exact ac7 λh=>(aO (cj.mp h) (VG (L'.b m k t) L'.s))
  | For t it b o p=>
   exact ac7 λh=>(VM (L'.t m k m t) (aE7 W.jq (L'.e m k) t it (.inl (N8 (d8 h)))) L'.s (aE8 (N8 (m8 h))))
  | Raise x cc p=>exact aZ4 W
  | Try b hs o f p=>
   exact ac7 λh=>aa2 λmhs hm=>(aO (cj.mp (d8 (d8 h))) (aO (cj.mp (m8 (d8 h))) (XF W.jq L'.s hm (N8 (m8 h)))))
  | Pass p=>exact MJ
  | Break p=>exact Vw
  | Continue p=>exact MK
  | _=>exact ao2
def azn (W:Given Γ cells c P q)(L:Lv Γ n)(m:Nat)(k:Kd):∀j,MF Γ (n+1) j (cE m k) k:=by
 intro zz;cases zz with
 | zero=>
  exact λt=>af0
 | succ j=>
  exact Vv W.acc W.CT W.mo W.item L.f (L.e m k) (L.t m k j)
def ajz:Lv Γ 0 where
 e:=λU U U U U U U U U U U U U U=> .none
 b:=λU U U U U U U U U U U U U U=> .none
 t:=λU U U U U U U U U U U U U U U U U U=> .none
 s:=λU U U U U U U U U U U U U U U=> .none
 f:=λU U U U U U U U U U U U U U U U U=> .none
def sound (W:Given Γ cells c P q)(n:Nat):Lv Γ n:=by
 induction n using Nat.strongRecOn with
 | ind n ih=>
  cases n with
  | zero=>exact ajz
  | succ n=>
   have L:∀j≤n,Lv Γ j:=λj hj=>ih j (xV hj);have L':=L n (aN n);exact{e:=azj W L',b:=azk W L,t:=azn W L',s:=azm W L,f:=aKw W.fns (azi W.acc W.sup W.jq) L'.s}
end
end
section
namespace RE
open Sre
def uo:Array Nat:= #[14,10,4,1,1,22,0,31,16,127,0,13,7,22,0,31,16,127,0,1]
noncomputable def jY (c:Nat):Bool:=decide (c≤31) || c==127
noncomputable def mU:Array Nat:= #[14,14,4,1,1,9,4294966783,0,0,2147483648,0,0,0,0,0,13,11,9,4294966783,0,0,2147483648,0,0,0,0,0,1]
def jz (c:Nat):Bool:=decide (c<256)&&(mU.getD (6+c/32) 0).testBit (c % 32)
def aT0 (c:Nat)(i:Nat)(hi:i=5∨i=13)(seen:oY):∃rR,inSet uo c 20 i au seen= .ok (jY c,rR):=by
 have e:∃s1 s2 s3,inSet uo c 20 i au seen=if (decide (0≤c)&&decide (c≤31))=au then .ok (au,s1) else if (c==127)=au then .ok (au,s2) else .ok (!au,s3):=by
  rcases hi with rfl | rfl
  ·exact⟨_,_,_,rfl⟩
  ·exact⟨_,_,_,rfl⟩
 obtain⟨s1,s2,s3,e⟩:=e;refine aO e ?_;delta jY;cases h1:decide (c≤31) with
 | true=>exact⟨s1,rfl⟩
 | false=>
  cases h2:c==127 with
  | true=>exact⟨s2,rfl⟩
  | false=>exact⟨s3,rfl⟩
def Pu:qi uo 11 jY where
 one:=λc seen=>aT0 c 5 (.inl rfl) seen
 two:=λc seen=>aT0 c 13 (.inr rfl) seen
 lt:=by decide
 lt2:=by decide
 op:=rfl
 op2:=rfl
 first:=λm h=>by delta M.hasFirstSet;refine aO h ?_;rfl
def CV:yC uo 11:=⟨λU=>rfl⟩
def azo (i:Nat)(h:i<8):mU.getD (17+(1+i)) 0=mU.getD (6+i) 0:=by
 have:∀i:Fin 8,mU.getD (17+(1+i.1)) 0=mU.getD (6+i.1) 0:=by decide
 exact this ⟨i,h⟩
def JG (c:Nat)(i:Nat)(hi:i=5∨i=17)(seen:oY):∃rR,inSet mU c 28 i au seen= .ok (jz c,rR):=by
 have e:∃s1 s2,inSet mU c 28 i au seen=if (decide (c<256)&&(mU.getD (i+(1+c/32)) 0).testBit (c % 32))=au then .ok (au,s1) else .ok (!au,s2):=by
  rcases hi with rfl | rfl
  ·exact⟨_,_,rfl⟩
  ·exact⟨_,_,rfl⟩
 obtain⟨s1,s2,e⟩:=e;have e2:(decide (c<256)&&(mU.getD (i+(1+c/32)) 0).testBit (c % 32))=jz c:=by
  delta jz;by_cases hc:c<256
  ·rcases hi with rfl | rfl
   ·exact aO (show 5+(1+c/32)=6+c/32 by exact(iH _ _ _).symm) rfl
   ·exact aO (azo _ (by lia)) rfl
  ·simp [hc]
 refine aO e (aO e2 ?_);cases jz c with
 | true=>exact⟨s1,rfl⟩
 | false=>exact⟨s2,rfl⟩
def Yz:qi mU 15 jz where
 one:=λc seen=>JG c 5 (.inl rfl) seen
 two:=λc seen=>JG c 17 (.inr rfl) seen
 lt:=by decide
 lt2:=by decide
 op:=rfl
 op2:=rfl
 first:=λm h=>by delta M.hasFirstSet;refine aO h ?_;rfl
def Gn:yC mU 15:=⟨λU=>rfl⟩
end RE
end
def Gp (t:FT):rW:=match defAt t with
 | some d=>d.1
 | none=>⟨[], [],aB, [], [],aB, []⟩
def fdOf (t:FT)(q:aJ):jA:={name:=q,qualname:=q,params:=Gp t,body:= .stmts [],scope:=⟨.function, [],aC,aC, []⟩,globals:=0,closure:= [],defaults:=t.Rf,kwdefaults:=t.Ik}
def aka (h1:fd.params=Gp t)(h2:fd.defaults=t.Rf)(h3:fd.kwdefaults=t.Ik):wV fd args=wV (fdOf t fd.qualname) args:=by obtain⟨a,b,c,d,e,f,g,h,i,j,k,l,m,n,o⟩:=fd;obtain rfl:=h1;obtain rfl:=h2;obtain rfl:=h3;rfl
def kdF (t:FT)(hs:Int):aog:=match t.Ik with
 | .ref d=> [(d,Im hs t.kt)]
 | _=> []
def JH:Nat->∀J:(List aD->Prop),Prop
 | 0,P=>P []
 | n+1,P=>∀u,JH n λus=>P (u::us)
def arl:∀{n:Nat}{P:List aD->Prop},∀J:JH n P,∀us:List aD,∀J:us.length=n,P us:=by
 intro n
 induction n with
 | zero=>exact λh us e=>qd e▸h
 | succ n ih=>
  intro P h us e;cases us with
  | nil=>exact nxZ e
  | cons u us=>exact ih (h u) us (nQ e)
abbrev akb (t:FT)(np:Nat)(kn:List aJ)(mG:List aD):Option (List (aJ×aD)):=asks (given kn mG t.dv) (t.P.drop np++t.W)
abbrev z6 (t:FT)(np:Nat)(kn:List aJ)(us mG:List aD):Prop:=∀(S:Setting)(hs:Int)(q:aJ),peek (t.ob++kdF t hs) S (wV (fdOf t q) ⟨us,kn.zip mG⟩)=(akb t np kn mG).map (t.P.zip us++·)
abbrev arn (t:FT)(kx:aJ)(np:Nat)(kn:List aJ)(us mG:List aD):Prop:=∀q:aJ,wV (fdOf t q) ⟨us,kn.zip mG⟩=(do let d←PySem.alloc gG;pure (t.P.zip us++((akb t np kn mG).getD []++ [(kx,.ref d)])))
def u9 (t:FT)(sh:Nat×List aJ):Prop:=JH sh.1 λus=>JH sh.2.length λmG=>match t.kx with
 | none=>z6 t sh.1 sh.2 us mG
 | some kx=>arn t kx sh.1 sh.2 us mG
def J4 {α:Type}{p:α->Prop}:∀x∈([]:List α),p x:=λU h=>zZ h
def q9 {α:Type}{p:α->Prop}{a:α}{l:List α}(h:p a)(t:∀x∈l,p x):∀x∈a::l,p x:=λx hx=>(bc.mp hx).elim (λe=>e▸h) (t x)
def aNk:u9 ft0 (2, ["key"]):=λu0 u1 k0=>(λS hs q=>by kernel_rfl:z6 ft0 2 ["key"] [u0,u1] [k0])
def aNl:u9 ft0 (3, ["key"]):=λu0 u1 u2 k0=>(λS hs q=>by kernel_rfl:z6 ft0 3 ["key"] [u0,u1,u2] [k0])
def aNm:u9 ft0 (3, []):=λu0 u1 u2=>(λS hs q=>by kernel_rfl:z6 ft0 3 [] [u0,u1,u2] [])
def aNn:u9 ft1 (4, []):=λu0 u1 u2 u3=>(λS hs q=>by kernel_rfl:z6 ft1 4 [] [u0,u1,u2,u3] [])
def aNo:u9 ft1 (4, ["key"]):=λu0 u1 u2 u3 k0=>(λS hs q=>by kernel_rfl:z6 ft1 4 ["key"] [u0,u1,u2,u3] [k0])
def aNp:u9 ft2 (2, ["key"]):=λu0 u1 k0=>(λS hs q=>by kernel_rfl:z6 ft2 2 ["key"] [u0,u1] [k0])
def aNq:u9 ft2 (3, ["key"]):=λu0 u1 u2 k0=>(λS hs q=>by kernel_rfl:z6 ft2 3 ["key"] [u0,u1,u2] [k0])
def aNr:u9 ft3 (5, []):=λu0 u1 u2 u3 u4=>(λS hs q=>by kernel_rfl:z6 ft3 5 [] [u0,u1,u2,u3,u4] [])
def aNs:u9 ft4 (2, []):=λu0 u1=>(λS hs q=>by kernel_rfl:z6 ft4 2 [] [u0,u1] [])
def aNt:u9 ft5 (1, []):=λu0=>(λS hs q=>by kernel_rfl:z6 ft5 1 [] [u0] [])
def aNu:u9 ft6 (3, []):=λu0 u1 u2=>(λS hs q=>by kernel_rfl:z6 ft6 3 [] [u0,u1,u2] [])
def aNv:u9 ft7 (2, []):=λu0 u1=>(λS hs q=>by kernel_rfl:z6 ft7 2 [] [u0,u1] [])
def aNw:u9 ft8 (3, []):=λu0 u1 u2=>(λS hs q=>by kernel_rfl:z6 ft8 3 [] [u0,u1,u2] [])
def aNx:u9 ft9 (1, []):=λu0=>(λS hs q=>by kernel_rfl:z6 ft9 1 [] [u0] [])
def aNy:u9 ft9 (2, []):=λu0 u1=>(λS hs q=>by kernel_rfl:z6 ft9 2 [] [u0,u1] [])
def a9c:u9 avl (1, []):=λu0=>(λS hs q=>by kernel_rfl:z6 avl 1 [] [u0] [])
def a9d:u9 Fe (1, []):=λu0=>(λS hs q=>by kernel_rfl:z6 Fe 1 [] [u0] [])
def a9e:u9 Fg (1, []):=λu0=>(λS hs q=>by kernel_rfl:z6 Fg 1 [] [u0] [])
def a9f:u9 Tf (1, []):=λu0=>(λS hs q=>by kernel_rfl:z6 Tf 1 [] [u0] [])
def a9g:u9 Tf (2, []):=λu0 u1=>(λS hs q=>by kernel_rfl:z6 Tf 2 [] [u0,u1] [])
def a9h:u9 avm (1, []):=λu0=>(λS hs q=>by kernel_rfl:z6 avm 1 [] [u0] [])
def a9i:u9 avn (1, []):=λu0=>(λS hs q=>by kernel_rfl:z6 avn 1 [] [u0] [])
def a9j:u9 Tg (1, []):=λu0=>(λS hs q=>by kernel_rfl:z6 Tg 1 [] [u0] [])
def a9k:u9 Tg (2, []):=λu0 u1=>(λS hs q=>by kernel_rfl:z6 Tg 2 [] [u0,u1] [])
def a9l:u9 avo (2, ["name"]):=λu0 u1 k0=>(λS hs q=>by kernel_rfl:z6 avo 2 ["name"] [u0,u1] [k0])
def a9m:u9 avp (1, []):=λu0=>(λS hs q=>by kernel_rfl:z6 avp 1 [] [u0] [])
def a9n:u9 avq (3, []):=λu0 u1 u2=>(λS hs q=>by kernel_rfl:z6 avq 3 [] [u0,u1,u2] [])
def a9o:u9 avr (2, []):=λu0 u1=>(λS hs q=>by kernel_rfl:z6 avr 2 [] [u0,u1] [])
def a9p:u9 avs (2, []):=λu0 u1=>(λS hs q=>by kernel_rfl:z6 avs 2 [] [u0,u1] [])
def a9q:u9 avt (2, []):=λu0 u1=>(λS hs q=>by kernel_rfl:z6 avt 2 [] [u0,u1] [])
def a9r:u9 Th (2, []):=λu0 u1=>(λS hs q=>by kernel_rfl:z6 Th 2 [] [u0,u1] [])
def a9s:u9 Th (3, []):=λu0 u1 u2=>(λS hs q=>by kernel_rfl:z6 Th 3 [] [u0,u1,u2] [])
def a9t:u9 avu (1, []):=λu0=>(λS hs q=>by kernel_rfl:z6 avu 1 [] [u0] [])
def a9u:u9 avv (1, []):=λu0=>(λS hs q=>by kernel_rfl:z6 avv 1 [] [u0] [])
def a9v:u9 avw (3, []):=λu0 u1 u2=>(λq=>by kernel_rfl:arn avw "_params" 3 [] [u0,u1,u2] [])
def a9w:u9 avx (1, []):=λu0=>(λS hs q=>by kernel_rfl:z6 avx 1 [] [u0] [])
def a9x:u9 avy (2, []):=λu0 u1=>(λS hs q=>by kernel_rfl:z6 avy 2 [] [u0,u1] [])
def a9y:u9 avz (4, []):=λu0 u1 u2 u3=>(λS hs q=>by kernel_rfl:z6 avz 4 [] [u0,u1,u2,u3] [])
def a9z:u9 awa (1, []):=λu0=>(λS hs q=>by kernel_rfl:z6 awa 1 [] [u0] [])
def a90:u9 awb (1, []):=λu0=>(λS hs q=>by kernel_rfl:z6 awb 1 [] [u0] [])
def a91:u9 awc (3, []):=λu0 u1 u2=>(λS hs q=>by kernel_rfl:z6 awc 3 [] [u0,u1,u2] [])
def a92:u9 awd (6, []):=λu0 u1 u2 u3 u4 u5=>(λS hs q=>by kernel_rfl:z6 awd 6 [] [u0,u1,u2,u3,u4,u5] [])
def a93:u9 awe (2, []):=λu0 u1=>(λS hs q=>by kernel_rfl:z6 awe 2 [] [u0,u1] [])
def a94:u9 awf (4, []):=λu0 u1 u2 u3=>(λS hs q=>by kernel_rfl:z6 awf 4 [] [u0,u1,u2,u3] [])
def YB:∀t∈vP,∀sh∈t.shapes,u9 t sh:=
 (q9 (q9 aNk (q9 aNl (q9 aNm J4))) (q9 (q9 aNn (q9 aNo J4)) (q9 (q9 aNp (q9 aNq J4)) (q9 (q9 aNr J4) (q9 (q9 aNs J4) (q9 (q9 aNt J4) (q9 (q9 aNu J4) (q9 (q9 aNv J4) (q9 (q9 aNw J4) (q9 (q9 aNx (q9 aNy J4)) (q9 (q9 a9c J4) (q9 (q9 a9d J4) (q9 (q9 a9e J4) (q9 (q9 a9f (q9 a9g J4)) (q9 (q9 a9h J4) (q9 (q9 a9i J4) (q9 (q9 a9j (q9 a9k J4)) (q9 (q9 a9l J4) (q9 (q9 a9m J4) (q9 (q9 a9n J4) (q9 (q9 a9o J4) (q9 (q9 a9p J4) (q9 (q9 a9q J4) (q9 (q9 a9r (q9 a9s J4)) (q9 (q9 a9t J4) (q9 (q9 a9u J4) (q9 (q9 a9v J4) (q9 (q9 a9w J4) (q9 (q9 a9x J4) (q9 (q9 a9y J4) (q9 (q9 a9z J4) (q9 (q9 a90 J4) (q9 (q9 a91 J4) (q9 (q9 a92 J4) (q9 (q9 a93 J4) (q9 (q9 a94 J4) J4))))))))))))))))))))))))))))))))))))
def hl:LeftO pw qv loose (λs=>xlAt qv [] s&&recOk [] s) (λs=>Tp s.heap) (λU=>Fi) 5034:=λw=>by refine oG (cR.mp (a7b w)) λs e h=> ?_;refine oG (cR.mp (a7a w)) λs' e' g=> ?_;obtain rfl:s'=s:=ak (e'.symm.trans e);exact aO e (congrArg aa (Prod.ext (show openSeen qv loose (importedModules pw.main.body) (λs=>xlAt qv [] s&&recOk [] s) au s'=openGood qv loose from congrArg ava g) h))
def V4 (t:FT):List pK:=match defAt t with
 | some d=>d.2.1
 | none=> []
def R6 (t:FT):jK:=match defAt t with
 | some d=>d.2.2
 | none=>⟨.function, [],aC,aC, []⟩
structure FnR (h:bM)(t:FT)(o:ou)(fd:jA):Prop where
 obj:h.get? t.a=aa o
 data:o.data= .func fd
 par:fd.params=Gp t
 body:fd.body= .stmts (V4 t)
 Ea:fd.scope=R6 t
 glob:fd.globals=bY
 blt:fd.builtins=dJ
 zm:fd.closure=if t.cc then[(("__class__":aJ),(294:aV))] else[]
 code:fd.code= .ref t.code
 qual:fd.qualname=t.q
 Rf:fd.defaults=t.Rf
 Ik:fd.kwdefaults=t.Ik
def akc (e:apl d=aa fd):d= .func fd:=by
 cases d with
 | func f=>exact congrArg Data.func (ak e)
 | _=>exact t7 e
def akd (e:apm d=aa vs):d= .fields vs:=by
 cases d with
 | fields f=>exact congrArg Data.fields (ak e)
 | _=>exact t7 e
def ake (e:apn d=aa q):d= .dict #[q.1] q.2:=by
 cases d with
 | dict es n=>
  rcases es with⟨_ | ⟨a,_ | ⟨b,r⟩⟩⟩
  ·exact t7 e
  ·exact ak e▸rfl
  ·exact t7 e
 | _=>exact t7 e
def JK (e:Tc v=aa q):∃t,v= .str q t:=by
 cases v with
 | str a t=>exact⟨t,congrArg (Value.str · t) (ak e)⟩
 | _=>exact t7 e
def azq (e:fnD h t.a=Te t)(s:(defAt t).isSome=au):∃o fd,FnR h t o fd:=by
 obtain⟨d,hd⟩:=bT.mp s;simp only[(show Te t=aa ⟨d.1,.stmts d.2.1,d.2.2,bY,dJ,if t.cc then[(("__class__":aJ),(294:aV))] else[],.ref t.code,t.q,t.Rf,t.Ik⟩ from by delta Te;refine aO hd ?_;rfl)]at e;refine j5 e λo ho e=> ?_;refine j5 e λfd hf e=> ?_
 ·have e:=ak e
  exact⟨_,fd,ho,akc hf,(congrArg Il.params e).trans (show Gp t=d.1 from by delta Gp;exact aO hd rfl).symm,(congrArg Il.body e).trans (congrArg FuncBody.stmts (show V4 t=d.2.1 from by delta V4;exact aO hd rfl).symm),(congrArg Il.scope e).trans (show R6 t=d.2.2 from by delta R6;exact aO hd rfl).symm,congrArg Il.globals e,congrArg Il.blt e,congrArg Il.closure e,congrArg Il.code e,congrArg Il.qual e,congrArg Il.Rf e,congrArg Il.Ik e⟩
structure CdR (h:bM)(c:aV)(q f:aJ):Prop where
 is:∃o vs t t',h.get? c=aa o∧o.data= .fields vs∧vs[1]?=aa (.str q t)∧vs[2]?=aa (.str f t')
def YC (e:Fd h c=aa (q,f)):CdR h c q f:=by refine j5 e λo ho e=> ?_;refine j5 e λvs hd e=> ?_;refine j5 e λx h1 e=> ?_;refine j5 e λq' hx e=> ?_;refine j5 e λy h2 e=> ?_;refine j5 e λf' hy e=> ?_;obtain⟨rfl,rfl⟩:=lJ (ak e);obtain⟨t,rfl⟩:=JK hx;obtain⟨t',rfl⟩:=JK hy;exact⟨o,vs,t,t',ho,akd hd,h1,h2⟩
def azr (e:kdN h (.ref d)=aa (aa (Im 0 kt))):∃hs,h.get? d=aa (Im hs kt):=by refine j5 (ak e) λo ho e=> ?_;refine j5 e λq hq e=> ?_;have e:=ak e;refine⟨q.1.hash,ho.trans (congrArg aa ?_)⟩;have ed:=Data.dict.inj (congrArg Obj.data e);have hd:=ake hq;rw[show q.1=⟨q.1.hash,.str "key" kt,.none⟩ from wj (show q.1.key= .str "key" kt from congrArg DictEntry.key ((bL (afl ed.1)).1)) (wj (show q.1.val= .none from congrArg DictEntry.val ((bL (afl ed.1)).1)) rfl),show q.2=1 from ed.2]at hd;obtain⟨c,dd,da,sl⟩:=o;refine aO (show da=_ from hd) (aO (show c= .type "dict" from congrArg Obj.cls e) (aO (show dd=aB from congrArg Obj.dict e) (aO (show sl= #[] from congrArg Obj.slots e) ?_)));rfl
noncomputable def toD:aD->V
 | .int i _=> .int i
 | _=> .none
noncomputable def isD:aD->Bool
 | .none=>au
 | .int _ _=>au
 | _=>aC
def fnOf (t:FT):Fn:={params:=t.P,dflt:=t.dv.map λp=>(p.1,toD p.2),eN:=t.W,kwarg:=t.kx,cells:=t.cl,body:=TP 40 (kdOf (R6 t)) (V4 t),shapes:=t.shapes}
noncomputable def nms (t:FT):List aJ:=t.P++t.W++t.kx.toList
def aOa (t:FT):Bool:=(defAt t).isSome&&(((R6 t).kind== .function)&&(!(R6 t).isCoroutine&&(!(R6 t).isGenerator&&((nms t).all (λx=>kdOf (R6 t) x==aa (if t.cl.contains x then .cell else .local))&&(decide (nms t).Nodup&&(!(nms t).contains "errors" &&(t.dv.all (λp=>isD p.2)&&
 (if t.cc then t.cl.isEmpty&&(R6 t).names.all (λp=>p.2 != .cell&&(p.2 != .free || decide (p.1="__class__"))) else(R6 t).names.all λp=>p.2 != .free))))))))
def noE (t:FT):Bool:= !(kdOf (R6 t) "errors"==aa .local)
def as4:(Q6::vP).all aOa=au:=rfl
def akf:vP.all noE=au:=rfl
def YD:List (aV×Fn):=vP.map λt=>(t.a,fnOf t)
def gl:Gl where
 glob:=λx=>(afy.lookup x).map V.gl
 fn:=λa=>YD.lookup a
 bW:=λc x=>(yr.find? λq=>q.1==c&&q.2.1==x).map λq=>q.2.2
 gh:=370
 re:=λa=>if a=48 then aa RE.jY else if a=53 then aa RE.jz else aB
 lam:=apv
inductive sX (P:aV)(h:bM):Prop
 | mk (ps:Array aD) (hP:h.get? P=aa (nW ps)) (ht:nM ps.toList):sX P h
abbrev Px:aJ:="law.<locals>.<lambda>"
structure TabsOk (h:bM):Prop where
 len:sX 332 h
 str:sX 339 h
 lam:W8 435 Px h
def sX.keeps (k:∀o,∀J:h.get? P=aa o,h'.get? P=aa o):∀J:sX P h,sX P h':=by rintro⟨ps,hP,ht⟩;exact .mk ps (k _ hP) ht
def sX.of:∀J:V8 P h h',sX P h':=by rintro⟨_,_,_,hP',ht⟩;exact .mk _ hP' ht
theorem ak3.im (im:∀b o,∀J:h.get? b=aa o,∀J:¬M3 o,h'.get? b=aa o):∀J:ak3 h q cv,ak3 h' q cv
 | .mk c o vs t h1 hc h2 h3=> .mk c o vs t (im _ _ h1 (ad8 hc h2 (by decide))) hc h2 h3
def W8.keeps (k:∀o,∀J:h.get? P=aa o,h'.get? P=aa o)(im:∀b o,∀J:h.get? b=aa o,∀J:¬M3 o,h'.get? b=aa o):∀J:W8 P q h,W8 P q h':=by rintro⟨ps,hP,ht,hc⟩;exact .mk ps (k _ hP) ht λpos cv e=>(hc pos cv e).im im
section
structure Hd (h:bM):Prop where
 obs:Tp h=Fi
section
def W9 {α β:Type}{f g:α->β}{l:List α}(e:l.map f=l.map g):∀x∈l,f x=g x:=List.map_inj_left.mp e
theorem Hd.fns (e:Hd h):∀t∈Q6::vP,fnD (base h) t.a=Te t:=W9 (congrArg xZ.fns e.obs)
theorem Hd.cds (e:Hd h):∀t∈Q6::vP,Fd (base h) t.code=aa (t.q,pw.main.file):=W9 (congrArg xZ.cds e.obs)
theorem Hd.tb (e:Hd h):∀a∈Lz,h.get? a=aa (nW #[]):=W9 (congrArg xZ.tb e.obs)
theorem Hd.objs (e:Hd h):∀p∈afz,(base h).get? p.1=aa p.2:=W9 (congrArg xZ.objs e.obs)
theorem Hd.dob (e:Hd h)(t:FT)(ht:t∈Q6::vP):∀p∈t.ob,(base h).get? p.1=aa p.2:=
 W9 (W9 (show((Q6::vP).map λt=>t.ob.map λp=>(base h).get? p.1)=((Q6::vP).map λt=>t.ob.map λp=>aa p.2) from congrArg xZ.dob e.obs) t ht)
theorem Hd.kd (e:Hd h):∀t∈Q6::vP,kdN (base h) t.Ik=Td t:=W9 (congrArg xZ.kd e.obs)
theorem Hd.Tj (e:Hd h):∀c∈LC,((mq h).lookup c).map (·.cls)=aa (.type "type"):=W9 (congrArg xZ.Tj e.obs)
theorem Hd.yc (e:Hd h):∀q∈awg,gn (mq h) (.ref q.1) q.2.1=aa q.2.2:=W9 (congrArg xZ.yc e.obs)
theorem Hd.mth (e:Hd h):∀q∈yr,gn (mq h) (.ref q.1) q.2.1=aa (aa (.ref q.2.2)):=W9 (congrArg xZ.mth e.obs)
theorem Hd.LQ (e:Hd h):∀g∈yr.map (λq:aV×aJ×aV=>q.2.2)++ [337,344],(fnIn (mq h) g,sI (mq h) (.ref g),wZ (mq h) (.ref g) "__get__",adp (mq h) (.ref g))=(au,aa (.type "function"),aa (aa (.builtin "function.__get__")),aa aC):=W9 (congrArg xZ.LQ e.obs)
theorem Hd.attr (e:Hd h)(c:aV)(hc:c∈LC):∀n∈G7,gn (mq h) (.ref c) n=aa aB:=
 W9 (W9 (show(LC.map λc=>G7.map λn=>gn (mq h) (.ref c) n)=(LC.map λc=>G7.map λn=>aa aB) from congrArg xZ.attr e.obs) c hc)
theorem Hd.gl (e:Hd h):∀p∈afy,Ti (mq h) p.1=aa p.2:=W9 (congrArg xZ.gl e.obs)
structure a96 (h:bM):Prop where
 b0:(RD (mq h) 370 (.type "list")==aa au)=au
 b1:Hx (mq h) 286=au
 b2:Hx (mq h) 370=au
 b3:Hx (mq h) 182=au
 b4:zy (mq h) 286=au
 b5:at8 (mq h) 370=au
 b6:zy (mq h) 182=au
 b7:(base h).isNs bY=au
 b8:(base h).noLimitOk=au
 b9:Hy (mq h) (.ref 286)=au
 b10:Hy (mq h) (.ref 370)=au
 b11:Hy (mq h) (.ref 182)=au
def Hd.bb (e:Hd h):a96 h:=by have h2:=bL (bL (bL (congrArg xZ.bs e.obs)).2).2;have h5:=bL (bL (bL h2.2).2).2;have h8:=bL (bL (bL h5.2).2).2;exact⟨(bL (congrArg xZ.bs e.obs)).1,(bL (bL (congrArg xZ.bs e.obs)).2).1,h2.1,(bL h2.2).1,(bL (bL h2.2).2).1,h5.1,(bL h5.2).1,(bL (bL h5.2).2).1,h8.1,(bL h8.2).1,(bL (bL h8.2).2).1,(bL (bL (bL h8.2).2).2).1⟩
structure Py (h:bM)(c:aV)(x:aJ)(m:List aD):Prop where
 is:∃cd,Hv (mq h) c=aa cd∧cd.qualname=x∧cd.mro=m∧cd.hasDict=au
def aJ6 (e:(Hv (mq h) c).map (λcd=>(cd.qualname,cd.mro,cd.hasDict))=aa (x,m,au)):Py h c x m:=oG (cR.mp e) λcd h1 h2=>⟨cd,h1,congrArg ava h2,congrArg (λp=>p.2.1) h2,congrArg (λp=>p.2.2) h2⟩
structure aOc (h:bM):Prop where
 c0:Py h 286 "_ValueFormatter" [.ref 286,.type "object"]
 c1:Py h 370 "_Accumulator" [.ref 370,.type "list",.type "object"]
 c2:Py h 182 "Headers" [.ref 182,.type "object"]
def Hd.cc (e:Hd h):aOc h:=by have h0:=bL (congrArg xZ.cls e.obs);exact⟨aJ6 h0.1,aJ6 (bL h0.2).1,aJ6 (bL (bL h0.2).2).1⟩
end
def av4 (N:aV):List (aJ×aV):=dX (N+1) (R6 Q6).names []
structure aOd (N:aV)(env:fP):Prop where
 cells:env.cells=av4 N
 code:env.code= .ref 437
 qual:env.qual++"<lambda>"=Px
def vQ (k:∀t∈Lz,h'.get? t=h.get? t)(im:∀b o,∀J:h.get? b=aa o,∀J:¬M3 o,h'.get? b=aa o)(x:TabsOk h):TabsOk h':=
 ⟨x.len.keeps λo e=>(k 332 (.head _)).trans e,x.str.keeps λo e=>(k 339 (.tail _ (.head _))).trans e,x.lam.keeps (λo e=>(k 435 (.tail _ (.tail _ (.head _)))).trans e) im⟩
def sX.live:∀J:sX P h,∃o,h.get? P=aa o∧o.cls= .none:=by rintro⟨ps,hP,_⟩;exact⟨_,hP,rfl⟩
def W8.live:∀J:W8 P q h,∃o,h.get? P=aa o∧o.cls= .none:=by rintro⟨ps,hP,_,_⟩;exact⟨_,hP,rfl⟩
def aOe {p:aV->Prop}(h1:p 332)(h2:p 339)(h3:p 435):∀t∈Lz,p t:=q9 h1 (q9 h2 (q9 h3 J4))
def nT (x:TabsOk h):∀t∈Lz,∃o,h.get? t=aa o∧o.cls= .none:=aOe x.len.live x.str.live x.lam.live
noncomputable def cx (w:vK)(h:bM)(N:aV):Cx where
 prog:=pw
 w:=w
 g0:=base h
 K:=mq h
 inK:=Io _ _
 G:=gl
 awm:=Gj (av4 N) Px
 sE:=aOd N
 Ab:=aea
 tabs:=Lz
 tabsOk:=TabsOk
 vQ:=λU U=>vQ
 nT:=λU=>nT
end
section
section
structure azs (t:FT):Prop where
 isd:(defAt t).isSome=au
 kind:(R6 t).kind= .function
 co:(R6 t).isCoroutine=aC
 gen:(R6 t).isGenerator=aC
 kinds:∀x∈nms t,kdOf (R6 t) x=aa (if t.cl.contains x then .cell else .local)
 nodup:(nms t).Nodup
 nos:(nms t).contains "errors"=aC
 dv:(t.dv.all λp=>isD p.2)=au
 mode:(if t.cc then t.cl.isEmpty&&(R6 t).names.all (λp=>p.2 != .cell&&(p.2 != .free || decide (p.1="__class__"))) else(R6 t).names.all λp=>p.2 != .free)=au
def Gq (ht:t∈Q6::vP):azs t:=by have h5:=j8 (j8 (j8 (j8 (j8 (bj.mp as4 t ht)).2).2).2).2;exact⟨(j8 (bj.mp as4 t ht)).1,gM (j8 (j8 (bj.mp as4 t ht)).2).1,N8 (j8 (j8 (j8 (bj.mp as4 t ht)).2).2).1,N8 (j8 (j8 (j8 (j8 (bj.mp as4 t ht)).2).2).2).1,λx hx=>gM (bj.mp h5.1 x hx),gH (j8 h5.2).1,N8 (j8 (j8 h5.2).2).1,(j8 (j8 (j8 h5.2).2).2).1,(j8 (j8 (j8 h5.2).2).2).2⟩
def ah4 {k k':jR}(h:(k !=k')=au):k≠k':=λq=>by replace h:=q▸h;exact absurd h (by cases k'<;>decide)
def akg (e:Hd h)(c:azs t)(r:FnR (base h) t o fd):Jh (cx w h N) (fnOf t) fd:=by
 have h1:=c.mode;have h2:=r.zm;cases q:t.cc with
 | true=>
  rw[q]at h1 h2;have h3:=λx hx=>j8 (bj.mp (j8 h1).2 x hx);refine .cls (cj.mp (j8 h1).1) (λx hx=>ah4 (h3 x (r.Ea▸hx)).1) (λx hx=> ?_) 294 _ _ h2 (e.objs _ (rz 8 rfl)) rfl (show 294∉Lz by decide);rw[r.Ea]at hx;exact(fY.mp (h3 _ (mem_of_lookup hx)).2).elim (λz=>absurd rfl (ah4 z)) λz=>gH z
 | false=>
  rw[q]at h1 h2;exact .own h2 λx hx=>by rw[r.Ea]at hx;exact absurd rfl (ah4 (bj.mp h1 _ (mem_of_lookup hx)))
def YF (e:Hd h)(c:azs t)(r:FnR (base h) t o fd):FrmOk (cx w h N) (fnOf t) fd where
 kind:=r.Ea▸c.kind
 glob:=r.glob
 blt:=r.blt
 kinds:=λx hx=>r.Ea▸c.kinds x hx
 mode:=akg e c r
 nodup:=c.nodup
 nos:=λq=>Ss ((cJ.mpr q).symm.trans c.nos)
def azt:∀{dv:List (aJ×aD)},∀J:(dv.all λp=>isD p.2)=au,∀{x:aJ}{v:V},∀J:(dv.map λp=>(p.1,toD p.2)).lookup x=aa v,az8 Γ ρ h v dv x:=by
 intro zz
 induction zz with
 | nil=>
  intro _ _ _ e;exact iz e
 | cons hd0 r ih=>
  obtain⟨y,u⟩:=hd0;intro c x v e;by_cases q:x=y
  ·subst q
   refine⟨u,G9, ?_⟩;obtain rfl:=ak (G9.symm.trans e);cases u with
   | none=>exact rfl
   | int i t=>exact⟨t⟩
   | _=>exact qI ((j8 c).1)
  ·obtain⟨u',h1,h2⟩:=ih (j8 c).2 ((w5 q).symm.trans e)
   exact⟨u',(w5 q).trans h1,h2⟩
def a98 (e:Hd h)(ht:t∈Q6::vP):∃hs,∀p∈kdF t hs,(base h).get? p.1=aa p.2:=by
 have h1:=e.kd t ht;unfold Td at h1;delta kdF;cases hk:t.Ik with
 | ref d=>
  rw[hk]at h1;obtain⟨hs,q⟩:=azr h1;exact⟨hs,λp hp=>(aH.mp hp).symm▸q⟩
 | _=>exact⟨0,λp hp=>zZ hp⟩
def JL (e:Hd h)(ht:t∈Q6::vP)(r:FnR (base h) t o fd)(hB:u9 t (np,kn))(h1:us.length=np)(h2:mG.length=kn.length)(hr:asks (given kn mG t.dv) (t.P.drop np++t.W)=aa r')
  (hk:∀b o,∀J:(base h).get? b=aa o,s.heap.get? b=aa o) (hq:ar8 (fnOf t) us r' s Q):aP M A (wV fd ⟨us,kn.zip mG⟩) Q E s:=by
 have hb:=arl (arl hB us h1) mG h2;refine pM (aka r.par r.Rf r.Ik) ?_;unfold ar8 at hq;rw[show(fnOf t).kwarg=t.kx from rfl]at hq;cases hx:t.kx with
 | none=>
  rw[hx]at hb hq;obtain⟨Jp,hd⟩:=a98 e ht;exact(Looks.of_peek (λa o q=>(bI.mp (mem_of_lookupK q)).elim (λz=>hk _ _ (e.dob t ht _ z)) λz=>hk _ _ (hd _ z)) ((hb ⟨M.prog,M.w.params⟩ Jp fd.qualname).trans (by simp only[akb,hr];rfl))).here hq
 | some kx=>
  rw[hx]at hb hq;simp only[hb fd.qualname,akb,hr];have hq:Q (t.P.zip us++r'++ [(kx,.ref s.heap.objs.size)]) {s with heap:=s.heap.push gG}:=hq;rw[aQ]at hq;exact aj (aot (aA hq))
def JM (e:Hd h)(ht:t∈Q6::vP)(r:FnR (base h) t o fd):(base h).CodeRec fd.code fd.qualname:=by obtain⟨o,vs,tk,Ae,h1,h2,h3,h4⟩:=(YC (e.cds t ht)).is;exact⟨_,o,vs,tk,r.code,h1,h2,r.qual▸h3⟩
def JN (e:Hd h)(ht:t∈vP)(r:FnR (base h) t o fd):FnAt (cx w h N) t.a (fnOf t) o fd (V4 t) t.dv:=
 have c:=Gq (.tail _ ht)
 {YF e c r with
  obj:=r.obj
  data:=r.data
  co:=r.Ea▸c.co
  gen:=r.Ea▸c.gen
  stmts:=r.body
  code:=JM e (.tail _ ht) r
  noe:=λq=>by have h1:=N8 (bj.mp akf t ht);rw[r.Ea]at q;rw[q]at h1;exact absurd h1 (by decide)
  Rf:=λx v q ρ h=>azt c.dv q
  bind:=λnp kn hs us mG h1 h2 r' hr M A Q E s hk hq=>JL e (.tail _ ht) r (YB t ht (np,kn) hs) h1 h2 hr hk hq
  tr:=⟨40,by refine aO r.Ea ?_;rfl⟩}
def Hd.fnR (e:Hd h)(ht:t∈Q6::vP):∃o fd,FnR (base h) t o fd:=azq (e.fns t ht) (Gq ht).isd
def aJ7:∀{l:List (aV×Fn)}{a:aV}{f:Fn},∀J:l.lookup a=aa f,(a,f)∈l:=by
 intro zz
 induction zz with
 | nil=>
  intro _ _ e;exact iz e
 | cons hd0 r ih=>
  obtain⟨b,g⟩:=hd0;intro a f e;rw[yh]at e;cases q:a==b with
  | true=>replace e:=q▸e;cases e;refine aO (gM q) ?_;exact .head _
  | false=>rw[q]at e;exact .tail _ (ih e)
def YG (q:gl.fn a=aa f):∃t∈vP,t.a=a∧fnOf t=f:=oG (cC.mp (aJ7 q)) λt ht q=>⟨t,ht,congrArg ava q,congrArg Prod.snd q⟩
def a99 (e:Hd h):az9 (cx w h N) where
 fns:=λa f q=>by obtain⟨t,ht,rfl,rfl⟩:=YG q;exact exX (e.fnR (.tail _ ht)) λo fd r=>⟨o,fd,_,_,JN e ht r⟩
 qR:= .of_ok e.bb.b8
end
end
section
section
def ao7 (q:gl.bW c x=aa g):(c,x,g)∈yr:=by obtain⟨p,hp,rfl⟩:=cR.mp q;have h1:=j8 (aon (p:=λq:aV×aJ×aV=>q.1==c&&q.2.1==x) hp);exact wj (gM h1.1) (wj (gM h1.2) (mJ hp))
def akh:(yr.all λq=>LC.contains q.1)=au:=rfl
def af7 {p:aV->Prop}(h1:p 286)(h2:p 370)(h3:p 182):∀c∈LC,p c:=q9 h1 (q9 h2 (q9 h3 J4))
def av5 (q:gl.bW c x=aa g):c∈LC:=cJ.mp (bj.mp akh _ (ao7 q))
def aj4 (q:(gl.bW c "__init__").isSome=au):c∈LC:=(bT.mp q).elim λU q=>av5 q
def Py.dict (r:Py h c x m):RM (mq h) c=au:=by obtain⟨cd,h1,_,_,h4⟩:=r.is;delta RM;exact aO h1 h4
def aOf (e:Hd h):N7 (cx w h N) where
 mro:=gM (e.bb.b0)
 seq:=e.bb.b2
 get:=(e.yc _ (.head _):)
 set:=(e.yc _ (.tail _ (.head _)):)
 app:=(e.yc _ (rz 2 rfl):)
 ga:=(e.yc _ (rz 3 rfl):)
 Ux:=(e.yc _ (rz 4 rfl):)
 iter:=(e.yc _ (rz 5 rfl):)
def CT (e:Hd h):Fv (cx w h N) where
 hasDict:=λc q=>af7 (p:=λc=>RM (mq h) c=au) e.cc.c0.dict e.cc.c1.dict e.cc.c2.dict c (aj4 q)
 get:=λc q=>af7 (p:=λc=>∀J:c≠370,gn (mq h) (.ref c) "__getattribute__"=aa (aa (.builtin "object.__getattribute__"))) (λU=>(e.yc _ (rz 6 rfl):)) (λz=>absurd rfl z) (λU=>(e.yc _ (rz 7 rfl):)) c (aj4 q)
 set:=λc q=>af7 (p:=λc=>gn (mq h) (.ref c) "__setattr__"=aa (aa (.builtin "object.__setattr__"))) ((e.yc _ (rz 10 rfl):)) ((e.yc _ (rz 11 rfl):)) ((e.yc _ (rz 12 rfl):)) c (aj4 q)
 over:=λc q=>af7 (p:=λc=>∃cd,Hv (mq h) c=aa cd∧(onlyObject cd.mro=au∨cd.mro= [.ref c,.type "list",.type "object"])) (e.cc.c0.is.elim λcd z=>⟨cd,z.1,.inl (z.2.2.1▸rfl)⟩) (e.cc.c1.is.elim λcd z=>⟨cd,z.1,.inr z.2.2.1⟩) (e.cc.c2.is.elim λcd z=>⟨cd,z.1,.inl (z.2.2.1▸rfl)⟩) c (aj4 q)
 attr:=λc q n hn=>e.attr c (aj4 q) n (cJ.mp hn)
def aki:(yr.all λq=>(YD.lookup q.2.2).isSome)=au:=rfl
structure FnK (h:bM)(g:aV):Prop where
 fn:fnIn (mq h) g=au
 ty:sI (mq h) (.ref g)=aa (.type "function")
 get:wZ (mq h) (.ref g) "__get__"=aa (aa (.builtin "function.__get__"))
 tk:adp (mq h) (.ref g)=aa aC
def YH (z:(fnIn (mq h) g,sI (mq h) (.ref g),wZ (mq h) (.ref g) "__get__",adp (mq h) (.ref g))=(au,aa (.type "function"),aa (aa (.builtin "function.__get__")),aa aC)):FnK h g:=
 have b:=lJ (lJ z).2
 ⟨(lJ z).1,b.1,(lJ b.2).1,(lJ b.2).2⟩
def fnK (e:Hd h)(q:gl.bW c x=aa g):FnK h g:=YH (e.LQ g (qe _ (cC.mpr ⟨_,ao7 q,rfl⟩)))
def YJ:(jV "list.__getattribute__"=="object.__getattribute__")=au:=by decide+kernel
def aT1:(jV "object.__getattribute__"=="object.__getattribute__")=au:=by decide+kernel
def azu (e:Hd h):O9 (cx w h N) where
 bW:=λc x g q=>⟨e.mth _ (ao7 q),(fnK e q).ty,bj.mp aki _ (ao7 q)⟩
 get:=λc x g q=>af7 (p:=λc=>(∃ga,gn (mq h) (.ref c) "__getattribute__"=aa (aa (.builtin ga))∧jV ga="object.__getattribute__")∧gn (mq h) (.ref c) "__getattr__"=aa aB)
  ⟨⟨_,(e.yc _ (rz 6 rfl):),gM aT1⟩,(e.yc _ (rz 8 rfl):)⟩ ⟨⟨_,(e.yc _ (rz 3 rfl):),gM YJ⟩,(e.yc _ (rz 4 rfl):)⟩ ⟨⟨_,(e.yc _ (rz 7 rfl):),gM aT1⟩,(e.yc _ (rz 9 rfl):)⟩ c (av5 q)
def azv (e:Hd h):ag8 (cx w h N):=⟨λc q=>af7 (p:=λc=>Hx (mq h) c=au) (e.bb.b1) (e.bb.b2) (e.bb.b3) c (aj4 q)⟩
def aAb (e:Hd h):Wx (cx w h N) where
 acc:=e.bb.b5
 makes:=λc g q=>af7 (p:=λc=>∀J:c≠370,zy (mq h) c=au) (λU=>e.bb.b4) (λz=>absurd rfl z) (λU=>e.bb.b6) c (av5 q)
 keep:=λc g q=>keeps_K (af7 (p:=λc=>Hy (mq h) (.ref c)=au) (e.bb.b9) (e.bb.b10) (e.bb.b11) c (av5 q)) _ (Io _ _)
def akj:(yr.all λq=> !copiedNames.contains q.2.1)=au:=rfl
def azw (e:Hd h):Gi (cx w h N) where
 fn:=λc x g q=>⟨(fnK e q).fn,(fnK e q).get,(fnK e q).tk⟩
 name:=λx g q=>N8 (bj.mp akj _ (ao7 q))
def aOg (e:Hd h):XX (cx w h N) where
 sys:=bT.mp (congrArg xZ.one e.obs)
 re:=λa bad q=>by
  have q:(if a=48 then aa RE.jY else if a=53 then aa RE.jz else aB)=aa bad:=q;by_cases h1:a=48
  ·subst h1
   obtain rfl:=ak ((bN rfl).symm.trans q);exact⟨RE.uo,11,⟨_,_,_,_,_,_,e.objs _ (.tail _ (.head _)),rfl,rfl,rfl,rfl,rfl,rfl,e.objs _ (.head _),rfl,by kernel_rfl⟩,RE.Pu,RE.CV⟩
  ·rw[bk h1]at q
   by_cases h2:a=53
   ·subst h2
    obtain rfl:=ak ((bN rfl).symm.trans q);exact⟨RE.mU,15,⟨_,_,_,_,_,_,e.objs _ (rz 3 rfl),rfl,rfl,rfl,rfl,rfl,rfl,e.objs _ (rz 2 rfl),rfl,by kernel_rfl⟩,RE.Yz,RE.Gn⟩
   ·replace q:=(bk h2)▸q;exact iz q
def YK (q:Ti (mq h) x=aa u):Bl (cx w h N) x u:=by
 delta Ti at q;cases h1:ado (mq h) bY x with
 | none=>replace q:=h1▸q;exact iz q
 | some o=>
  replace q:=h1▸q;cases o with
  | some u'=>cases q;exact .inl h1
  | none=>
   cases h2:ado (mq h) dJ x with
   | none=>replace q:=h2▸q;exact iz q
   | some o=>
    replace q:=h2▸q;cases o with
    | none=>exact iz q
    | some u'=>cases q;exact .inr ⟨h1,h2⟩
def aOh (e:Hd h):Z6 (cx w h N) where
 glob:=λx v q=>by obtain⟨u,h1,rfl⟩:=cR.mp q;exact⟨u,YK (e.gl _ (mem_of_lookup h1)),λU U=>rfl⟩
 Bh:=YK (e.gl _ (.head _):)
 za:=YK (e.gl _ (.tail _ (.head _)):)
 zip:=YK (e.gl _ (rz 2 rfl):)
 str:=YK (e.gl _ (rz 3 rfl):)
 sup:=YK (e.gl _ (rz 4 rfl):)
 ve:=YK (e.gl _ (rz 5 rfl):)
 te:=YK (e.gl _ (rz 6 rfl):)
def arp (t:FT):Bool:= !(kdOf (R6 t) "__class__"==aa .free) || (t.cc&&((Gp t).posonlyargs++(Gp t).args).head?.map (·.arg)==aa "self")
def akk:vP.all arp=au:=rfl
def YL:(pw.main.scope.names.lookup ("super":aJ)).isSome=aC:=rfl
def aOi (e:Hd h):Pb (cx w h N) where
 opq:=congrArg (λo:xZ=>o.ns.getD 0 aB) e.obs
 cls:=e.cc.c1.is.imp λcd z=>⟨z.1,z.2.1,z.2.2.1⟩
 typ:=by exact oG (cR.mp (e.Tj 370 (.tail _ (.head _)))) λo h1 h2=>⟨o,h1,h2⟩
 at_:=λa f q o fd ho hd hk=>by
  refine uG λY Z=> ?_;obtain⟨t,ht,rfl,rfl⟩:=YG q;refine Z ?_;refine exX (e.fnR (.tail _ ht)) λo' fd' r=> ?_;obtain rfl:=ak (r.obj.symm.trans ho);obtain rfl:fd'=fd:=by have z:=r.data.symm.trans hd;cases z;rfl
  have h1:=bj.mp akk t ht;unfold arp at h1;rw[r.Ea]at hk;rw[hk]at h1;have h1:=j8 h1;refine oG (cR.mp (gM h1.2)) λar h2 h3=> ?_;refine uG λY Z=> ?_;obtain⟨oc,vs,tk,tf,g1,g2,g3,g4⟩:=(YC (e.cds t (.tail _ ht))).is;exact Z ⟨ar,t.code,oc,vs,tf,294,_,r.par▸h2,h3,r.code,g1,g2,g4,r.zm.trans (by refine aO h1.1 ?_;rfl),e.objs _ (rz 8 rfl),rfl⟩
 top:=YL
end
end
section
noncomputable def Ro:List pK->jK
 | [.Return (aa (.Call _ (.GeneratorExp _ _ sc _::_) _ _)) _]=>sc
 | _=>⟨.function, [],aC,aC, []⟩
def aAc:Yi (Ro (V4 Fe)) (V4 Fe):= .mk _ _ _ _ _ _ _ _ _ _ _ _ _ _ _ _ _ _
def aAd:Yj (Ro (V4 Fg)) (V4 Fg):= .mk _ _ _ _ _ _ _ _ _ _ _ _ _ _ _ _ _ rfl rfl
abbrev YM (sc:jK):Bool:= !sc.isCoroutine&&(sc.kind== .function&&(sc.names.all (λy=>y.2 != .cell)&&(kdOf sc ".0"==aa .local&&(kdOf sc "fws"==aa .local&&kdOf sc "part"==aa .local))))
def akl:YM (Ro (V4 Fe))=au:=rfl
def akm:YM (Ro (V4 Fg))=au:=rfl
def akn (cs:List (aJ×aV)):H6 cs (Ro (V4 Fe)).names []= []:=rfl
def ako (cs:List (aJ×aV)):H6 cs (Ro (V4 Fg)).names []= []:=rfl
def akp:((Ro (V4 Fe)).names.all λy=>y.2 != .free)=au:=rfl
def akq:((Ro (V4 Fg)).names.all λy=>y.2 != .free)=au:=rfl
def aT2 (h:YM sc=au)(hn:(sc.names.all λy=>y.2 != .free)=au)(hf:∀cs,H6 cs sc.names []= []):Jw sc:=
 have h3:=j8 (j8 (j8 h).2).2
 ⟨N8 (j8 h).1,gM (j8 (j8 h).2).1,λenv=>(au7 λx hx=>absurd rfl (ah4 (bj.mp hn _ hx))).trans (by rw[hf]),λy hy=>ah4 (bj.mp h3.1 y hy),gM (j8 h3.2).1,gM (j8 (j8 h3.2).2).1,gM (j8 (j8 h3.2).2).2⟩
section
variable {h:bM}
def aJ8 (e:Hd h):∃mg bm ob,(base h).Ns bY mg∧mg "__builtins__"=aa (.ref bm)∧bm≠dJ∧bm≠bY∧(base h).get? bm=aa ob∧ob.cls= .type "module" ∧ob.dict=aa dJ∧ob.data= .plain:=
 ⟨_,4,_,.of_isNs e.bb.b7,congrArg xZ.bm e.obs,by decide,by decide,e.objs _ (rz 4 rfl),rfl,rfl,rfl⟩
def aE9 (ha:a∈Lz):(base h).get? a=aB:=by delta base;exact pW _ (qe _ ha)
def azx (hP:h.get? P=aa (nW ps))(hc:o.cls= .type "code")(e:h.get? b=aa o):b≠P:=λq=>by simp only[q,hP]at e;cases e;cases hc
def W8.arq (hQ:h.get? Q=aa (nW ps))(vg:P≠Q)(k:∀b o,∀J:b≠Q,∀J:h.get? b=aa o,h'.get? b=aa o):∀J:W8 P q h,W8 P q h':=by rintro⟨ps,hP,ht,hc⟩;exact .mk ps (k _ _ vg hP) ht λpos cv e=>(hc pos cv e).keeps λb o hc e=>k b o (azx hQ hc e) e
def V8.at:∀J:V8 P h h',∃ps,h.get? P=aa (nW ps):=by rintro⟨ps,_,hP,_,_⟩;exact⟨ps,hP⟩
def akr (x:TabsOk h)(k:∀b o,∀J:b≠332,∀J:h.get? b=aa o,h'.get? b=aa o)(u:V8 332 h h'):TabsOk h':=
 u.at.elim λps hP=>⟨.of u,x.str.keeps λo=>k 339 o (by decide),x.lam.arq hP (by decide) k⟩
def aks (x:TabsOk h)(k:∀b o,∀J:b≠339,∀J:h.get? b=aa o,h'.get? b=aa o)(u:V8 339 h h'):TabsOk h':=
 u.at.elim λps hP=>⟨x.len.keeps λo=>k 332 o (by decide),.of u,x.lam.arq hP (by decide) k⟩
def sX.at:∀J:sX P h,∃ps,h.get? P=aa (nW ps)∧nM ps.toList:=by rintro⟨ps,hP,ht⟩;exact⟨ps,hP,ht⟩
def azy (e:Hd h):ao5 (cx w h N) 336 332 where
 tab:= .head _
 gP:=aE9 (.head _)
 hd:=⟨_,_,_,_,_,_,_,_,_,e.objs _ (rz 5 rfl),rfl,rfl,rfl,rfl,rfl,rfl,rfl,rfl,by decide⟩
 at_:=λh x=>x.len.at
 put:=λh h'=>akr
 bare:=λg=>Iff.rfl
 qR:= .of_ok e.bb.b8
 main:=aJ8 e
def strTab (e:Hd h):ao5 (cx w h N) 343 339 where
 tab:= .tail _ (.head _)
 gP:=aE9 (.tail _ (.head _))
 hd:=⟨_,_,_,_,_,_,_,_,_,e.objs _ (rz 6 rfl),rfl,rfl,rfl,rfl,rfl,rfl,rfl,rfl,by decide⟩
 at_:=λh x=>x.str.at
 put:=λh h'=>aks
 bare:=λg=>Iff.rfl
 qR:= .of_ok e.bb.b8
 main:=aJ8 e
def m11:Fe∈vP:=rz 11 rfl
def m12:Fg∈vP:=rz 12 rfl
def YQ (e:Hd h)(ht:t∈vP)(hp:t.P= [("self":aJ)])(hw:t.W= [])(hk:t.kx=aB)(hc:t.cl= [])(hs:(1, [])∈t.shapes):aG6 (cx w h N) t.a t.code (V4 t) (kdOf (R6 t)):=exX (e.fnR (.tail _ ht)) λo fd r=>⟨fnOf t,o,fd,t.dv,JN e ht r,hp,hw,hk,hc,hs,r.code,aO r.Ea rfl⟩
def kd_len:(kdOf (R6 Fe) "self"==aa .local&&kdOf (R6 Fe) "sum"==aa .globalImplicit&&kdOf (Ro (V4 Fe)) "len"==aa .globalImplicit)=au:=rfl
def YS:(kdOf (R6 Fg) "self"==aa .local&&kdOf (R6 Fg) "EMPTYSTRING"==aa .globalImplicit&&kdOf (Ro (V4 Fg)) "EMPTYSTRING"==aa .globalImplicit)=au:=rfl
def azz (e:Hd h):aG7 (cx w h N) 337 336 332 (V4 Fe) (kdOf (R6 Fe)) (Ro (V4 Fe)):=
 have h2:=j8 (j8 kd_len).1
 ⟨azy e,YQ e m11 rfl rfl rfl rfl (.head _),aT2 akl akp akn,gM (j8 kd_len).2,gM h2.1,gM h2.2,YK (e.gl _ (rz 7 rfl):),YK (e.gl _ (rz 8 rfl):),aAc⟩
def a0a (e:Hd h):∃t,Bl (cx w h N) "EMPTYSTRING" (.str "" t):=by
 refine oG (iM.mp (congrArg xZ.em e.obs)) λu h1 h2=> ?_;cases u with
 | str s t=>obtain rfl:s="":=ak h2;exact⟨t,YK h1⟩
 | _=>exact iz h2
def a0b (e:Hd h):Gk (cx w h N) 344 343 339 (V4 Fg) (kdOf (R6 Fg)) (Ro (V4 Fg)):=
 have h2:=j8 (j8 YS).1
 ⟨strTab e,YQ e m12 rfl rfl rfl rfl (.head _),aT2 akm akq ako,gM (j8 YS).2,gM h2.1,gM h2.2,a0a e,aAd⟩
def tyK (e:Hd h)(hg:g∈([337,344]:List aV)):sI (mq h) (.ref g)=aa (.type "function"):=(YH (e.LQ g (fZ _ hg))).ty
def akt (e:Hd h):aB1 (cx w h N) where
 bool:=(e.yc _ (rz 13 rfl):)
 len:=⟨337,336,332,_,_,_,(e.yc _ (rz 14 rfl):),tyK e (.head _),azz e⟩
 str:=⟨344,343,339,_,_,_,(e.yc _ (rz 15 rfl):),tyK e (.tail _ (.head _)),a0b e⟩
def aOl (e:Hd h):ajf (cx w h N) (av4 N) 437 435 Px where
 env:=λenv x=>⟨x.cells,x.code,x.qual⟩
 hd:=⟨_,_,_,_,_,_,_,_,_,e.objs _ (rz 7 rfl),rfl,rfl,rfl,rfl,rfl,rfl,rfl,rfl,by decide⟩
 tab:= .tail _ (.tail _ (.head _))
 gP:=aE9 (.tail _ (.tail _ (.head _)))
 tabs:=λh x=>x.lam
 put:=λh h' x k u T=>⟨x.len.keeps λo=>k 332 o (by decide),x.str.keeps λo=>k 339 o (by decide),T⟩
 lam:=rfl
 a8z:=rfl
 main:=aJ8 e
def aku (e:Hd h):Given (cx w h N) (av4 N) 437 435 Px where
 acc:=aOf e
 sup:=aOi e
 jq:=aOh e
 CT:=CT e
 defs:=akt e
 fns:=a99 e
 mo:=azu e
 made:=aAb e
 item:=azv e
 jf:=azw e
 re:=aOg e
 lam:=aOl e
end
end
section
inductive Rp (G:Gl)(n:Nat)(lk:List Nat):List t6->St->Prop
 | ret {ms:t6} {r:List t6} {σ jH:St} (e:ik G n lk ms σ=aa (.ok (.ret (.bool au)),jH)):Rp G n lk (ms::r) σ
 | step {ms:t6} {r:List t6} {σ jH:St} (e:ik G n lk ms σ=aa (.ok .next,jH)) (y:Rp G n lk r jH):Rp G n lk (ms::r) σ
 | gc {r:List t6} {loc cX:j7} {H T:Hp} (f:aJ->Bool) (hl:W6 H.length (loc.filter λp=>f p.1)=au) (hc:W6 H.length cX=au) (hH:H9 H.length H=au) (y:Rp G n lk r ⟨loc.filter λp=>f p.1,cX,H⟩):Rp G n lk r ⟨loc,cX,H++T⟩
structure An (Γ:Cx)(lk:List Nat)(aU:aW)(ρ:fj)(s:aW):Prop where
 keep:∀b o,∀J:aU.heap.get? b=aa o,∀J:b∉Γ.tabs,s.heap.get? b=aa o
 live:R5 aU.heap s.heap
 os:s.os=aU.os
 nw:∀(i:Nat) r,∀J:ρ[i]?=aa r,∀J:i∉lk,∀b∈r,aU.heap.get? b=aB
section
def An.ext (O:An Γ lk aU ρ s)(x:Ext Γ (n6 l) (vV Γ k lk ρ env) ρ s fK s')(fs:∀b∈n6 l,aU.heap.get? b=aB)(own:∀c,∀J:(c=env.locals∨∃x,k x=aa .cell∧env.cells.lookup x=aa c),aU.heap.get? c=aB):An Γ lk aU fK s' where
 keep:=λb o e ht=>x.vf.keep b o (O.keep b o e ht) (λq=>by
  rcases q with(q | ⟨i,r,h1,h2,h3⟩) | q
  ·exact ht q
  ·exact iz ((O.nw i r h1 h3 b h2).symm.trans e)
  ·exact iz ((own b q).symm.trans e)) λq=>iz ((fs b q).symm.trans e)
 live:=O.live.trans x.live
 os:=x.os.trans O.os
 nw:=λi r e hi b hb=>by
  obtain⟨τ,rfl,hn⟩:=x.grow.more;by_cases q:i<ρ.length
  ·rw[gC q]at e
   exact O.nw i r e hi b hb
  ·rw[dN (cV q)]at e
   exact O.live.none (hn b (cM.mpr ⟨r,bV e,hb⟩))
def An.gc (O:An Γ lk aU ρ s):An Γ lk aU (ρ.take m) s where
 keep:=O.keep
 live:=O.live
 os:=O.os
 nw:=λi r e=>O.nw i r (by rw[←e,Bw];exact aM (aL.mp e).1 (QX _ _))
def akv (Sp:Ji Γ n a fd body)(ih:yx Γ n)(O:v8 Γ (kdOf fd.scope) env)(W:Own (kdOf fd.scope) env l)(T:AtF a fd env)(ao:jy A l n)
  (fs:∀b∈n6 l,aU.heap.get? b=aB) (own:Wg fd aU.heap env) (fin:∀H fK s',∀J:SR Γ fK H s',∀J:An Γ lk aU fK s',Q (.ret (.bool au)) s'):
  ∀{ms:List t6}{σ:St},∀J:Rp Γ.G n lk ms σ,∀{sts:List pK}{ρ:fj}{s:aW},∀J:TP kf (kdOf fd.scope) sts=ms,∀J:SR Γ ρ σ.hp s,∀J:FR Γ l ρ s.heap env σ.loc σ.cX,∀J:An Γ lk aU ρ s,_root_.PySem.wpAt Γ.M A (.func body env) (aop sts env) Q E s:=λ{ms σ} y=>by
 have one:∀{ms:t6}{r:List t6}{σ:St}{sts:List pK}{ρ:fj}{s:aW},∀J:TP kf (kdOf fd.scope) sts=ms::r,∀J:SR Γ ρ σ.hp s,∀J:FR Γ l ρ s.heap env σ.loc σ.cX,∃st aAe,sts=st::aAe∧TP kf (kdOf fd.scope) aAe=r∧
   I8 Γ (kdOf fd.scope) l env lk ρ s (ik Γ.G n lk ms σ) (λQ E=>_root_.PySem.wpAt Γ.M A (.func body env) (adw st env) Q E s) (zg Γ):=λ{ms r σ sts ρ s} e S F=>by
  cases sts with
  | nil=>exact nxC e
  | cons st sts=>
   refine oG (aM6 (kf:=kf) (k:=kdOf fd.scope) (st:=st) (sts:=sts)) λms' e' h=> ?_;rw[e']at e;obtain⟨rfl,rfl⟩:=bL e;refine⟨st,sts,rfl,rfl, ?_⟩;rcases h with rfl | h
   ·exact(ih kf _ st env l A lk σ ρ s O W ao S F).of λQ E w=>qw w
   ·exact Sp st _ h env l A lk σ ρ s O W T ao S F
 induction y with
 | ret e=>
  intro sts ρ s hb S F D;obtain⟨st,sts,rfl,hb,h⟩:=one hb S F;refine yL (h _ _ e _ _ λfK s' u x S' F' r=> ?_);obtain⟨w,hw⟩:=r;obtain rfl:w= .bool au:=hw;exact fin _ _ _ S' (D.ext x fs own)
 | step e y ihy=>
  intro sts ρ s hb S F D;obtain⟨st,sts,rfl,hb,h⟩:=one hb S F;refine yL (h _ _ e _ _ λfK s' u x S' F' r=> ?_);obtain rfl:u= .next:=r;exact ihy hb S' F' (D.ext x fs own)
 | gc f hl hc hH y ihy=>exact λhb S F D=>ihy hb (S.gc hH) (F.gc f hl hc) D.gc
end
end
section
def an3:List t6:=TP 40 (kdOf (R6 Q6)) (V4 Q6)
def aB3 (ns:List Int):St:=⟨[], [("script",.ref 0)], [.list (ns.map .int)]⟩
def aAf:u9 Q6 (1, []):=λu0=>(λS hs q=>by kernel_rfl:z6 Q6 1 [] [u0] [])
theorem YT:∀{l:List ou}{n i:Nat}{o:ou},∀J:noL n l=au,∀J:l[i]?=aa o,∀J:isL o.cls=au,awh.contains (n+i)=au
 | [],_,_,_,_,e,_=>iz e
 | a::l,n,0,o,h,e,c=>by obtain rfl:=ak e;exact(fY.mp (j8 h).1).elim (λz=>qI ((N8 z).symm.trans c)) id
 | a::l,n,i+1,o,h,e,c=>by have:=YT (j8 h).2 e c;rw[iH,dH 1 i]at this;exact this
def YW {h:bM}(e:h.get? a=aa o):h.objs.toList[a]?=aa o:=by refine aO (cz) ?_;exact(Heap.get?_some_iff.mp e).1
section
variable {aU:aW}{vs:List aD}
def YX (e:Hd h)(kp:∀b o,∀J:h.get? b=aa o,aU.heap.get? b=aa o)(ha:aU.heap.get? zp=aa {cls:= .type "list",data:= .seq vs.toArray}):(base h).get? zp=aB:=by
 cases q:(base h).get? zp with
 | none=>rfl
 | some o=>
  unfold base at q;obtain rfl:=ak ((kp _ _ (iR _ q)).symm.trans ha);have:=YT (congrArg xZ.nl e.obs) (YW (iR _ q)) rfl;rw[jd]at this;exact iz ((pW _ (fZ Lz (cJ.mp this))).symm.trans q)
def aJ9 (e:(base h).get? a=aa o):h.get? a=aa o:=by unfold base at e;exact iR _ e
def a0c:(kdOf (R6 Q6) "__class__"==aa .free)=aC:=rfl
abbrev scr:j7:= [("script",.ref 0)]
def akx:(scr.filter λp=> !(fnOf Q6).cells.contains p.1)= []:=rfl
def aky:(scr.filter λp=>(fnOf Q6).cells.contains p.1)=scr:=rfl
inductive av6:List Int->List aD->Prop
 | nil:av6 [] []
 | cons (i:Int) (t:RG) (l:List Int) (us:List aD) (h:av6 l us):av6 (i::l) (.int i t::us)
theorem av6.vrs:∀{l:List Int}{us:List aD},∀J:av6 l us,gD Γ ρ h (l.map .int) us:=by
 intro l us zz;cases zz with
 | nil=>
  exact rfl
 | cons i t l us h=>
  exact .mk _ us ⟨t⟩ h.vrs
def akz:jy callerA [] 101:=⟨rfl,rfl,by decide,by decide⟩
def YZ (e:Hd h)(kp:∀b o,∀J:h.get? b=aa o,aU.heap.get? b=aa o)(hg:aea aU.gens)(ha:aU.heap.get? zp=aa {cls:= .type "list",data:= .seq vs.toArray})(hv:av6 ns vs)(hz:ns.length≤16777216)
  (y:Rp gl 100 [0] an3 (aB3 ns)) (fin:∀H fK s',∀J:SR (cx w h aU.heap.objs.size) fK H s',∀J:An (cx w h aU.heap.objs.size) [0] aU fK s',Q (.bool au) s'):aP (iG pw w) callerA (call (.ref 438) [.ref zp] []) Q E aU:=by
 refine exX (e.fnR (.head _)) λo fd r=> ?_;have c:=Gq (.head _);have F:FrmOk (cx w h aU.heap.objs.size) (fnOf Q6) fd:=YF e c r;have kb:∀b o,∀J:(base h).get? b=aa o,aU.heap.get? b=aa o:=λb o q=>kp b o (aJ9 q);have tb:∀t∈Lz,aU.heap.get? t=aa (nW #[]):=λt ht=>kp _ _ (e.tb t ht);have S:SR (cx w h aU.heap.objs.size) [[zp]] [.list (ns.map .int)] aU:=
  {len:=rfl
   nodup:=gw.mpr ⟨λz=>(zZ z),List.nodup_nil⟩
   objs:=λi o q=>by
    cases i with
    | zero=>
     obtain rfl:=ak q;exact⟨[zp],rfl,.mk zp vs.toArray 0 ha hv.vrs (by rw[aF];exact hz)⟩
    | succ i=>exact iz q
   base:=kb
   apart:=λb hb=>(aH.mp hb).symm▸YX e kp ha
   mz:=λb hb ht=>by obtain rfl:b=zp:=aH.mp hb;exact nomatch ha.symm.trans (tb b ht)
   gens:=hg
   tabs:=⟨.mk _ (tb 332 (.head _)) trivial,.mk _ (tb 339 (.tail _ (.head _))) trivial,.mk _ (tb 435 (.tail _ (.tail _ (.head _)))) trivial λpos cv q=>iz q⟩}
 refine ab9 (vY (by decide) (kb _ _ r.obj) r.data (r.Ea▸c.co) (r.Ea▸c.gen) r.body ((JM e (.head _) r).keeps kb) (JL e (.head _) r aAf (mG:= []) rfl rfl rfl kb ?_));refine au5 (b:=scr) F S (λU q=>zZ q) (.mk _ [] (.mk zp [] rfl) rfl) rfl (λq=>⟨r.zm,⟨?_,r.code, ?_⟩⟩) λenv bK D=>⟨(Heap.NoLimit.of_ok e.bb.b8).keeps D.S.base,ks_codeAny_funcAt ?_⟩
 ·show dX _ fd.scope.names []=_
  refine aO r.Ea ?_;rfl
 ·show(fd.qualname++".<locals>.")++"<lambda>"=Px
  refine aO r.qual ?_;decide
 ·have xx:=D.x λU=>False
  refine akv (λst ms q=> ?_) (sound (aku e) 100).s D.O D.W D.T akz.deeper (λb hb=> ?_) D.new (λH fK s' S' O'=>fin H fK s' S' O') y (by refine aO r.Ea ?_;rfl) D.S (by have F:=D.F;simp only[akx,aky]at F;exact F) ⟨λb o q hb=>xx.vf.keep b o q id λz=>(zZ z),xx.live,xx.os,λi r q hi b hb=> ?_⟩
  ·have no:kdOf fd.scope "__class__" ≠aa .free:=λz=>by
    have:=a0c;rw[←r.Ea,z]at this;exact absurd this (by decide)
   cases st with
   | Expr ee p=>
    exact j5 q λx hx U=>(absurd (aq4 hx).cls no)
   | Return oo p=>
    exact j5 q λee U q=>(j5 q λx hx U=>(absurd (aq4 hx).cls no))
   | _=>exact iz q
  ·rw[ar7 D.W.frame]at hb
   exact(bc.mp hb).elim (λz=>D.new b (.inl z)) λz=>(zZ z)
  ·cases i with
   | zero=>exact absurd (.head _) hi
   | succ i=>exact iz q
end
end
def aN7 (hw:Eu P h vals args):∀d r,∀J:args=d::r,∃v vs,vals=v::vs∧Well P h v d∧Eu P h vs r:=by
 cases hw with
 | nil=>intro d r e;exact nxC e
 | cons hx hs=>intro d r e;obtain⟨rfl,rfl⟩:=bL e;exact⟨_,_,rfl,hx,hs⟩
def aT3 (hw:Eu P h vals args):∀J:args= [],vals= []:=by
 cases hw with
 | nil=>exact λU=>rfl
 | cons hx hs=>intro e;exact nxD e
def Pz (hw:Well P h v d):∀xs,∀J:d= .list xs,∃a vs,v= .ref a∧h.get? a=aa {cls:= .type "list",data:= .seq vs.toArray}∧Eu P h vs xs:=by
 cases hw with
 | list ha hv=>intro xs e;obtain rfl:=WData.list.inj e;exact⟨_,_,rfl,ha,hv⟩
 | _=>intro xs e;cases e
def Za (hw:Well P h v d):∀i,∀J:d= .int i,∃t,v= .int i t:=by
 cases hw with
 | int i t=>intro j e;obtain rfl:=WData.int.inj e;exact⟨t,rfl⟩
 | _=>intro xs e;cases e
def aAg:∀{vs:List aD},∀J:WShape.hasItems [] xs .int=au,∀J:Eu P h vs xs,∃ns:List Int,ns.length=xs.length∧av6 ns vs:=by
 induction xs with
 | nil=>intro vs _ hw;exact⟨[],rfl,aT3 hw rfl▸ .nil⟩
 | cons x xs ih=>
  intro vs c hw;obtain⟨i,rfl⟩:=hasW_int (j8 c).1;obtain⟨v,us,rfl,hx,hs⟩:=aN7 hw _ _ rfl;obtain⟨t,rfl⟩:=Za hx _ rfl;exact oG (ih (j8 c).2 hs) λns h1 h2=>⟨i::ns,congrArg (·+1) h1,.cons i t ns _ h2⟩
def aOo:∀J:WData,Option WData
 | .bool b=>aa (.bool (!b))
 | _=>aB
def idW:∀J:WData,Option WData
 | .bool aC=>aa (.bool aC)
 | .bool au=>aa (.bool au)
 | _=>aB
abbrev Row:=uW
def a0e (p:Row.row.toRowW.pre.holds [] {args:= [.list xs]}=au):xs.length≤63:=by
 have e:Row.row.toRowW.pre.value [] {args:= [.list xs]}=(((less? (.int 63) (.int (xs.length:Int))).map WData.bool).bind aOo).bind idW:=by kernel_rfl
 unfold WTm.holds at p;replace p:=e▸p;replace p:=(show less? (.int 63) (.int (xs.length:Int))=aa (decide ((63:Int)<xs.length)) from by kernel_rfl)▸p;cases q:decide ((63:Int)<xs.length) with
 | true=>replace p:=q▸p;exact qI p
 | false=>exact cV λz=>of_decide_eq_false q (je.mpr z)
def PB:Row.wellSaid=au:=by decide+kernel
def aZ5 {h h':bM}(n:h.isNs bY=au)(kp:∀b o,∀J:h.get? b=aa o,h'.get? b=aa o)(e:h.nsMap bY x=v):h'.nsMap bY x=v:=wj e (wj (((Heap.Ns.of_isNs n).keeps kp).eq_nsMap) rfl)
def a0f (C:∀ns:List Int,∀J:ns.length≤63,Rp gl 100 [0] an3 (aB3 ns)){mg:aJ->Option aD}(e:Hd h)(kp:∀b o,∀J:h.get? b=aa o,aU.heap.get? b=aa o)(hmn:aU.heap.Ns bY mg)(hmg:mg "law"=aa (.ref a))(hg:aU.gens= #[])
  {cl:aJ->Option aV} (a0g:Row.row.toRowW.claim.pre args=au) (hwl:Eu w.params aU.heap vals args):
  aP (iG pw w) callerA (call (.ref a) vals []) (λv s'=>GoodWG Row.row.toRowW.claim cl mean args aU (.ok (.ret v)) s') (λe s'=>GoodWG Row.row.toRowW.claim cl mean args aU (.error e) s') aU:=by
 refine tL (λp1 p2=> ?_) (pre_splitW a0g);obtain⟨d,r,rfl,q1,q2⟩:=hasAllW_cons p1;obtain rfl:=hasAllW_nil q2;obtain⟨xs,rfl,q3⟩:=hasW_list q1;have hlen:=a0e p2;obtain⟨v,us,rfl,hx,hs⟩:=aN7 hwl _ _ rfl;obtain rfl:=aT3 hs rfl;obtain⟨zp,vs,rfl,ha,hv⟩:=Pz hx _ rfl;refine oG (aAg q3 hv) λns h1 h2=> ?_;obtain rfl:a=438:=by rw[hmn.eq_nsMap]at hmg;exact Value.ref.inj (ak (hmg.symm.trans (aZ5 e.bb.b7 (λb o q=>kp b o (aJ9 q)) (congrArg xZ.lw e.obs))))
 replace hlen:=h1▸hlen;refine YZ e kp (AllBare.of_eq hg) ha h2 (aq hlen (by decide)) (C ns hlen) λH fK s' S' O'=>⟨.inl ⟨_,.bool au, [],rfl,λcls=>rfl,.bool au,by kernel_rfl,λU=>⟨.nil,λU q=>zZ q⟩⟩,⟨λb o q=> ?_,O'.live⟩,O'.os,S'.gens⟩;by_cases hb:b∈Lz
 ·obtain rfl:=ak ((kp _ _ (e.tb b hb)).symm.trans q)
  have ct:∀{c:aV}{ps:Array aD}{oc:ou}{vs:Array aD},∀J:(c,oc)∈afz,∀J:oc.cls= .type "code",∀J:oc.data= .fields vs,∀J:vs[11]?=aa (.ref b),∀J:s'.heap.get? b=aa (nW ps),asItWas aU.heap s'.heap b (nW #[]):=λ{c ps oc vs} m1 m2 m3 m4 m5=> .inr (.inl ⟨⟨c,oc,vs,kp _ _ (aJ9 (e.objs _ m1)),m2,m3,m4⟩,rfl, #[],ps,rfl,by refine aO QJ ?_;exact m5⟩);have T:=S'.tabs;rcases bc.mp hb with rfl | hb
  ·exact T.len.casesOn λps hP U=>ct (rz 5 rfl) rfl rfl rfl hP
  rcases bc.mp hb with rfl | hb
  ·exact T.str.casesOn λps hP U=>ct (rz 6 rfl) rfl rfl rfl hP
  ·obtain rfl:=aH.mp hb
   exact T.lam.casesOn λps hP U U=>ct (rz 7 rfl) rfl rfl rfl hP
 ·exact .inl (O'.keep b o q hb)
def aAh (C:∀ns:List Int,∀J:ns.length≤63,Rp gl 100 [0] an3 (aB3 ns)):Row.Holds:=
 holds_law PB λrB=>holds_open (YP:=λU h=>∃h₀,Hd h₀∧∀b o,∀J:h₀.get? b=aa o,h.get? b=aa o)
  hl (λw s e=>⟨s.heap,⟨e⟩,λU U q=>q⟩) (by rintro w h h' ⟨h₀,e,k⟩ k';exact⟨h₀,e,λb o q=>k' _ _ (k _ _ q)⟩) (λs e=>xl_of s (Lq.mp e).1) XL.keeps (by rfl) (by rfl) (by rfl) (λs e=>recFacts_of (Lq.mp e).2) (by rfl) rB (by decide+kernel) ⟨rfl,rfl,rfl,rfl,rfl,by decide+kernel⟩ ⟨[.list []],by decide+kernel,by decide+kernel⟩
  (by rintro w iC aU mg mb G ⟨h₀,e,kp⟩ a o pm cd doc dV kV ho hd Rh hD hmg hg args vals as a0g bdp hrd hwl hlo;exact a0f C e kp G.T.g hmg hg a0g hwl)
end Mine.Internal
end
section
namespace Mine.Internal
open PySem
noncomputable abbrev e_5:j0:= .loc "self"
abbrev e_0:j0:= .attr e_5 "_current_line"
noncomputable abbrev e_1:j0:= .cst (.int 1)
noncomputable abbrev e_69:j0:= .cst (.int 4)
abbrev e_2:j0:= .bin .Mult (.cst (.str "A")) (.bin .Add (.loc "k") e_69)
noncomputable abbrev e_3:j0:= .cst (.int 3)
noncomputable abbrev V3:j0:= .jq "len"
noncomputable abbrev CW:j0:= .loc "name"
abbrev e_4:j0:= .call V3 [CW] [] []
noncomputable abbrev e_6:j0:= .cst (.none)
noncomputable abbrev PJ:j0:= .loc "pair"
noncomputable abbrev W2:j0:= .cst (.int 0)
abbrev e_26:j0:= .call V3 [(.sub PJ W2)] [] []
abbrev e_7:j0:= .bin .Add (.comp PJ PJ (.loc "noted") [(.cmp .NotIn (.bin .Sub e_26 e_69) (.cX "made"))] ["made"]) (.comp (.tup [e_2,(.bin .Add (.call (.jq "chr") [(.bin .Add (.cst (.int 97)) (.sub (.sub (.cX "now") (.loc "k")) W2))] [] []) (.call (.jq "chr") [(.bin .Add (.cst (.int 97)) (.sub (.sub (.cX "now") (.loc "k")) e_1))] [] []))]) (.loc "k") (.cX "made") [] ["now"])
noncomputable abbrev Z7:j0:= .loc "text"
abbrev e_8:j0:= .tup [CW,Z7]
noncomputable abbrev e_9:j0:= .comp (.loc "c") (.loc "c") (.sub (.cX "reads") (.loc "k")) [(.cmp .NotEq (.sub (.cX "old") (.loc "c")) (.sub (.cX "new") (.loc "c")))] ["new","old"]
noncomputable abbrev e_53:j0:= .loc "kind"
noncomputable abbrev e_51:j0:= .cst (.int 10)
abbrev e_12:j0:= .call (.jq "_law_text") [(.bin .Mod (.bin .Sub e_53 e_1) e_51)] [] []
abbrev Rq:j0:= .bin .Add (.loc "k") e_3
abbrev e_14:j0:= .call (.jq "sum") [(.comp (.bin .Mod (.loc "number") (.cst (.int 1000000))) (.loc "number") (.vC (.cX "script") (.loc "k") (.cst (.int 60)) e_51) [] [])] [] []
noncomputable abbrev X7:j0:= .loc "one"
noncomputable abbrev U7:j0:= .loc "cell"
noncomputable abbrev PK:j0:= .cst (.str " ")
abbrev e_17:j0:= .yR .Or [(.bW PK "join" [(.comp Z7 e_8 (.cX "order") [(.cmp .Eq e_4 (.bin .Add (.cX "k") e_1))] ["k"])] [] []),(.cst (.str "o"))]
noncomputable abbrev W3:j0:= .loc "sheet"
abbrev e_19:j0:= .Bh [(.bin .Sub (.bW e_0 "part_count" [] [] []) e_1),W2,(.neg e_1)]
noncomputable abbrev Eb:j0:= .loc "texts"
abbrev e_20:j0:= .call V3 [(.sub Eb X7)] [] []
noncomputable abbrev e_21:j0:= .bin .FloorDiv (.bin .Add (.loc "lo") (.loc "hi")) (.cst (.int 2))
noncomputable abbrev X8:j0:= .loc "order"
noncomputable abbrev Gs:j0:= .loc "other"
abbrev e_23:j0:= .cmp .LtE (.bin .Add (.bin .Add (.loc "used") e_1) (.call V3 [(.sub Eb Gs)] [] [])) (.loc "width")
abbrev e_24:j0:= .bin .Add (.bin .Mod (.cX "cell") e_3) e_1
noncomputable abbrev Rr:j0:= .cst (.str "")
abbrev e_25:j0:= .lst [(.call V3 [(.loc "made")] [] []),(.bin .Add e_1 (.call (.jq "sum") [(.comp (.bin .Add e_4 (.call V3 [Z7] [] [])) e_8 (.loc "made") [] [])] [] [])),(.loc "made"),(.tup [Rr,Rr]),e_1]
abbrev e_27:j0:= .tup [X7,(.loc "two"),(.loc "three"),(.loc "width"),(.loc "head")]
abbrev e_28:j0:= .bin .Add (.bin .Add (.bin .Add CW (.cst (.str ": "))) Z7) (.cst (.str "\r\n"))
abbrev e_29:j0:= .lst [(.bW (.loc "log") "part_count" [] [] []),(.call V3 [(.loc "log")] [] []),(.bW (.loc "log") "pop_from" [] [] []),(.bW (.loc "log") "pop" [] [] []),(.call V3 [(.loc "log")] [] [])]
abbrev e_30:j0:= .attr e_5 "_headers"
abbrev e_31:j0:= .bin .Mult (.cst (.str "a")) (.bin .Add (.loc "k") e_1)
noncomputable abbrev Ec:j0:= .loc "mid"
abbrev e_36:j0:= .za (.tup [e_3,e_1,(.cst (.int 8)),(.cst (.int 1143)),(.cst (.int 843)),(.cst (.int 1739)),(.cst (.int 6035)),(.cst (.int 71)),e_3,(.cst (.int 32))])
abbrev e_38:j0:= .comp (.tup [e_2,(.sub (.cX "new") Rq)]) (.loc "k") (.cX "made") [(.cmp .NotEq (.sub (.cX "old") Rq) (.sub (.cX "new") Rq))] ["new","old"]
abbrev e_40:j0:= .bin .Add (.call (.jq "chr") [(.bin .Add (.cst (.int 97)) X7)] [] []) (.call (.jq "chr") [(.bin .Add (.cst (.int 97)) Gs)] [] [])
abbrev e_43:j0:= .bW (.sub (.loc "kv") W2) "lower" [] [] []
noncomputable abbrev e_44:j0:= .cmp .Lt (.loc "lo") (.loc "hi")
abbrev e_45:j0:= .bin .Mod (.call V3 [(.loc "first")] [] []) (.cst (.int 2))
noncomputable abbrev JP:j0:= .loc "fws"
abbrev e_47:j0:= .call (.jq "_law_read") [W3,(.bin .Mod U7 e_3)] [] []
abbrev e_48:j0:= .bin .Add (.comp PJ PJ X8 [(.cmp .NotIn e_26 (.comp e_4 e_8 (.cX "fresh") [] []))] ["fresh"]) (.cX "fresh")
noncomputable abbrev e_49:j0:= .loc "notes"
noncomputable abbrev e_50:j0:= .loc "rules"
abbrev e_52:j0:= .comp (.loc "k") (.loc "k") (.Bh [e_69]) [(.cmp .NotEq e_9 (.lst []))] ["new","old","reads"]
noncomputable abbrev e_54:j0:= .loc "waits"
abbrev e_55:j0:= .call (.loc "key") [(.sub (.loc "a") Ec)] [] []
noncomputable abbrev e_56:j0:= .loc "rule"
abbrev e_57:j0:= .cmp .NotEq Z7 (.bW W3 "get" [X7] [] [])
abbrev e_58:j0:= .sub (.cst (.str "aA")) (.bin .Mod (.bin .FloorDiv U7 (.cst (.int 60))) (.cst (.int 2)))
abbrev e_59:j0:= .call V3 [X7] [] []
abbrev e_60:j0:= .attr e_5 "_lines"
abbrev e_61:j0:= .cmp .NotEq (.vC e_54 (.loc "place") (.bin .Add (.loc "place") e_1) e_6) (.lst [X7])
abbrev e_62:j0:= .tup [(.loc "k"),U7]
abbrev e_63:j0:= .bin .Add (.bW Rr "join" [(.comp e_28 e_8 X8 [] [])] [] []) (.cst (.str "\r\n"))
abbrev e_64:j0:= .comp PJ PJ X8 [(.cmp .NotEq e_26 (.bin .Add (.cX "place") e_1))] ["place"]
abbrev e_65:j0:= .bin .Add e_3 (.bin .Mod (.bin .FloorDiv U7 (.cst (.int 343))) (.cst (.int 6)))
abbrev e_66:j0:= .comp (.tup [e_2,(.sub (.cX "new") Rq)]) (.loc "k") (.cX "made") [] ["new"]
abbrev e_67:j0:= .cmp .In (.call (.jq "chr") [(.bin .Add (.cst (.int 97)) U7)] [] []) PJ
abbrev e_68:j0:= .attr e_5 "_initial_size"
abbrev e_70:j0:= .bin .Add e_12 (.bin .Mult (.cst (.str "\n")) (.bin .FloorDiv e_53 e_51))
def aOp:Fn:={params:= ["a","x","lo","hi"],dflt:= [("lo",.int 0),("hi",.none),("key",.none)],eN:= ["key"],kwarg:=aB,cells:= [],body:= [.ite (.cmp .Is (.loc "key") e_6) [.asg (.loc "lo") (.call (.jq "bisect_right") [(.loc "a"),(.loc "x"),(.loc "lo"),(.loc "hi")] [] [])] [.asg (.loc "lo") (.call (.jq "bisect_right") [(.loc "a"),(.call (.loc "key") [(.loc "x")] [] []),(.loc "lo"),(.loc "hi")] ["key"] [(.loc "key")])],.expr (.bW (.loc "a") "insert" [(.loc "lo"),(.loc "x")] [] [])],shapes:= [(2, ["key"]),(3, ["key"]),(3, [])]}
def a0h:List t6:= [.asg Ec e_21,.ite (.cmp .Lt (.loc "x") (.sub (.loc "a") Ec)) [.asg (.loc "hi") Ec] [.asg (.loc "lo") (.bin .Add Ec e_1)]]
def Zb:List t6:= [.asg Ec e_21,.ite (.cmp .Lt (.loc "x") e_55) [.asg (.loc "hi") Ec] [.asg (.loc "lo") (.bin .Add Ec e_1)]]
def aOq:Fn:={params:= ["a","x","lo","hi"],dflt:= [("lo",.int 0),("hi",.none),("key",.none)],eN:= ["key"],kwarg:=aB,cells:= [],body:= [.ite (.cmp .Lt (.loc "lo") W2) [.raise "ValueError" "lo must be non-negative"] [],.ite (.cmp .Is (.loc "hi") e_6) [.asg (.loc "hi") (.call V3 [(.loc "a")] [] [])] [],.ite (.cmp .Is (.loc "key") e_6) [.whl e_44 a0h] [.whl e_44 Zb],.ret (.loc "lo")],shapes:= [(4, []),(4, ["key"])]}
def a0i:List t6:= [.asg Ec e_21,.ite (.cmp .Lt (.sub (.loc "a") Ec) (.loc "x")) [.asg (.loc "lo") (.bin .Add Ec e_1)] [.asg (.loc "hi") Ec]]
def Zc:List t6:= [.asg Ec e_21,.ite (.cmp .Lt e_55 (.loc "x")) [.asg (.loc "lo") (.bin .Add Ec e_1)] [.asg (.loc "hi") Ec]]
def aOr:Fn:={params:= ["a","x","lo","hi"],dflt:= [("lo",.int 0),("hi",.none),("key",.none)],eN:= ["key"],kwarg:=aB,cells:= [],body:= [.ite (.cmp .Lt (.loc "lo") W2) [.raise "ValueError" "lo must be non-negative"] [],.ite (.cmp .Is (.loc "hi") e_6) [.asg (.loc "hi") (.call V3 [(.loc "a")] [] [])] [],.ite (.cmp .Is (.loc "key") e_6) [.whl e_44 a0i] [.whl e_44 Zc],.ret (.loc "lo")],shapes:= [(2, ["key"]),(3, ["key"])]}
def aOs:Fn:={params:= ["self","headerlen","maxlen","continuation_ws","splitchars"],dflt:= [],eN:= [],kwarg:=aB,cells:= [],body:= [.asg (.attr e_5 "_maxlen") (.loc "maxlen"),.asg (.attr e_5 "_continuation_ws") (.loc "continuation_ws"),.asg (.attr e_5 "_continuation_ws_len") (.call V3 [(.loc "continuation_ws")] [] []),.asg (.attr e_5 "_splitchars") (.loc "splitchars"),.asg e_60 (.lst []),.asg e_0 (.call (.jq "_Accumulator") [(.loc "headerlen")] [] [])],shapes:= [(5, [])]}
def aOt:Fn:={params:= ["self","linesep"],dflt:= [],eN:= [],kwarg:=aB,cells:= [],body:= [.expr (.bW e_5 "newline" [] [] []),.ret (.bW (.loc "linesep") "join" [e_60] [] [])],shapes:= [(2, [])]}
def aAi:Fn:={params:= ["self"],dflt:= [],eN:= [],kwarg:=aB,cells:= [],body:= [.asg (.loc "end_of_line") (.bW e_0 "pop" [] [] []),.ite (.cmp .NotEq (.loc "end_of_line") (.tup [PK,Rr])) [.expr (.star e_0 "push" (.loc "end_of_line"))] [],.ite (.cmp .Gt (.call V3 [e_0] [] []) W2) [.ite (.yR .And [(.bW e_0 "is_onlyws" [] [] []),e_60]) [.afq e_60 (.neg e_1) .Add (.call (.jq "str") [e_0] [] [])] [.expr (.bW e_60 "append" [(.call (.jq "str") [e_0] [] [])] [] [])]] [],.expr (.bW e_0 "reset" [] [] [])],shapes:= [(1, [])]}
def Gu:List t6:= [.ite (.bW (.loc "ch") "isspace" [] [] []) [.asg JP (.sub (.sub e_0 (.loc "i")) W2),.ite (.yR .And [JP,(.cmp .Eq (.sub JP W2) (.loc "ch"))]) [.brk] []] [],.asg (.loc "prevpart") (.sub (.sub e_0 (.bin .Sub (.loc "i") e_1)) e_1),.ite (.yR .And [(.loc "prevpart"),(.cmp .Eq (.sub (.loc "prevpart") (.neg e_1)) (.loc "ch"))]) [.brk] []]
def Gv:List t6:= [.rA (.loc "i") e_19 Gu [.cont],.brk]
def aOu:Fn:={params:= ["self","fws","string"],dflt:= [],eN:= [],kwarg:=aB,cells:= [],body:= [.expr (.bW e_0 "push" [JP,(.loc "string")] [] []),.ite (.cmp .Gt (.call V3 [e_0] [] []) (.attr e_5 "_maxlen")) [.rA (.loc "ch") (.attr e_5 "_splitchars") Gv [.asg (.tup [JP,(.loc "part")]) (.bW e_0 "pop" [] [] []),.ite (.cmp .Gt (.attr e_0 "_initial_size") W2) [.expr (.bW e_5 "newline" [] [] []),.ite (.not JP) [.asg JP PK] []] [],.expr (.bW e_0 "push" [JP,(.loc "part")] [] []),.ret e_6],.asg (.loc "remainder") (.bW e_0 "pop_from" [(.loc "i")] [] []),.expr (.bW e_60 "append" [(.call (.jq "str") [e_0] [] [])] [] []),.expr (.bW e_0 "reset" [(.loc "remainder")] [] [])] []],shapes:= [(3, [])]}
def aOv:Fn:={params:= ["self","initial_size"],dflt:= [("initial_size",.int 0)],eN:= [],kwarg:=aB,cells:= [],body:= [.asg e_68 (.loc "initial_size"),.expr (.sup "__init__")],shapes:= [(2, [])]}
def aOw:Fn:={params:= ["self","fws","string"],dflt:= [],eN:= [],kwarg:=aB,cells:= [],body:= [.expr (.bW e_5 "append" [(.tup [JP,(.loc "string")])] [] [])],shapes:= [(3, [])]}
def aOx:Fn:={params:= ["self","i"],dflt:= [("i",.int 0)],eN:= [],kwarg:=aB,cells:= [],body:= [.asg (.loc "popped") (.vC e_5 (.loc "i") e_6 e_6),.asg (.vC e_5 (.loc "i") e_6 e_6) (.lst []),.ret (.loc "popped")],shapes:= [(1, []),(2, [])]}
def aOy:Fn:={params:= ["self"],dflt:= [],eN:= [],kwarg:=aB,cells:= [],body:= [.ite (.cmp .Eq (.bW e_5 "part_count" [] [] []) W2) [.ret (.tup [Rr,Rr])] [],.ret (.sup "pop")],shapes:= [(1, [])]}
def aOz:Fn:={params:= ["self"],dflt:= [],eN:= [],kwarg:=aB,cells:= [],body:= [.ret (.call (.jq "sum") [.bad,e_68] [] [])],shapes:= [(1, [])]}
noncomputable def aPa:Fn:={params:= ["self"],dflt:= [],eN:= [],kwarg:=aB,cells:= [],body:= [.ret (.bW (.jq "EMPTYSTRING") "join" [.bad] [] [])],shapes:= [(1, [])]}
def aPb:Fn:={params:= ["self","startval"],dflt:= [("startval",.none)],eN:= [],kwarg:=aB,cells:= [],body:= [.ite (.cmp .Is (.loc "startval") e_6) [.asg (.loc "startval") (.lst [])] [],.asg (.vC e_5 e_6 e_6 e_6) (.loc "startval"),.asg e_68 W2],shapes:= [(1, []),(2, [])]}
def aPc:Fn:={params:= ["self"],dflt:= [],eN:= [],kwarg:=aB,cells:= [],body:= [.ret (.yR .And [(.cmp .Eq e_68 W2),(.yR .Or [(.not e_5),(.bW (.call (.jq "str") [e_5] [] []) "isspace" [] [] [])])])],shapes:= [(1, [])]}
noncomputable def aPd:Fn:={params:= ["self"],dflt:= [],eN:= [],kwarg:=aB,cells:= [],body:= [.ret (.sup "__len__")],shapes:= [(1, [])]}
def ars:List t6:= [.expr (.bW e_5 "_convert_string_type" [(.loc "k")] ["name"] [(.cst (.bool au))]),.expr (.bW e_5 "_convert_string_type" [(.loc "v")] ["name"] [(.cst (.bool aC))])]
def f76:Fn:={params:= ["self","headers"],dflt:= [("headers",.none)],eN:= [],kwarg:=aB,cells:= [],body:= [.asg (.loc "headers") (.ite (.cmp .IsNot (.loc "headers") e_6) (.loc "headers") (.lst [])),.ite (.cmp .IsNot (.call (.jq "type") [(.loc "headers")] [] []) (.jq "list")) [.raise "TypeError" "Headers must be a list of name/value tuples"] [],.asg e_30 (.loc "headers"),.ite (.cst (.bool au)) [.rA (.tup [(.loc "k"),(.loc "v")]) (.loc "headers") ars []] []],shapes:= [(1, []),(2, [])]}
def f83:Fn:={params:= ["self","value"],dflt:= [],eN:= ["name"],kwarg:=aB,cells:= [],body:= [.ite (.cmp .Is (.call (.jq "type") [(.loc "value")] [] []) (.jq "str")) [.asg (.loc "regex") (.ite CW (.jq "_name_disallowed_re") (.jq "_value_disallowed_re")),.ite (.bW (.loc "regex") "search" [(.loc "value")] [] []) [.raise "ValueError" "Control characters not allowed in headers"] [],.ret (.loc "value")] [],.bad],shapes:= [(2, ["name"])]}
def f90:Fn:={params:= ["self"],dflt:= [],eN:= [],kwarg:=aB,cells:= [],body:= [.ret (.call V3 [e_30] [] [])],shapes:= [(1, [])]}
def f97:Fn:={params:= ["self","name","val"],dflt:= [],eN:= [],kwarg:=aB,cells:= [],body:= [.del e_5 CW,.expr (.bW e_30 "append" [(.tup [(.bW e_5 "_convert_string_type" [CW] ["name"] [(.cst (.bool au))]),(.bW e_5 "_convert_string_type" [(.loc "val")] ["name"] [(.cst (.bool aC))])])] [] [])],shapes:= [(3, [])]}
def aPe:Fn:={params:= ["self","name"],dflt:= [],eN:= [],kwarg:=aB,cells:= ["name"],body:= [.asg (.cX "name") (.bW e_5 "_convert_string_type" [(.bW (.cX "name") "lower" [] [] [])] ["name"] [(.cst (.bool au))]),.asg (.vC e_30 e_6 e_6 e_6) (.comp (.loc "kv") (.loc "kv") e_30 [(.cmp .NotEq e_43 (.cX "name"))] ["name"])],shapes:= [(2, [])]}
def aPf:Fn:={params:= ["self","name"],dflt:= [],eN:= [],kwarg:=aB,cells:= [],body:= [.ret (.cmp .IsNot (.bW e_5 "get" [CW] [] []) e_6)],shapes:= [(2, [])]}
def aPg:Fn:={params:= ["self","name"],dflt:= [],eN:= [],kwarg:=aB,cells:= ["name"],body:= [.asg (.cX "name") (.bW e_5 "_convert_string_type" [(.bW (.cX "name") "lower" [] [] [])] ["name"] [(.cst (.bool au))]),.ret (.comp (.sub (.loc "kv") e_1) (.loc "kv") e_30 [(.cmp .Eq e_43 (.cX "name"))] ["name"])],shapes:= [(2, [])]}
def Zd:List t6:= [.ite (.cmp .Eq (.bW (.loc "k") "lower" [] [] []) CW) [.ret (.loc "v")] []]
def aAj:Fn:={params:= ["self","name","default"],dflt:= [("default",.none)],eN:= [],kwarg:=aB,cells:= [],body:= [.asg CW (.bW e_5 "_convert_string_type" [(.bW CW "lower" [] [] [])] ["name"] [(.cst (.bool au))]),.rA (.tup [(.loc "k"),(.loc "v")]) e_30 Zd [],.ret (.loc "default")],shapes:= [(2, []),(3, [])]}
def aPh:Fn:={params:= ["self"],dflt:= [],eN:= [],kwarg:=aB,cells:= [],body:= [.ret (.vC e_30 e_6 e_6 e_6)],shapes:= [(1, [])]}
def aPi:Fn:={params:= ["self"],dflt:= [],eN:= [],kwarg:=aB,cells:= [],body:= [.ret (.bW (.cst (.str "\r\n")) "join" [(.bin .Add (.comp (.bin .Mod (.cst (.str "%s: %s")) (.loc "kv")) (.loc "kv") e_30 [] []) (.lst [Rr,Rr]))] [] [])],shapes:= [(1, [])]}
def a0j:List t6:= [.asg (.loc "k") (.bW e_5 "_convert_string_type" [(.loc "k")] ["name"] [(.cst (.bool au))]),.ite (.cmp .Is (.loc "v") e_6) [.expr (.bW (.loc "parts") "append" [.bad] [] [])] [.asg (.loc "v") (.bW e_5 "_convert_string_type" [(.loc "v")] ["name"] [(.cst (.bool aC))]),.expr (.bW (.loc "parts") "append" [(.call (.jq "_formatparam") [.bad,(.loc "v")] [] [])] [] [])]]
def aPj:Fn:={params:= ["self","_name","_value"],dflt:= [],eN:= [],kwarg:=aa "_params",cells:= [],body:= [.asg (.loc "parts") (.lst []),.ite (.cmp .IsNot (.loc "_value") e_6) [.asg (.loc "_value") (.bW e_5 "_convert_string_type" [(.loc "_value")] ["name"] [(.cst (.bool aC))]),.expr (.bW (.loc "parts") "append" [(.loc "_value")] [] [])] [],.rA (.tup [(.loc "k"),(.loc "v")]) (.bW (.loc "_params") "items" [] [] []) a0j [],.expr (.bW e_30 "append" [(.tup [(.bW e_5 "_convert_string_type" [(.loc "_name")] ["name"] [(.cst (.bool au))]),(.bW (.cst (.str "; ")) "join" [(.loc "parts")] [] [])])] [] [])],shapes:= [(3, [])]}
def aPk:Fn:={params:= ["cell"],dflt:= [],eN:= [],kwarg:=aB,cells:= [],body:= [.ret (.bin .Mult (.sub (.cst (.str "xyz")) (.bin .Mod U7 e_3)) (.bin .Add e_1 (.bin .Mod (.bin .FloorDiv U7 e_3) e_3)))],shapes:= [(1, [])]}
def aPl:Fn:={params:= ["sheet","cell"],dflt:= [],eN:= [],kwarg:=aB,cells:= [],body:= [.ret (.yR .Or [(.bW PK "join" [(.bW W3 "get_all" [(.bin .Mult (.cst (.str "A")) (.bin .Add U7 e_1))] [] [])] [] []),(.cst (.str "o"))])],shapes:= [(2, [])]}
def a0k:Fn:={params:= ["sheet","notes","rule","name"],dflt:= [],eN:= [],kwarg:=aB,cells:= [],body:= [.asg (.loc "first") (.call (.jq "_law_read") [W3,(.sub e_56 W2)] [] []),.asg Gs (.ite e_45 (.sub e_56 e_1) (.sub e_56 (.cst (.int 2)))),.asg (.sub e_49 CW) (.bin .Add (.call (.jq "chr") [(.bin .Add (.cst (.int 97)) (.sub e_56 W2))] [] []) (.call (.jq "chr") [(.bin .Add (.cst (.int 97)) Gs)] [] [])),.asg (.loc "maker") (.call (.jq "_ValueFormatter") [(.sub e_56 e_69),(.sub e_56 e_3),PK,PK] [] []),.expr (.bW (.loc "maker") "_append_chunk" [Rr,(.loc "first")] [] []),.expr (.bW (.loc "maker") "_append_chunk" [PK,(.call (.jq "_law_read") [W3,Gs] [] [])] [] []),.ret (.bW (.sub (.bW (.bW (.loc "maker") "_str" [(.cst (.str "\n"))] [] []) "split" [(.cst (.str "\n"))] [] []) (.neg e_1)) "strip" [] [] [])],shapes:= [(4, [])]}
def aPm:Fn:={params:= ["name"],dflt:= [],eN:= [],kwarg:=aB,cells:= [],body:= [.ret e_4],shapes:= [(1, [])]}
noncomputable def aPn:Fn:={params:= ["table"],dflt:= [],eN:= [],kwarg:=aB,cells:= [],body:= [.asg (.loc "told") (.bW (.loc "table") "items" [] [] []),.asg (.loc "seen") (.call (.jq "list") [(.loc "told")] [] []),.expr (.bW (.loc "told") "append" [(.tup [(.cst (.str "a")),(.cst (.str "x"))])] [] []),.ret (.loc "seen")],shapes:= [(1, [])]}
def Gw:List t6:= [.ite e_67 [.asg (.loc "place") (.call (.jq "bisect_left") [e_54,e_59] ["key"] [(.jq "_law_turn")]),.ite e_61 [.expr (.call (.jq "insort_right") [e_54,X7] ["key"] [(.jq "_law_turn")])] []] []]
def aPo:Fn:={params:= ["notes","cell","waits"],dflt:= [],eN:= [],kwarg:=aB,cells:= [],body:= [.rA (.tup [X7,PJ]) (.bW e_49 "items" [] [] []) Gw []],shapes:= [(3, [])]}
def as5:List t6:= [.ite e_54 [.asg X7 (.bW e_54 "pop" [W2] [] []),.asg Z7 (.call (.jq "_law_make") [W3,e_49,(.sub e_50 (.bin .Sub e_59 e_69)),X7] [] []),.expr (.bW (.loc "log") "push" [X7,Z7] [] []),.ite e_57 [.asg (.sub W3 X7) Z7,.expr (.call (.jq "_law_wake") [e_49,(.bin .Sub e_59 e_1),e_54] [] [])] []] []]
def a0l:Fn:={params:= ["sheet","notes","rules","cell","log","waits"],dflt:= [],eN:= [],kwarg:=aB,cells:= [],body:= [.asg (.tup [CW,e_53,(.loc "said")]) (.tup [(.bin .Mult e_58 (.bin .Add (.bin .Mod U7 e_3) e_1)),(.bin .Mod (.bin .FloorDiv U7 e_3) (.cst (.int 20))),Rr]),.asg (.loc "old") e_47,.ite (.cmp .Eq e_53 W2) [.del W3 CW] [.ite (.cmp .Gt e_53 e_51) [.expr (.bW W3 "add_header" [CW,e_12] [] [])] [.Ew [.asg (.sub W3 CW) e_70] [⟨"ValueError","error",aC,"said"⟩]]],.ite (.cmp .NotEq e_47 (.loc "old")) [.expr (.call (.jq "_law_wake") [e_49,(.bin .Mod U7 e_3),e_54] [] [])] [],.rA (.loc "turn") e_50 as5 [],.ret (.loc "said")],shapes:= [(6, [])]}
def ax8:List t6:= [.asg (.tup [Gs,(.loc "used")]) (.tup [(.ite (.bin .Mod e_20 (.cst (.int 2))) (.loc "two") (.loc "three")),(.bin .Add (.loc "head") e_20)]),.asg (.loc "used") (.ite (.yR .And [(.loc "head"),(.cmp .Gt (.loc "used") (.loc "width"))]) (.bin .Add e_1 e_20) (.loc "used")),.expr (.bW Eb "append" [(.ite e_23 (.bin .Add (.bin .Add (.sub Eb X7) PK) (.sub Eb Gs)) (.sub Eb Gs))] [] []),.expr (.bW (.loc "reads") "append" [(.lst [X7,Gs])] [] [])]
def aPp:Fn:={params:= ["order","rules"],dflt:= [],eN:= [],kwarg:=aB,cells:= ["order"],body:= [.asg (.tup [Eb,(.loc "reads")]) (.tup [(.comp e_17 (.cX "k") (.Bh [e_3]) [] ["order"]),(.lst [])]),.rA e_27 e_50 ax8 [],.ret (.tup [Eb,(.loc "reads")])],shapes:= [(2, [])]}
def a0m:Fn:={params:= ["order","noted","rules","cell"],dflt:= [],eN:= [],kwarg:=aB,cells:= ["place","old","reads","new","now","made","fresh"],body:= [.asg (.tup [(.cX "place"),e_53]) (.tup [(.bin .Mod U7 e_3),(.bin .Mod (.bin .FloorDiv U7 e_3) (.cst (.int 20)))]),.asg (.tup [(.cX "old"),(.cX "reads")]) (.call (.jq "_law_plain") [X8,e_50] [] []),.asg X8 (.ite (.cmp .Gt e_53 e_51) X8 e_64),.asg X8 (.ite (.bin .Mod e_53 e_51) (.bin .Add X8 (.lst [(.tup [(.bin .Mult e_58 (.bin .Add (.cX "place") e_1)),e_12])])) X8),.asg (.tup [(.cX "new"),(.cX "now")]) (.call (.jq "_law_plain") [X8,e_50] [] []),.asg (.cX "made") e_52,.asg (.cX "fresh") e_38,.asg X8 e_48,.asg (.loc "noted") e_7,.ret (.tup [X8,(.loc "noted"),e_66,(.ite (.cmp .NotEq e_53 e_51) Rr (.cst (.str "Control characters not allowed in headers")))])],shapes:= [(4, [])]}
def s0:t6:= .asg (.loc "cells") (.comp (.bin .Add U7 e_14) e_62 e_36 [] ["script"])
def s1:t6:= .asg e_50 (.comp (.lst [(.bin .Mod U7 Rq),(.bin .Mod (.bin .FloorDiv U7 (.cst (.int 7))) Rq),(.bin .Mod (.bin .FloorDiv U7 (.cst (.int 49))) Rq),e_65,(.bin .Mod (.bin .FloorDiv U7 (.cst (.int 2058))) (.cst (.int 8)))]) e_62 (.za (.vC (.loc "cells") e_3 (.cst (.int 7)) e_6)) [] [])
def s2:t6:= .asg (.loc "pairs") (.comp (.tup [e_31,(.call (.jq "_law_text") [U7] [] [])]) e_62 (.za (.vC (.loc "cells") e_6 e_3 e_6)) [] [])
def s3:t6:= .asg (.tup [W3,e_49,(.loc "log"),(.cX "waits"),(.loc "errors")]) (.tup [(.call (.jq "Headers") [(.loc "pairs")] [] []),(.call (.jq "Headers") [] [] []),(.call (.jq "_Accumulator") [e_1] [] []),(.lst []),(.lst [])])
def s4:t6:= .asg (.tup [Eb,(.loc "reads")]) (.call (.jq "_law_plain") [(.loc "pairs"),e_50] [] [])
def art:List t6:= [.expr (.bW W3 "add_header" [(.bin .Mult (.cst (.str "a")) (.bin .Add (.loc "k") e_69)),(.call (.jq "_law_make") [W3,e_49,(.sub e_50 (.loc "k")),e_2] [] [])] [] [])]
def s5:t6:= .rA (.loc "k") (.Bh [e_69]) art []
def s6:t6:= .asg X8 (.comp (.tup [e_31,Z7]) (.tup [(.loc "k"),Z7]) (.za Eb) [] [])
def s7:t6:= .asg (.loc "noted") (.comp (.tup [e_2,e_40]) (.tup [(.loc "k"),(.tup [X7,Gs])]) (.za (.loc "reads")) [] [])
def s8:t6:= .ite (.yR .Or [(.cmp .NotEq (.call (.jq "_law_look") [W3] [] []) X8),(.cmp .NotEq (.call (.jq "_law_look") [e_49] [] []) (.loc "noted"))]) [.ret (.cst (.bool aC))] []
def ak4:List t6:= [.asg (.loc "said") (.call (.jq "_law_change") [W3,e_49,e_50,(.cX "cell"),(.loc "log"),(.cX "waits")] [] []),.asg (.tup [X8,(.loc "noted"),(.loc "made"),(.loc "due")]) (.call (.jq "_law_due") [X8,(.loc "noted"),e_50,(.cX "cell")] [] []),.ite (.cmp .NotEq (.lst [(.loc "said"),(.call (.jq "_law_look") [W3] [] []),(.call (.jq "_law_look") [e_49] [] []),(.cX "waits")]) (.lst [(.loc "due"),X8,(.loc "noted"),(.lst [])])) [.ret (.cst (.bool aC))] [],.ite (.cmp .NotEq e_29 e_25) [.ret (.cst (.bool aC))] [],.asg (.loc "there") (.comp Z7 e_8 X8 [(.cmp .Eq e_4 e_24)] ["cell"]),.ite (.cmp .NotEq (.lst [(.bW W3 "get" [(.vC (.cst (.str "aAa")) e_6 e_24 e_6)] [] []),(.bW W3 "get" [(.vC (.cst (.str "AaA")) e_6 e_24 e_6),(.cst (.str "o"))] [] []),(.cmp .In (.vC (.cst (.str "aAA")) e_6 e_24 e_6) W3)]) (.lst [(.sub (.bin .Add (.loc "there") (.lst [e_6])) W2),(.sub (.bin .Add (.loc "there") (.lst [(.cst (.str "o"))])) W2),(.cmp .NotEq (.loc "there") (.lst []))])) [.ret (.cst (.bool aC))] []]
def s9:t6:= .rA (.cX "cell") (.vC (.loc "cells") (.cst (.int 7)) e_6 e_6) ak4 []
noncomputable def aG8:List t6:= [.Ew [.expr (.bW (.loc "errors") "append" [(.call (.loc "call") [] [] [])] [] [])] [⟨"ValueError","error",au,"errors"⟩]]
def s10:t6:=an3.getD 10 .bad
def s11:t6:= .asg (.loc "whole") e_63
def s12:t6:= .ret (.cmp .Eq (.lst [(.loc "errors"),(.cX "waits"),(.call (.jq "str") [W3] [] []),(.call V3 [W3] [] []),(.loc "pairs")]) (.lst [(.bin .Mult (.lst [(.cst (.str "lo must be non-negative"))]) e_3),(.lst []),(.loc "whole"),(.call V3 [X8] [] []),X8]))
def Ze:List (aV×Fn):= [(195,aOp),(204,aOq),(213,aOr),(227,aOs),(234,aOt),(248,aAi),(283,aOu),(307,aOv),(314,aOw),(322,aOx),(330,aOy),(337,aOz),(344,aPa),(352,aPb),(359,aPc),(367,aPd),(76,f76),(83,f83),(90,f90),(97,f97),(102,aPe),(116,aPf),(121,aPg),(129,aAj),(146,aPh),(158,aPi),(179,aPj),(381,aPk),(388,aPl),(395,a0k),(402,aPm),(409,aPn),(416,aPo),(423,a0l),(428,aPp),(433,a0m)]
def a0n:YD=Ze:=rfl
def gL:Gl:={gl with fn:=λa=>Ze.lookup a}
def aAl:gl=gL:=by unfold gL gl;exact aO a0n rfl
def Zf:an3= [s0,s1,s2,s3,s4,s5,s6,s7,s8,s9,s10,s11,s12]:=rfl
section
section
variable {α β:Type}
def d9 {f:α->Option β}{a:α}(h:o=aa a)(k:f a=R):opt o f=R:=by subst h;exact k
def m9 (h:b=au)(k:r=R):fu b r=R:=by subst h;exact k
def j9 {f:α->Hp->Out β}(h:X=ok v H)(k:f v H=R):jf X f=R:=by subst h;exact k
def v6 {f:α->St->G5 β}(h:X=eO v σ)(k:f v σ=R):Q5 X f=R:=by subst h;exact k
def M8 (h:X=ok v H):lq σ X=eO v {σ with hp:=H}:=by subst h;rfl
def j4 {f:α->Hp->Out β}:O6 f [] H=ok [] H:=rfl
def Q0 {f:α->Hp->Out β}(h:f e H=ok v H1)(k:O6 f r H1=ok vs H2):O6 f (e::r) H=ok (v::vs) H2:=j9 h (j9 k rfl)
def mH {f:α->Hp->Out β}(h:f e H=ok v H1):O6 f [e] H=ok [v] H1:=Q0 h j4
def rK {f:α->Hp->Out β}(h:f e H=ok v H1)(k:f e2 H1=ok v2 H2):O6 f [e,e2] H=ok [v,v2] H2:=Q0 h (mH k)
def sE3 {f:α->Hp->Out β}(h:f e H=ok v H1)(k:f e2 H1=ok v2 H2)(k3:f e3 H2=ok v3 H3):O6 f [e,e2,e3] H=ok [v,v2,v3] H3:=Q0 h (rK k k3)
def Zg {f:α->Hp->Out β}(h:f e H=ok v H1)(k:f e2 H1=ok v2 H2)(k3:f e3 H2=ok v3 H3)(k4:f e4 H3=ok v4 H4):O6 f [e,e2,e3,e4] H=ok [v,v2,v3,v4] H4:=Q0 h (sE3 k k3 k4)
def sE5 {f:α->Hp->Out β}(h:f e H=ok v H1)(k:f e2 H1=ok v2 H2)(k3:f e3 H2=ok v3 H3)(k4:f e4 H3=ok v4 H4)(k5:f e5 H4=ok v5 H5):O6 f [e,e2,e3,e4,e5] H=ok [v,v2,v3,v4,v5] H5:=Q0 h (Zg k k3 k4 k5)
end
section
def j6:dD G (n+1) φ (.cst v) H=ok v H:=rfl
def d7 (h:φ.loc.lookup s=aa v):dD G (n+1) φ (.loc s) H=ok v H:=d9 h rfl
def Q4 (h:φ.cX.lookup s=aa v):dD G (n+1) φ (.cX s) H=ok v H:=d9 h rfl
def Z2 (h:G.glob s=aa v):dD G (n+1) φ (.jq s) H=ok v H:=d9 h rfl
def am4 (h:uH G n φ t H=ok au H1)(k:dD G n φ a H1=R):dD G (n+1) φ (.ite t a b) H=R:=j9 h k
def Zh (h:uH G n φ t H=ok aC H1)(k:dD G n φ b H1=R):dD G (n+1) φ (.ite t a b) H=R:=j9 h k
def V5 (h:O6 (dD G n φ) l H=ok vs H1):dD G (n+1) φ (.tup l) H=ok (.tup vs) H1:=j9 h rfl
def Q8 (h:O6 (dD G n φ) l H=ok vs H1):dD G (n+1) φ (.lst l) H=ok (.ref H1.length) (H1++ [.list vs]):=j9 h rfl
def o9 (h1:dD G n φ a H=ok x H1)(h2:dD G n φ b H1=ok y H2)(k:V0 H2 p x y=R):dD G (n+1) φ (.bin p a b) H=R:=j9 h1 (j9 h2 k)
def v7 (h1:dD G n φ a H=ok x H1)(h2:dD G n φ b H1=ok y H2)(k:K7 H2 p x y=aa bb)(hp:(p==CmpOp.In)=aC:=by rfl):dD G (n+1) φ (.cmp p a b) H=ok (.bool bb) H2:=j9 h1 (j9 h2 (by
 show(match fu (p== .In) (V1 G H2 y ("__contains__":aJ)) with | some f=>_ | none=>opt (K7 H2 p x y) λc=>ok (V.bool c) H2)=_;rw[hp];exact d9 k rfl))
def alc (h:dD G n φ a H=ok (.int j) H1):dD G (n+1) φ (.neg a) H=ok (.int (-j)) H1:=j9 h rfl
def aAm (h:dD G n φ a H=ok x H1)(ht:U5 H1 x=aa bb)(k:(if bb then dD G n φ b H1 else ok x H1)=R):dD G (n+1) φ (.yR .And [a,b]) H=R:=j9 h (j9 (d9 ht rfl) (by cases bb<;>exact k))
def z7 (h:dD G n φ o H=ok ov H1)(k:Ls H1 ov m=aa v):dD G (n+1) φ (.attr o m) H=ok v H1:=j9 h (d9 k rfl)
def O1 (h1:dD G n φ o H=ok ov H1)(h2:dD G n φ i H1=ok iv H2)(k:Z5 H2 ov iv=aa v):dD G (n+1) φ (.sub o i) H=ok v H2:=j9 h1 (j9 h2 (d9 k rfl))
def Ao (h0:dD G n φ o H=ok ov H1)(h1:dD G n φ a H1=ok x H2)(h2:dD G n φ b H2=ok y H3)(h3:dD G n φ c H3=ok z H4)(k:Ez H4 ov x y z=R):dD G (n+1) φ (.vC o a b c) H=R:=j9 h0 (j9 h1 (j9 h2 (j9 h3 k)))
def Bo (hg:G.glob s=aa (.gl (.ref ad)))(hm:G.bW ad "__init__"=aB)(ha:O6 (dD G (n+1) φ) l H=ok vs H1)(k:o6 G (n+1) φ.lk ad vs [] [] H1=R):dD G (n+2) φ (.call (.jq s) l [] []) H=R:=
 j9 (Z2 hg) (j9 ha (j9 j4 (by
  show(match G.bW ad ("__init__":aJ) with | some g=>Aa G (o8 G (n+1)) φ.lk ad g vs [] [] H1 | none=>o6 G (n+1) φ.lk ad vs [] [] H1)=R;refine aO hm ?_;exact k)))
def ald (hg:G.glob s=aa (.gl (.ref ad)))(hm:G.bW ad "__init__"=aa g)(ha:O6 (dD G (n+1) φ) l H=ok vs H1)(k:o6 G (n+1) φ.lk g (.ref H1.length::vs) [] [] (H1++ [if ad=G.gh then .acc ad [] [] else .inst ad []])=ok .none H2):dD G (n+2) φ (.call (.jq s) l [] []) H=ok (.ref H1.length) H2:=
 j9 (Z2 hg) (j9 ha (j9 j4 (by
  show(match G.bW ad ("__init__":aJ) with | some g=>Aa G (o8 G (n+1)) φ.lk ad g vs [] [] H1 | none=>o6 G (n+1) φ.lk ad vs [] [] H1)=_;refine aO hm ?_;exact j9 k rfl)))
def Q9 (hg:G.glob s=aa (.gl (.builtin q)))(ha:dD G (n+1) φ a H=ok x H1)(k:wG G (o8 G (n+1)) φ.lk q x H1=R):dD G (n+2) φ (.call (.jq s) [a] [] []) H=R:=j9 (Z2 hg) (j9 (Q0 ha j4) (j9 j4 k))
def zq (hg:G.glob s=aa (.gl (.type q)))(ha:dD G (n+1) φ a H=ok x H1)(k:Fb G (o8 G (n+1)) φ.lk q x H1=R):dD G (n+2) φ (.call (.jq s) [a] [] []) H=R:=j9 (Z2 hg) (j9 (Q0 ha j4) (j9 j4 k))
def p6 (ho:dD G n φ o H=ok ov H1)(hl:Ii G H1 ov m=aa tg)(ha:O6 (dD G n φ) l H1=ok vs H2)(hk:O6 (dD G n φ) Ia H2=ok ks H3)(k:W7 (o8 G n) φ.lk tg ov m vs kn ks H3=R):dD G (n+1) φ (.bW o m l kn Ia) H=R:=j9 ho (d9 hl (j9 ha (j9 hk k)))
def aru (ho:dD G n φ o H=ok ov H1)(hl:avj G H1 ov m=aa ad)(ha:dD G n φ a H1=ok (.tup vs) H2)(hz:vs.length≤1000)(k:o6 G n φ.lk ad (ov::vs) [] [] H2=R):dD G (n+1) φ (.star o m a) H=R:=j9 ho (d9 hl (j9 ha (d9 rfl (m9 (gO hz) k))))
def ao8 (h:H[i]?=aa (.list l)):lE H (.ref i)=aB:=by show opt (aa i) _=_;exact(show opt (aa i) (λi=>opt H[i]? λo=>opt (ins o) λp=>aa (i,p))=opt H[i]? λo=>opt (ins o) λp=>aa (i,p) from rfl).trans (h▸rfl)
def as6 (h:H[i]?=aa (.acc c d l)):lE H (.ref i)=aB:=
 (show lE H (.ref i)=opt H[i]? λo=>opt (ins o) λp=>aa (i,p) from rfl).trans (h▸rfl)
def U6 (h:lE H v=aB)(k:O7 H q v=R):wG G r lk q v H=R:=by delta wG V1;rw[h];cases(q=="len")<;>exact k
def ad0 (h:lE H v=aB)(k:Lw H q v=R):Fb G r lk q v H=R:=by delta Fb V1;rw[h];cases(q=="str")<;>exact k
def t8 (h:dD G n φ (.cmp p a b) H=ok (.bool bb) H1):uH G (n+1) φ (.cmp p a b) H=ok bb H1:=j9 h rfl
def CX (h:φ.loc.lookup s=aa v)(k:U5 H v=aa bb):uH G (n+2) φ (.loc s) H=ok bb H:=j9 (d7 h) (d9 k rfl)
def aAn (k:U5 H v=aa bb):uH G (n+2) φ (.cst v) H=ok bb H:=d9 k rfl
def CZ (h:dD G n φ (.bW o m l kn Ia) H=ok v H1)(k:U5 H1 v=aa bb):uH G (n+1) φ (.bW o m l kn Ia) H=ok bb H1:=j9 h (d9 k rfl)
def aPq (h:uH G n φ a H=ok bb H1):uH G (n+1) φ (.not a) H=ok (!bb) H1:=j9 h rfl
def Zi (h:uH G n φ a H=ok bb H1)(k:(if bb then uH G n φ b H1 else ok aC H1)=ok cc H2):uH G (n+1) φ (.yR .And [a,b]) H=ok cc H2:=
 j9 h (by cases bb with
  | false=>exact k
  | true=>exact j9 k (by cases cc<;>rfl))
def bOr (h:uH G n φ a H=ok bb H1)(k:(if bb then ok au H1 else uH G n φ b H1)=ok cc H2):uH G (n+1) φ (.yR .Or [a,b]) H=ok cc H2:=
 j9 h (by cases bb with
  | true=>exact k
  | false=>exact j9 k (by cases cc<;>rfl))
def Zj (hf:G.fn ad=aa F)(hb:binds F vs kn ks H=aa p)(k:Rb H.length (Ij (z8 (ik G n lk) F.body ⟨p.1.filter λq=> !F.cells.contains q.1,p.1.filter λq=>F.cells.contains q.1,p.2⟩))=R):o6 G (n+1) lk ad vs kn ks H=R:=d9 hf (d9 hb k)
end
section
def R7:z8 (ik G n lk) [] σ=eO .next σ:=rfl
def m7 (h:ik G n lk st σ=eO .next rT)(k:z8 (ik G n lk) r rT=R):z8 (ik G n lk) (st::r) σ=R:=v6 h k
def rM (h:ik G n lk st σ=eO .next rT):z8 (ik G n lk) [st] σ=eO .next rT:=m7 h R7
def qN2 (h:ik G n lk st σ=eO .next rT)(k:ik G n lk DQ rT=eO .next Zk):z8 (ik G n lk) [st,DQ] σ=eO .next Zk:=m7 h (rM k)
def qN3 (h:ik G n lk st σ=eO .next rT)(k:ik G n lk DQ rT=eO .next Zk)(k3:ik G n lk aPr Zk=eO .next σ3):z8 (ik G n lk) [st,DQ,aPr] σ=eO .next σ3:=m7 h (qN2 k k3)
def M4 (h:ik G n lk st σ=eO (.ret v) rT):z8 (ik G n lk) (st::r) σ=eO (.ret v) rT:=v6 h rfl
def alf (h:ik G n lk st σ=eO .brk rT):z8 (ik G n lk) (st::r) σ=eO .brk rT:=v6 h rfl
def arv (h:ik G n lk st σ=eO .cont rT):z8 (ik G n lk) (st::r) σ=eO .cont rT:=v6 h rfl
def J5 (h:dD G n ⟨L,C,lk⟩ e H=ok v H1):ik G (n+1) lk (.expr e) ⟨L,C,H⟩=eO .next ⟨L,C,H1⟩:=v6 (M8 h) rfl
def R0 (h:dD G n ⟨L,C,lk⟩ e H=ok v H1):ik G (n+1) lk (.ret e) ⟨L,C,H⟩=eO (.ret v) ⟨L,C,H1⟩:=v6 (M8 h) rfl
def p8 (h:dD G n ⟨L,C,lk⟩ e H=ok v H1)(k:I6 G n lk t v ⟨L,C,H1⟩=eO () rT):ik G (n+1) lk (.asg t e) ⟨L,C,H⟩=eO .next rT:=v6 (M8 h) (v6 k rfl)
def J6 (h:uH G n ⟨L,C,lk⟩ t H=ok au H1)(k:z8 (ik G n lk) bd ⟨L,C,H1⟩=R):ik G (n+1) lk (.ite t bd od) ⟨L,C,H⟩=R:=v6 (M8 h) k
def M6 (h:uH G n ⟨L,C,lk⟩ t H=ok aC H1)(k:z8 (ik G n lk) od ⟨L,C,H1⟩=R):ik G (n+1) lk (.ite t bd od) ⟨L,C,H⟩=R:=v6 (M8 h) k
abbrev Z8 (G:Gl)(n:Nat)(lk:List Nat)(t:j0)(bd:List t6)(v:V)(σ:St):G5 Fl:=Q5 (I6 G n lk t v σ) λU σ=>z8 (ik G n lk) bd σ
def Gx (h:vO (o8 G n) ⟨L,C,lk⟩ i H=ok (vs,Bp) H1)(k:Ly (Z8 G n (Bp++lk) t bd) (z8 (ik G n lk) od) vs ⟨L,C,H1⟩=R):ik G (n+1) lk (.rA t i bd od) ⟨L,C,H⟩=R:=v6 (M8 h) k
def aAp (k:BZ (λσ=>lq σ (uH G n (σ.fm lk) t σ.hp)) (z8 (ik G n lk) bd) 64 σ=R):ik G (n+1) lk (.whl t bd) σ=R:=k
def a0q (h1:dD G n ⟨L,C,lk⟩ o H=ok ov H1)(h2:dD G n ⟨L,C,lk⟩ i H1=ok iv H2)(k:afv G (o8 G n) lk ov iv H2=ok () H3):ik G (n+1) lk (.del o i) ⟨L,C,H⟩=eO .next ⟨L,C,H3⟩:=v6 (M8 (j9 h1 (j9 h2 k))) rfl
def o5:I6 G (n+1) lk (.loc s) v ⟨L,C,H⟩=eO () ⟨upd L s v,C,H⟩:=rfl
def yE:I6 G (n+1) lk (.cX s) v ⟨L,C,H⟩=eO () ⟨L,upd C s v,H⟩:=rfl
def Zm (h:dD G n ⟨L,C,lk⟩ o H=ok ov H1)(k:X4 lk H1 ov m v=ok () H2):I6 G (n+1) lk (.attr o m) v ⟨L,C,H⟩=eO () ⟨L,C,H2⟩:=M8 (j9 h k)
def a0r (h1:dD G n ⟨L,C,lk⟩ o H=ok ov H1)(h2:dD G n ⟨L,C,lk⟩ i H1=ok iv H2)(k:Ca G (o8 G n) lk ov iv v H2=ok () H3):I6 G (n+1) lk (.sub o i) v ⟨L,C,H⟩=eO () ⟨L,C,H3⟩:=M8 (j9 h1 (j9 h2 k))
def Zn (h1:dD G n ⟨L,C,lk⟩ o H=ok ov H1)(h2:dD G n ⟨L,C,lk⟩ a H1=ok x H2)(h3:dD G n ⟨L,C,lk⟩ b H2=ok y H3)(k:ar0 lk H3 ov x y v=ok () H4):I6 G (n+1) lk (.vC o a b c) v ⟨L,C,H⟩=eO () ⟨L,C,H4⟩:=M8 (j9 h1 (j9 h2 (j9 h3 k)))
def Z9 (h1:I6 G n lk a x σ=eO () rT)(h2:I6 G n lk b y rT=eO () Zk):I6 G (n+1) lk (.tup [a,b]) (.tup [x,y]) σ=eO () Zk:=v6 h1 (v6 h2 rfl)
def aAq (h1:I6 G n lk a x σ=eO () rT)(h2:I6 G n lk b y rT=eO () Zk)(h3:I6 G n lk c z Zk=eO () σ3):I6 G (n+1) lk (.tup [a,b,c]) (.tup [x,y,z]) σ=eO () σ3:=v6 h1 (v6 h2 (v6 h3 rfl))
def aAr {t:St->G5 Bool}{b:St->G5 Fl}(h:t σ=eO aC rT):BZ t b (n+1) σ=eO .next rT:=v6 h rfl
def arw {t:St->G5 Bool}{b:St->G5 Fl}(h:t σ=eO au rT)(k:b rT=eO .next Zk)(z:BZ t b n Zk=R):BZ t b (n+1) σ=R:=v6 h (v6 k z)
def T4 {p:V->St->G5 Fl}{q:St->G5 Fl}(h:p v σ=eO .next rT)(k:Ly p q vs rT=R):Ly p q (v::vs) σ=R:=v6 h k
def aAs {p:V->St->G5 Fl}{q:St->G5 Fl}(h:p v σ=eO .cont rT)(k:Ly p q vs rT=R):Ly p q (v::vs) σ=R:=v6 h k
def aAt {p:V->St->G5 Fl}{q:St->G5 Fl}(h:p v σ=eO .brk rT):Ly p q (v::vs) σ=eO .next rT:=v6 h rfl
def aPs {p:V->St->G5 Fl}{q:St->G5 Fl}(h:p v σ=eO (.ret x) rT):Ly p q (v::vs) σ=eO (.ret x) rT:=v6 h rfl
def Y6 (h:I6 G n lk t v σ=eO () rT)(k:z8 (ik G n lk) bd rT=R):Z8 G n lk t bd v σ=R:=v6 h k
end
def H7 (h:H.length=k):Rb k (ok v H)=ok v H:=bN h
def alg (hv:v.lt H.length=au)(hH:H9 H.length H=au):Rb H.length (ok v (H++T))=ok v H:=by
 show(if (H++T).length=H.length then aa (Res.ok v,H++T) else if (v.lt H.length&&H9 H.length ((H++T).take H.length))=au then aa (Res.ok v,(H++T).take H.length) else aa (Res.ok v,H++T))=_;refine aO auv ?_;by_cases h:(H++T).length=H.length
 ·refine aO (bN h) ?_
  have:T= []:=qd (by rw[az]at h;exact nG h);simp only[this,bf]
 ·refine aO (bk h) (aO hv (aO hH ?_));rfl
end
end Mine.Internal
end
section
namespace Mine.Internal
open PySem Builtin Builtin.Str StrLaws
noncomputable def Zo (c:Nat):Nat->List Nat->List Nat
 | _, []=> []
 | k,x::r=>if x=c then k::Zo c (k+1) r else Zo c (k+1) r
def Dc:Zo c k (x::r)=if x=c then k::Zo c (k+1) r else Zo c (k+1) r:=rfl
def alh (hs:s.cps.toList=l):∀m k st,∀J:k+m=l.length,∀J:st.2≤k,∀J:st.1.size≤k,(forIn (List.range' k (m+1)) st (occBody s ⟨#[c]⟩ s.length (s.length+1))).run.fst.toList=st.1.toList++Zo c k (l.drop k):=by
 intro zz
 induction zz with
 | zero=>
  intro k st h h1 h2;refine aO afm ?_;rw[gK];delta occBody;exact aO (bk (λq=>by have:=q.1.2;simp only[(show s.length=l.length from by refine wj hs ?_;rfl)]at this;exact absurd this (h▸vA k))) (aO (List.drop_eq_nil_of_le (cN h.symm)) ((bf _).symm))
 | succ m ih=>
  intro k st h h1 h2;have hk:=h▸kj (fO m);refine aO afm ?_;rw[gK,rN hk];delta occBody;have key:=subAt_one s c k;rw[hs,bU hk]at key;by_cases hc:l[k]=c
  ·have q:=key.mpr (congrArg aa hc)
   refine aO (bN ⟨⟨⟨by refine aO (show s.length=l.length from by refine wj hs ?_;rfl) ?_;exact xV (aq h2 (bz hk)),h1⟩,q.1⟩,q.2⟩) ?_;refine(ih (k+1) (st.1.push k,k+1) ((Dz k m).trans h) (aN _) (by rw[afk];exact dK (by assumption))).trans ?_;refine aO Dc (aO (bN hc) ?_);rw[lD,aQ];rfl
  ·refine aO (bk λq=>hc (ak (key.mp ⟨q.1.2,q.2⟩))) ?_
   exact(ih (k+1) (st.1,st.2) ((Dz k m).trans h) (iT h1) (iT h2)).trans (aO Dc (aO (bk hc) rfl))
def JQ (l:List Nat)(c:Nat):occurrences (toS l) (toS [c]) 0 (toS l).length ((toS l).length+1)=Zo c 0 l:=by rw[occ_eq];have hl:(toS l).length=l.length:=xq;exact(alh rfl l.length 0 (#[],0) (jd _) (aN 0) (aN 0)).trans rfl
def J1 (l:List Nat):(toS l).length=l.length:=xq
noncomputable def cutAt (c:Nat):List Nat->List (List Nat)
 | []=> [[]]
 | x::r=>if x=c then[]::cutAt c r else match cutAt c r with
  | []=> [[x]]
  | p::q=>(x::p)::q
def aB4:cutAt c (x::r)=if x=c then[]::cutAt c r else match cutAt c r with
  | []=> [[x]]
  | p::q=>(x::p)::q:=rfl
def Zq (l:List Nat)(i j:Nat):strSub (toS l) i j=toS ((l.drop i).take (j-i)):=by apply xW;apply jc.mp;rw[strSub_toList];rfl
def PL (c:Nat)(w:List Nat):∀l a k,∀J:a≤k,∀J:w.drop k=l,∀J:k+l.length=w.length,∃p q,cutAt c l=p::q∧partsFrom (toS w) 1 a (Zo c k l)=toS ((w.drop a).take (k-a)++p)::q.map toS:=by
 intro zz
 induction zz with
 | nil=>
  intro a k h h1 h2;exact⟨[], [],rfl,by
   show[strSub (toS w) a (toS w).length]=_;simp only[Zq,J1,bf,show k=w.length from h2];rfl⟩
 | cons x r ih=>
  intro a k h h1 h2;have hk:w.drop (k+1)=r:=by refine wj List.drop_drop (aO h1 ?_);rfl
  have hx:w[k]?=aa x:=by
   have:(w.drop k)[0]?=aa x:=by refine aO h1 ?_;rfl
   rw[Sd]at this;exact this
  have h2':k+1+r.length=w.length:=by refine wj h2 (aO dZ ?_);exact gq _ _ _
  by_cases hc:x=c
  ·obtain⟨p,q,e1,e2⟩:=ih (k+1) (k+1) (aN _) hk h2'
   refine⟨[],cutAt c r,aO aB4 (aO (bN hc) rfl), ?_⟩;refine aO Dc (aO (bN hc) ?_);show strSub (toS w) a k::partsFrom (toS w) 1 (k+1) _=_;simp only[e2,e1,Zq,bf,pA,zY,iU];rfl
  ·obtain⟨p,q,e1,e2⟩:=ih a (k+1) (iT h) hk h2'
   refine⟨x::p,q,aO aB4 (aO (bk hc) (aO e1 rfl)), ?_⟩;refine aO Dc (aO (bk hc) (aO e2 ?_));have:(w.drop a).take (k+1-a)=(w.drop a).take (k-a)++ [x]:=by refine aO (Nat.succ_sub h) (aO List.take_add_one (aO (Sd) (aO (afh h) (aO hx ?_))));rfl
   simp only[this,aQ];rfl
def JR (c:Nat)(l:List Nat):partsBetween (toS l) (Zo c 0 l) 1=(cutAt c l).map toS:=by refine exY (PL c l l 0 0 (aN _) rfl (jd _)) λp q e1 e2=> ?_;simp only[partsBetween_eq,e2,e1];rfl
def ali (c:Nat):∀l k,∀J:Zo c k l= [],cutAt c l= [l]:=by
 intro zz
 induction zz with
 | nil=>
  intro _ _;exact rfl
 | cons x r ih=>
  intro k h;simp only[Dc]at h;by_cases hc:x=c
  ·replace h:=(bN hc)▸h;exact nxD h
  ·rw[bk hc]at h
   exact aO aB4 (aO (bk hc) (aO (ih _ h) rfl))
def Zr (h:∀x∈l,x<256):tW (toS l)=1:=bN (aO tC (bj.mpr λx hx=>gO (h x hx)))
def alj (h:∀x∈l,x<256)(hc:c<256):pP (toS l) (toS [c])=(cutAt c l).map toS:=by
 delta pP;rw[JQ,Zr h,Zr λx hx=>by rw[aH.mp hx];exact hc,J1,J1];by_cases h0:l= []
 ·subst h0;rfl
 ·refine aO (bk (by
   have:0<l.length:=List.length_pos_iff.mpr h0;simp only[List.length_singleton,dW,decide_false,jL,decide_eq_true_eq];exact bZ (by assumption))) ?_
  by_cases h1:Zo c 0 l= []
  ·refine aO h1 (aO (ali c l 0 h1) ?_);rfl
  ·refine aO (bk (λq=>h1 (cj.mp q))) ?_
   exact JR c l
theorem aN8:∀ls:List (List Nat),xX (toS []) (ls.map toS)=toS ls.flatten
 | []=>rfl
 | [a]=>by simp only[jD,List.flatten_nil,bf];rfl
 | a::b::r=>by show toS a++toS []++xX (toS []) ((b::r).map toS)=_;refine aO (aN8 (b::r)) ?_;apply xW;apply jc.mp;simp only[vB,dC];show a++ []++(b::r).flatten=a++(b::r).flatten;rw[bf]
def alk (ls:List (List Nat)):qj (toS []) (ls.map toS)=toS ls.flatten:=(glued_eq_join _ _).trans (aN8 ls)
noncomputable def rowsOf (c:Nat):List (List Nat)->List Nat
 | []=> []
 | [a]=>a
 | a::r=>a++c::rowsOf c r
def aG9:rowsOf c (a::b::r)=a++c::rowsOf c (b::r):=rfl
def join_rows (c:Nat):∀ls:List (List Nat),qj (toS [c]) (ls.map toS)=toS (rowsOf c ls):=λls=>by
 refine(glued_eq_join _ _).trans ?_
 induction ls with
 | nil=>rfl
 | cons a r ih=>
  cases r with
  | nil=>rfl
  | cons b r=>
   show toS a++toS [c]++xX (toS [c]) ((b::r).map toS)=_;refine aO ih ?_;apply xW;apply jc.mp;simp only[vB,dC];rw[aQ];rfl
def alm (t:List Nat):∀a:List Nat,∀J:c∉a,cutAt c (a++c::t)=a::cutAt c t:=by
 intro zz
 induction zz with
 | nil=>
  intro _;rw[iU,aB4,bN rfl]
 | cons x a ih=>
  intro h;exact aO afn (aO aB4 (aO (bk (λq:x=c=>h (bc.mpr (.inl q.symm)))) (aO (ih λq=>h (.tail _ q)) rfl)))
def Zt:∀a:List Nat,∀J:c∉a,cutAt c a= [a]:=by
 intro zz
 induction zz with
 | nil=>
  intro _;exact rfl
 | cons x a ih=>
  intro h;exact aO aB4 (aO (bk (λq:x=c=>h (bc.mpr (.inl q.symm)))) (aO (ih λq=>h (.tail _ q)) rfl))
theorem aT4:∀ls:List (List Nat),∀J:ls≠ [],∀J:(∀a∈ls,c∉a),cutAt c (rowsOf c ls)=ls
 | [],h,_=>absurd rfl h
 | [a],_,h=>Zt a (h a (.head _))
 | a::b::r,_,h=>by exact aO aG9 (aO (alm _ a (h a (.head _))) (aO (aT4 (b::r) (λq=>nxD q) λx hx=>h x (.tail _ hx)) rfl))
def aq5 (a b:List Nat):(toS a).append (toS b)=toS (a++b):=by apply xW;apply jc.mp;refine aO dC ?_;rfl
def JS (h:toS a=toS b):a=b:=congrArg (λs:aJ=>s.cps.toList) h
end Mine.Internal
end
section
namespace Mine.Internal
open PySem
section
variable {α:Type}{i k:Nat}{v:V}
def aF0 {α β:Type}{a:α}{f:α->Option β}:opt (aa a) f=f a:=rfl
def V6 (h:lk.contains i=aC):put lk H i o a=ok a (H.set i o):=by delta put;refine aO h ?_;rfl
def R3 (h:H[i]?=aa (.list l)):listAt H (.ref i)=aa (i,l):=d9 rfl (d9 h rfl)
def M9 (h:n≤1000):room n=au:=gO (aq h (by decide))
def JT {n:Nat}(h:n≤1000):small (n:Int)=au:=by delta small;rw[gO (dF (by decide) (cA n)),gO (jj (fM.mpr h) (by decide))];rfl
def arz (e:l[k]?=aa v):idx l (k:Int)=aa v:=by delta idx;exact aO (bN (cA k)) e
def Z3 (h:H[i]?=aa (.list l))(e:l[k]?=aa v)(hk:k≤1000):Z5 H (.ref i) (.int k)=aa v:=
 d9 (f:=λk=>fu (small k) (opt H[i]? (BW k))) rfl (m9 (JT hk) (d9 h (arz e)))
def Zu:idx (l++ [v]) (-1)=aa v:=by
 have e:(-1+((l++ [v]).length:Int))=(l.length:Int):=by exact aO az ((HW _ _).trans (rI (l.length:Int) 1))
 delta idx;exact aO (bk (show¬(0:Int)≤-1 by decide)) (aO e (aO (bN (cA _)) (zP)))
def Zv:small (-1)=au:=rfl
def aln {k:Int}(h:H[i]?=aa (.list l)):Z5 H (.ref i) (.int k)=fu (small k) (idx l k):=(show fu (small k) (opt H[i]? (BW k))=_ by refine aO h ?_;rfl)
def Zw (h:H[i]?=aa (.list (l++ [v]))):Z5 H (.ref i) (.int (-1))=aa v:=by refine aO (aln h) (aO Zu (aO Zv ?_));rfl
def al1 (h:H[i]?=aa (.list l))(hz:l.length<1000)(hl:lk.contains i=aC){j:Nat}:W7 r lk (.lst j) (.ref i) ("append":aJ) [v] [] [] H=ok .none (H.set i (.list (l++ [v]))):=
 m9 rfl (d9 (R3 h) (d9 (f:=λv=>fu (room (l.length+1)) (put lk H i (.list (l++ [v])) V.none)) rfl (m9 (M9 hz) (V6 hl))))
end
noncomputable abbrev nV (n:Nat):V:= .int n
def aAu:∀l:List Nat,BP (l.map nV)=aa (l.map λ(n:Nat)=>(n:Int)):=by
 intro zz
 induction zz with
 | nil=>
  exact rfl
 | cons x r ih=>
  exact d9 rfl (d9 (ih) rfl)
def aAv (a b:Nat):((a:Int)+b).fdiv 2=((a+b)/2:Nat):=by rw[←lA,Int.natCast_ediv,Bg _ (by decide)];rfl
end Mine.Internal
end
section
namespace Mine.Internal.X2
open PySem
section
section
def w7 (hf:G.fn ad=aa F)(hb:binds F vs kn ks H=aa (b,H0))(hL:(b.filter λq=> !F.cells.contains q.1)=L)(hC:(b.filter λq=>F.cells.contains q.1)=C)(hq:z8 (ik G n lk) F.body ⟨L,C,H0⟩=eO (.ret v) ⟨L',C',H'⟩)(hg:Rb H.length (ok v H')=ok v H''):o6 G (n+1) lk ad vs kn ks H=ok v H'':=by subst hL hC;exact Zj hf hb (aO hq hg)
def K5 (hf:G.fn ad=aa F)(hb:binds F vs kn ks H=aa (b,H0))(hL:(b.filter λq=> !F.cells.contains q.1)=L)(hC:(b.filter λq=>F.cells.contains q.1)=C)(hq:z8 (ik G n lk) F.body ⟨L,C,H0⟩=eO .next ⟨L',C',H'⟩)(hg:Rb H.length (ok .none H')=ok .none H''):o6 G (n+1) lk ad vs kn ks H=ok .none H'':=by subst hL hC;exact Zj hf hb (aO hq hg)
end
section
variable {i x:Nat}{l:List Nat}
def ao6 {l:List V}(h:H[i]?=aa (.list l)):O7 H "len" (.ref i)=ok (.int l.length) H:=by delta O7;exact aO (bN rfl) (d9 h rfl)
def a0s {l:List V}(h:H[i]?=aa (.list l))(hk:k≤l.length)(hz:l.length<1000)(hl:lk.contains i=aC):W7 r lk (.lst j) (.ref i) ("insert":aJ) [.int k,v] [] [] H=ok .none (H.set i (.list (l.take k++v::l.drop k))):=by refine m9 rfl (d9 (R3 h) ?_);show opt (aa (V.int k,v)) (λp=>opt (intOf p.1) λk=>fu (decide (0≤k)&&decide (k≤l.length)&&room (l.length+1)) (put lk H i (.list (l.take k.toNat++p.2::l.drop k.toNat)) V.none))=_;exact aO aF0 (aO (show intOf (V.int k)=aa (k:Int) from rfl) (aO aF0 (aO (gO (cA k)) (aO (gO (fM.mpr hk)) (aO (M9 hz) (V6 hl))))))
def U8 {l:List V}(hm:ab1.contains m=au)(h:H[i]?=aa (.list l)):Ii G H (.ref i) m=aa (.lst i):=d9 h (m9 hm rfl)
def aAw:ab1.contains ("insert":aJ)=au:=rfl
def ak5:ab1.contains ("append":aJ)=au:=rfl
def aAx:ab1.contains ("pop":aJ)=au:=rfl
end
end
section
structure Cl (lk:List Nat)(H:Hp):Prop where
 hp:H9 H.length H=au
 lk:∀j∈lk,j<H.length
section
variable {m i j:Nat}{H T:Hp}{lk:List Nat}{α:Type}
theorem aT5:∀{H:Hp}{j:Nat},∀J:H9 m H=au,∀J:O3 m o=au,H9 m (H.set j o)=au
 | [],_,h,_=>h
 | a::H,0,h,ho=>by show(O3 m o&&H9 m H)=au;refine aO ho (aO ((j8 h).2) ?_);rfl
 | a::H,j+1,h,ho=>by show(O3 m a&&H9 m (H.set j o))=au;refine aO ((j8 h).1) (aO (aT5 (j8 h).2 ho) ?_);rfl
theorem Cl.set (c:Cl lk H)(ho:O3 H.length o=au):Cl lk (H.set j o):=⟨by refine aO cY ?_;exact aT5 c.hp ho,by refine aO cY ?_;exact c.lk⟩
def Cl.drop {v:V}(c:Cl lk H)(hv:v.lt H.length=au):Rb H.length (ok v (H++T))=ok v H:=alg hv c.hp
def f9 (h:H[i]?=aa o):(H++T)[i]?=aa o:=(gC (aL.mp h).1).trans h
def n8:(H++ [o])[H.length]?=aa o:=zP
def af8:(H++ [o]).set H.length o'=H++ [o']:=by rw[uF _ _ (aN _),pA];rfl
def U9 (h:i<H.length):(H++T).set i o=H.set i o++T:=List.set_append_left _ _ h
def O5 {f:α->V}(h:∀a,(f a).lt m=au):∀l:List α,V.jN m (l.map f)=au:=by
 intro zz
 induction zz with
 | nil=>
  exact rfl
 | cons a l ih=>
  show((f a).lt m&&V.jN m (l.map f))=au;refine aO (h a) (aO ih ?_);rfl
variable {ifs:List j0}
def R1 (hl:lk.contains H.length=aC)(hz:acc.length<1000):Cd lk H.length v (H++ [.list acc])=ok () (H++ [.list (acc++ [v])]):=d9 (R3 n8) (m9 (M9 hz) (aO (V6 hl) (aO af8 rfl)))
def nU (h1:I6 G n lk t v σ=eO () ⟨L,C,H⟩)(h2:allB (uH G n ⟨L,C,lk⟩) ifs H=ok au H1)(h3:dD G n ⟨L,C,lk⟩ elt H1=ok w H2)(h4:Cd lk i w H2=ok () H3):turn (o8 G n) lk i elt t ifs v σ=eO () ⟨L,C,H3⟩:=
 v6 h1 (v6 (M8 h2) (M8 (j9 h3 h4)))
def wX (h1:I6 G n lk t v σ=eO () ⟨L,C,H⟩)(h2:allB (uH G n ⟨L,C,lk⟩) ifs H=ok aC H1):turn (o8 G n) lk i elt t ifs v σ=eO () ⟨L,C,H1⟩:=
 v6 h1 (v6 (M8 h2) rfl)
def S9 {f:j0->Hp->Out Bool}:allB f [] H=ok au H:=rfl
def ao9 {f:j0->Hp->Out Bool}(h:f e H=ok au H1):allB f [e] H=ok au H1:=j9 h rfl
def ap0 {f:j0->Hp->Out Bool}(h:f e H=ok aC H1):allB f [e] H=ok aC H1:=j9 h rfl
def aZ6 (f:α->V)(g:α->Option V)(st:Option α->j7):∀(vs:List α)(o:Option α)(acc:List V),∀J:acc.length+vs.length≤1000,∀J:(∀a∈vs,∀(o:Option α)(acc:List V),∀J:acc.length<1000,turn (o8 G n) lk H.length elt t ifs (f a) ⟨st o,C,H++ [.list acc]⟩=eO () ⟨st (aa a),C,H++ [.list (acc++(g a).toList)]⟩),∃o',ap8 (turn (o8 G n) lk H.length elt t ifs) (vs.map f) ⟨st o,C,H++ [.list acc]⟩=eO () ⟨st o',C,H++ [.list (acc++vs.filterMap g)]⟩:=by
 intro zz
 induction zz with
 | nil=>
  intro o acc _ _;exact⟨o,by refine aO wC ?_;rw[bf];rfl⟩
 | cons a vs ih=>
  intro o acc hz h;have hg:(acc++(g a).toList).length+vs.length≤1000:=by
   refine aO az ?_;have:(g a).toList.length≤1:=by cases g a<;>first | exact aN 1 | exact bR 1
   exact aq (aK (bG this _) _) (aq (cN (gq _ 1 _)) hz)
  obtain⟨o',e⟩:=ih (aa a) (acc++(g a).toList) hg λb hb=>h b (.tail _ hb);refine⟨o',(v6 (h a (.head _) o acc (aM (kj (fO _)) hz)) e).trans ?_⟩;rw[aQ];cases q:g a with
  | none=>refine aO (dq q) ?_;rfl
  | some b=>refine aO (cO q) ?_;rfl
def JV (f:α->V)(g:α->Option V)(st:Option α->j7){vs:List α}(h0:st aB= [])(hi:vO (o8 G n) φ it H=ok (vs.map f,Bp) H1)(hC:(φ.cX.filter λp=>uz.contains p.1)=C)(hz:vs.length≤1000)
  (h:∀a∈vs,∀(o:Option α)(acc:List V),∀J:acc.length<1000,turn (o8 G n) (Bp++φ.lk) H1.length elt t ifs (f a) ⟨st o,C,H1++ [.list acc]⟩=eO () ⟨st (aa a),C,H1++ [.list (acc++(g a).toList)]⟩):
  dD G (n+1) φ (.comp elt t it ifs uz) H=ok (.ref H1.length) (H1++ [.list (vs.filterMap g)]):=by
 obtain⟨o',e⟩:=aZ6 f g st vs aB [] (by simp only[qx,jd];exact hz) h;rw[h0]at e;refine j9 hi ?_;rw[←hC]at e;refine aO e ?_;rfl
end
end
section
noncomputable abbrev pV (p:aJ×aJ):V:= .tup [.str p.1,.str p.2]
structure Ed (s:aJ):Prop where
 low:bQ s=s
 ok:bC s=au
 good:s.cps.toList.any RE.jY=aC
 len:s.length≤1000
structure zr (s:aJ):Prop where
 good:s.cps.toList.any RE.jz=aC
 len:s.length≤1000
section
def ax9:gL.glob "type"=aa (.gl (.type "type")):=rfl
def av7:gL.glob "str"=aa (.gl (.type "str")):=rfl
def O4:gL.glob "len"=aa (.gl (.builtin "len")):=rfl
def aAz:gL.glob "_name_disallowed_re"=aa (.gl (.ref 48)):=rfl
def asd:gL.glob "_value_disallowed_re"=aa (.gl (.ref 53)):=rfl
def aBa:Ii gL H (.gl (.ref 48)) ("search":aJ)=aa (.re RE.jY):=rfl
def ase:Ii gL H (.gl (.ref 53)) ("search":aJ)=aa (.re RE.jz):=rfl
def aF1:Lw H "type" (.str s)=ok (.gl (.type "str")) H:=rfl
def Gy:K7 H .Is (.gl (.type "str")) (.gl (.type "str"))=aa au:=rfl
def aN9 {bad:Nat->Bool}(hb:s.cps.toList.any bad=aC)(hz:s.length≤1000):W7 r lk (.re bad) ov m [.str s] [] [] H=ok .none H:=by refine m9 rfl (d9 rfl (d9 rfl (m9 (M9 hz) ?_)));refine aO hb ?_;rfl
def ay0 (hg:s.cps.toList.any RE.jY=aC)(hz:s.length≤1000):o6 gL (n+12) lk 83 [v,.str s] ["name"] [.bool au] H=ok (.str s) H:=
 w7 rfl rfl rfl rfl
  (M4 (J6 (t8 (v7 (zq ax9 (d7 rfl) (ad0 rfl aF1)) (Z2 av7) Gy)) (m7 (p8 (am4 (CX rfl rfl) (Z2 aAz)) o5) (m7 (M6 (CZ (p6 (d7 rfl) aBa (mH (d7 rfl)) j4 (aN9 hg hz)) rfl) R7) (M4 (R0 (d7 rfl))))))) (H7 rfl)
def Gz (h:zr s):o6 gL (n+12) lk 83 [v,.str s] ["name"] [.bool aC] H=ok (.str s) H:=
 w7 rfl rfl rfl rfl
  (M4 (J6 (t8 (v7 (zq ax9 (d7 rfl) (ad0 rfl aF1)) (Z2 av7) Gy)) (m7 (p8 (Zh (CX rfl rfl) (Z2 asd)) o5) (m7 (M6 (CZ (p6 (d7 rfl) ase (mH (d7 rfl)) j4 (aN9 h.good h.len)) rfl) R7) (M4 (R0 (d7 rfl))))))) (H7 rfl)
structure O2 (H:Hp)(i j:Nat)(ps:List (aJ×aJ)):Prop where
 inst:H[i]?=aa (.inst 182 [("_headers",.ref j)])
 row:H[j]?=aa (.list (ps.map pV))
 len:ps.length<900
def J2 (h:H[i]?=aa (.inst c d))(hm:T9 gL c d m=aa f):Ii gL H (.ref i) m=aa (.fn f):=d9 h (by show(T9 gL c d m).map Rc.fn=_;refine aO hm ?_;rfl)
def ah9:T9 gL 182 [("_headers",j)] "_convert_string_type"=aa 83:=rfl
def JW:T9 gL 182 [("_headers",j)] "get"=aa 129:=rfl
def asf:T9 gL 182 [("_headers",j)] "add_header"=aa 179:=rfl
def aBc:T9 gL 182 [("_headers",j)] "get_all"=aa 121:=rfl
def aA9:T9 gL 182 [("_headers",j)] "items"=aa 146:=rfl
def Zx:gL.bW 182 "__delitem__"=aa 102:=rfl
def ash:gL.bW 182 "__setitem__"=aa 97:=rfl
def Dd:G7.contains ("_headers":aJ)=au:=rfl
def aa3 (hn:G7.contains m=au)(h:H[i]?=aa o)(hd:aI6 o=aa d)(hl:d.lookup m=aa v)(hg:SM v=au):Ls H (.ref i) m=aa v:=
 m9 hn (d9 rfl (d9 h (d9 hd (d9 hl (m9 hg rfl)))))
def aa0 (h:O2 H i j ps):Ls H (.ref i) ("_headers":aJ)=aa (.ref j):=aa3 Dd h.inst rfl rfl rfl
def JX:X5.contains ("lower":aJ)=au:=rfl
def R2 (hm:X5.contains m=au):Ii gL H (.str s) m=aa (.str s):=m9 hm rfl
def JZ (h:bQ s=nm)(hz:nm.length≤1000):W7 r lk (.str s) ov ("lower":aJ) [] [] [] H=ok (.str nm) H:=by refine m9 rfl ?_;delta Ig;exact aO (bN rfl) (aO h (m9 (by refine aO (M9 hz) ?_;rfl) rfl))
def av8 (hv:φ.loc.lookup ("self":aJ)=aa (.ref i))(h:O2 H i j ps)(he:dD gL (n+13) φ e H=ok (.str nm) H)(hl:bQ nm=lm)(hk:Ed lm):
  dD gL (n+15) φ (.bW e_5 "_convert_string_type" [(.bW e "lower" [] [] [])] ["name"] [(.cst (.bool au))]) H=ok (.str lm) H:=
 p6 (d7 hv) (J2 h.inst ah9) (mH (p6 he (R2 JX) j4 j4 (JZ hl hk.len))) (mH j6) (ay0 hk.good hk.len)
def eqS (ha:bC a=au)(hb:bC b=au):eqP H (.str a) (.str b)=aa (a==b):=
 d9 (m9 ha rfl) (d9 (m9 hb rfl) rfl)
def kvE:Option (aJ×aJ)->j7
 | none=> []
 | some p=> [("k",.str p.1),("v",.str p.2)]
structure Rt (s:aJ):Prop where
 ok:bC (bQ s)=au
 len:(bQ s).length≤1000
def aPx:Option (aJ×aJ)->Fl
 | some p=> .ret (.str p.2)
 | none=> .next
def Aq (d:V):Option (aJ×aJ)->V
 | some p=> .str p.2
 | none=>d
def Zy {Zz:List Nat}{d:V}(hk:Ed lm):∀(ps:List (aJ×aJ))(o:Option (aJ×aJ)),∀J:(∀p∈ps,Rt p.1),∃o',Ly (Z8 gL (n+15) lk (.tup [.loc "k",.loc "v"]) Zd) (z8 (ik gL (n+15) Zz) []) (ps.map pV) ⟨("self",.ref i)::("name",.str lm)::("default",d)::kvE o, [],H⟩=
  eO (aPx (ps.find? λp=>bQ p.1==lm)) ⟨("self",.ref i)::("name",.str lm)::("default",d)::kvE o', [],H⟩:=by
 intro zz
 induction zz with
 | nil=>
  intro o _;exact⟨o,rfl⟩
 | cons p ps ih=>
  intro o h;have ht:I6 gL (n+15) lk (.tup [.loc "k",.loc "v"]) (pV p) ⟨("self",.ref i)::("name",.str lm)::("default",d)::kvE o, [],H⟩=eO () ⟨("self",.ref i)::("name",.str lm)::("default",d)::kvE (aa p), [],H⟩:=by cases o<;>exact Z9 o5 o5
  have hp:=h p (.head _);have hc:dD gL (n+13) ⟨("self",.ref i)::("name",.str lm)::("default",d)::kvE (aa p), [],lk⟩ (.cmp .Eq (.bW (.loc "k") "lower" [] [] []) CW) H=ok (.bool (bQ p.1==lm)) H:=
   v7 (p6 (d7 rfl) (R2 JX) j4 j4 (JZ rfl hp.len)) (d7 rfl) (eqS hp.ok hk.ok)
  cases q:bQ p.1==lm with
  | true=>
   replace hc:=q▸hc;exact⟨aa p,by refine aO (oO (by exact q)) ?_;exact aPs (Y6 ht (M4 (J6 (t8 hc) (M4 (R0 (d7 rfl))))))⟩
  | false=>
   rw[q]at hc;obtain⟨o',e⟩:=ih (aa p) λp hp=>h p (.tail _ hp);exact⟨o',by refine aO (oR (by refine aO q ?_;exact aR)) ?_;exact T4 (Y6 ht (rM (M6 (t8 hc) R7))) e⟩
def aT6 (h:O2 H i j ps)(hl:bQ nm=lm)(hk:Ed lm)(zT:∀p∈ps,Rt p.1):∃L,z8 (ik gL (n+19) lk) aAj.body ⟨[("self",.ref i),("name",.str nm),("default",d)], [],H⟩=eO (.ret (Aq d (ps.find? λp=>bQ p.1==lm))) ⟨L, [],H⟩:=by
 refine pN (Zy (n:=n+3) (i:=i) (lk:= [j]++lk) (Zz:=lk) (H:=H) (d:=d) hk ps aB zT) λo' e=> ?_;cases q:ps.find? λp=>bQ p.1==lm with
 | some p=>
  rw[q]at e;exact⟨_,m7 (p8 (av8 rfl h (d7 rfl) hl hk) o5) (M4 (Gx (j9 (z7 (d7 rfl) (aa0 h)) (d9 (d9 h.row rfl) rfl)) e))⟩
 | none=>
  rw[q]at e;exact⟨_,m7 (p8 (av8 rfl h (d7 rfl) hl hk) o5) (m7 (Gx (j9 (z7 (d7 rfl) (aa0 h)) (d9 (d9 h.row rfl) rfl)) e) (M4 (R0 (d7 (by cases o'<;>rfl)))))⟩
def aF2 (h:O2 H i j ps)(hl:bQ nm=lm)(hk:Ed lm)(zT:∀p∈ps,Rt p.1):o6 gL (n+20) lk 129 [.ref i,.str nm] [] [] H=ok (Aq .none (ps.find? λp=>bQ p.1==lm)) H:=
 (aT6 h hl hk zT).elim λL e=>w7 rfl rfl rfl rfl e (H7 rfl)
def PN {d:V}(h:O2 H i j ps)(hl:bQ nm=lm)(hk:Ed lm)(zT:∀p∈ps,Rt p.1):o6 gL (n+20) lk 129 [.ref i,.str nm,d] [] [] H=ok (Aq d (ps.find? λp=>bQ p.1==lm)) H:=
 (aT6 h hl hk zT).elim λL e=>w7 rfl rfl rfl rfl e (H7 rfl)
end
end
section
section
variable {ps:List (aJ×aJ)}
def kvV:Option (aJ×aJ)->j7
 | none=> []
 | some p=> [("kv",pV p)]
def ay1 (o:Option (aJ×aJ))(p:aJ×aJ):I6 gL (n+1) lk' (.loc "kv") (pV p) ⟨kvV o,C,H⟩=eO () ⟨kvV (aa p),C,H⟩:=by cases o<;>exact o5
def a0y (q:aJ×aJ->Bool):∀ps:List (aJ×aJ),(ps.filterMap λp=>if q p then aa (pV p) else aB)=(ps.filter q).map pV:=by
 intro zz
 induction zz with
 | nil=>
  exact rfl
 | cons p ps ih=>
  cases h:q p with
  | true=>rw[cO (by rw[h];rfl),bD (h),cF,ih]
  | false=>rw[dq (by rw[h];rfl),bw (by rw[h];exact aR),ih]
def neS (ha:bC a=au)(hb:bC b=au):K7 H .NotEq (.str a) (.str b)=aa (!(a==b)):=by show(eqP H (.str a) (.str b)).map (!·)=_;refine aO (eqS ha hb) ?_;rfl
def af9 (h:O2 H i j ps):lE H (.ref i)=aa (i,182, [(("_headers":aJ),V.ref j)]):=d9 rfl (d9 h.inst rfl)
def S7 (ps:List (aJ×aJ)):V.jN m (ps.map pV)=au:=O5 (λU=>rfl) ps
def aK0 (l new:List V):Y8 l new aB aB=new:=by delta Y8;refine aO (show eU aB aB aB l.length=(0,(l.length:Int),1) from rfl) ?_;simp only[Int.toNat_zero,zY,iU,show(max 0 (l.length:Int)).toNat=l.length from congrArg mQ (mR (cA _)),pO,bf]
def a0z (hn:H[k]?=aa (.list new))(hl:H[j]?=aa (.list l))(hz:l.length+new.length≤1000)(hk:lk.contains j=aC):ar0 lk H (.ref j) .none .none (.ref k)=ok () (H.set j (.list new)):=by refine d9 (R3 hn) (d9 rfl (d9 rfl (d9 rfl (d9 hl ?_))));show fu (room (l.length+new.length)) (put lk H j (.list (Y8 l new aB aB)) ())=_;rw[aK0];exact m9 (M9 hz) (V6 hk)
def aF3 (c:Cl lk H)(h:O2 H i j ps)(hl:bQ nm=lm)(hk:Ed lm)(zT:∀p∈ps,Rt p.1)(hz:ps.length≤450)(hj:lk.contains j=aC):o6 gL (n+20) lk 102 [.ref i,.str nm] [] [] H=ok .none (H.set j (.list ((ps.filter λp=> !(bQ p.1==lm)).map pV))):=by
 have hjl:=(aL.mp h.row).1;have e:=JV (n:=n+17) (φ:=⟨[("self",.ref i)], [("name",.str lm)],lk⟩) (elt:= .loc "kv") (it:= .attr e_5 "_headers") (uz:= ["name"]) (C:= [("name",.str lm)]) pV (λp=>if (!(bQ p.1==lm))=au then aa (pV p) else aB) kvV rfl (j9 (z7 (d7 rfl) (aa0 h)) (d9 (d9 h.row rfl) rfl)) rfl (aq hz (by decide)) (λp hp o acc ha=>by
   have hc:dD gL (n+16) ⟨kvV (aa p), [("name",.str lm)], [j]++lk⟩ (.cmp .NotEq e_43 (.cX "name")) (H++ [.list acc])=ok (.bool (!(bQ p.1==lm))) (H++ [.list acc]):=
    v7 (p6 (O1 (d7 rfl) j6 rfl) (R2 JX) j4 j4 (JZ rfl (zT p hp).len)) (Q4 rfl) (neS (zT p hp).ok hk.ok)
   cases q: !(bQ p.1==lm) with
   | true=>
    rw[q]at hc;exact aO (bN rfl) (nU (ay1 o p) (ao9 (t8 hc)) (d7 rfl) (R1 (eF.mpr λq=>(bc.mp (cJ.mp q)).elim (λq=>dW _ (q▸hjl)) λq=>dW _ (c.lk _ q)) ha))
   | false=>
    rw[q]at hc;refine aO (bk aR) ?_;refine(wX (ay1 o p) (ap0 (t8 hc))).trans ?_;show _=eO () ⟨_,_,H++ [.list (acc++ [])]⟩;rw[bf])
 rw[a0y]at e;have hs:=a0z (show(H++ [m6.list ((ps.filter λp=> !(bQ p.1==lm)).map pV)])[H.length]?=aa (.list ((ps.filter λp=> !(bQ p.1==lm)).map pV)) from n8) (f9 h.row) (by rw[aF,aF];have:=dO (λp:aJ×aJ=> !(bQ p.1==lm)) ps;exact aq (dg hz (aq this hz)) (by decide)) hj;rw[U9 hjl]at hs;refine K5 rfl rfl rfl rfl
  (qN2 (p8 (av8 rfl h (Q4 rfl) hl hk) yE) (p8 e (Zn (z7 (d7 rfl) (aa3 Dd (f9 h.inst) rfl rfl rfl)) j6 j6 hs))) ?_
 have z:=(c.set (j:=j) (o:= .list ((ps.filter λp=> !(bQ p.1==lm)).map pV)) (S7 _)).drop (T:= [.list ((ps.filter λp=> !(bQ p.1==lm)).map pV)]) (v:= .none) rfl;rw[cY]at z;exact z
def GC (h:O2 H i j ps)(hz:qs.length<900):O2 (H.set j (.list (qs.map pV))) i j qs where
 inst:=(gk (λq=>by
  have:=h.row;rw[q,h.inst]at this;cases this)).trans h.inst
 row:=gW (aL.mp h.row).1
 len:=hz
def aT7 (q:aJ×aJ->Bool)(hz:ps.length≤450):(ps.filter q).length≤450:=aq (dO _ _) hz
def ZC (c:Cl lk H)(h:O2 H i j ps)(hl:bQ nm=lm)(hk:Ed lm)(hg:nm.cps.toList.any RE.jY=aC)(hn:nm.length≤1000)(hv:zr vl)(zT:∀p∈ps,Rt p.1)(hz:ps.length≤450)(hj:lk.contains j=aC):o6 gL (n+25) lk 97 [.ref i,.str nm,.str vl] [] [] H=ok .none (H.set j (.list ((ps.filter (λp=> !(bQ p.1==lm))++ [(nm,vl)]).map pV))):=by
 have hf:=aT7 (λp=> !(bQ p.1==lm)) hz;have h1:=GC h (bB hf (by decide));have ha:(H.set j (.list ((ps.filter λp=> !(bQ p.1==lm)).map pV))).set j (.list ((ps.filter λp=> !(bQ p.1==lm)).map pV++ [pV (nm,vl)]))=H.set j (.list ((ps.filter (λp=> !(bQ p.1==lm))++ [(nm,vl)]).map pV)):=by simp only[qO,bu];rfl
 have ap:=al1 (j:=j) (v:=pV (nm,vl)) h1.row (by rw[aF];exact bB hf (by decide)) hj (r:=o8 gL (n+22));simp only[ha]at ap;exact K5 rfl rfl rfl rfl
  (m7 (a0q (d7 rfl) (d7 rfl) (d9 (af9 h) (d9 Zx (j9 (aF3 c h hl hk zT hz hj) rfl))))
   (rM (J5 (p6 (z7 (d7 rfl) (aa0 h1)) (U8 ak5 h1.row) (mH (V5 (rK (p6 (d7 rfl) (J2 h1.inst ah9) (mH (d7 rfl)) (mH j6) (ay0 hg hn)) (p6 (d7 rfl) (J2 h1.inst ah9) (mH (d7 rfl)) (mH j6) (Gz hv))))) j4 ap)))) (H7 (cY ..))
def aj7 (hv:v.lt k=aC):Rb k (ok v H)=ok v H:=by show(if H.length=k then aa (Res.ok v,H) else if (v.lt k&&H9 k (H.take k))=au then aa (Res.ok v,H.take k) else aa (Res.ok v,H))=_;refine aO hv ?_;rw[vd,bk aR,ite_self]
def aj8:(V.ref m).lt m=aC:=decide_eq_false (dW m)
def eqC (ha:bC a=au)(hb:bC b=au):K7 H .Eq (.str a) (.str b)=aa (a==b):=eqS ha hb
def aBf (q:aJ×aJ->Bool):∀ps:List (aJ×aJ),(ps.filterMap λp=>if q p then aa (V.str p.2) else aB)=(ps.filter q).map λp=> .str p.2:=by
 intro zz
 induction zz with
 | nil=>
  exact rfl
 | cons p ps ih=>
  cases h:q p with
  | true=>rw[cO (by rw[h];rfl),bD (h),cF,ih]
  | false=>rw[dq (by rw[h];rfl),bw (by rw[h];exact aR),ih]
def ZD (c:Cl lk H)(h:O2 H i j ps)(hl:bQ nm=lm)(hk:Ed lm){lw:aJ×aJ->aJ}(zT:∀p∈ps,bQ p.1=lw p∧bC (lw p)=au∧(lw p).length≤1000)(hz:ps.length≤450):o6 gL (n+20) lk 121 [.ref i,.str nm] [] [] H=ok (.ref H.length) (H++ [.list ((ps.filter λp=>lw p==lm).map λp=> .str p.2)]):=by
 have e:=JV (n:=n+17) (φ:=⟨[("self",.ref i)], [("name",.str lm)],lk⟩) (elt:= .sub (.loc "kv") e_1) (it:= .attr e_5 "_headers") (uz:= ["name"]) (C:= [("name",.str lm)]) pV (λp=>if (lw p==lm)=au then aa (.str p.2) else aB) kvV rfl (j9 (z7 (d7 rfl) (aa0 h)) (d9 (d9 h.row rfl) rfl)) rfl (aq hz (by decide)) (λp hp o acc ha=>by
   have hc:dD gL (n+16) ⟨kvV (aa p), [("name",.str lm)], [j]++lk⟩ (.cmp .Eq e_43 (.cX "name")) (H++ [.list acc])=ok (.bool (lw p==lm)) (H++ [.list acc]):=
    v7 (p6 (O1 (d7 rfl) j6 rfl) (R2 JX) j4 j4 (JZ (zT p hp).1 (zT p hp).2.2)) (Q4 rfl) (eqC (zT p hp).2.1 hk.ok)
   cases q:lw p==lm with
   | true=>
    rw[q]at hc;exact aO (bN rfl) (nU (ay1 o p) (ao9 (t8 hc)) (O1 (d7 rfl) j6 rfl) (R1 (eF.mpr λq=>(bc.mp (cJ.mp q)).elim (λq=>dW _ (q▸((aL.mp h.row).1))) λq=>dW _ (c.lk _ q)) ha))
   | false=>
    rw[q]at hc;refine aO (bk aR) ?_;refine(wX (ay1 o p) (ap0 (t8 hc))).trans ?_;show _=eO () ⟨_,_,H++ [.list (acc++ [])]⟩;rw[bf])
 rw[aBf]at e;exact w7 rfl rfl rfl rfl
  (m7 (p8 (av8 rfl h (Q4 rfl) hl hk) yE) (M4 (R0 e))) (aj7 aj8)
end
end
section
def a02 (a b:Nat):Hw a b 1=(dm (b-a)).map (a+·):=by
 have e:(if (1:Int)>0 then(if (a:Int)<b then((b:Int)-a+1-1)/1 else 0) else(if (a:Int)>b then((a:Int)-b-1-1)/(-1) else 0)).toNat=b-a:=by
  rw[bN (by decide)];by_cases h:(a:Int)<b
  ·rw[bN h,HH,rI,Int.toNat_sub]
  ·rw[bk h];exact(Li (fM.mp (ig.mp h))).symm
 delta Hw;dsimp only;exact aO e (qH λk U=>congrArg (λz:Int=>(a+z).toNat) (Int.one_mul k))
section
variable {α:Type}
def ap1 {a b:Nat}(h:eU lo hi st l.length=((a:Int),(b:Int),(1:Int)))(hab:a≤b)(hb:b≤l.length):jM l lo hi st=(l.drop a).take (b-a):=by unfold jM picks;refine aO h ?_;simp only[a02,StrLaws.picks l _ _ (aq (cN (RX hab)) hb)]
def ZF:jM l aB aB aB=l:=by rw[ap1 rfl (bR _) (aN _),qU,ur,tB]
end
section
def aj9 {k:Nat}(h:H[k]?=aa (.list l))(h1:Y7 x=aa lo)(h2:Y7 y=aa hi)(h3:Y7 z=aa st)(h0:st≠aa 0):Ez H (.ref k) x y z=ok (.ref H.length) (H++ [.list (jM l lo hi st)]):=d9 h1 (d9 h2 (d9 h3 (aO (bk h0) (d9 h rfl))))
def aH0 (h:O2 H i j ps):o6 gL (n+12) lk 146 [.ref i] [] [] H=ok (.ref H.length) (H++ [.list (ps.map pV)]):=by
 have e:=aj9 h.row (x:= .none) (y:= .none) (z:= .none) rfl rfl rfl (λq=>iz q);rw[ZF]at e;exact w7 rfl rfl rfl rfl
  (M4 (R0 (Ao (z7 (d7 rfl) (aa0 h)) j6 j6 j6 e))) (aj7 aj8)
def as7:X5.contains ("join":aJ)=au:=rfl
def aBg:∀xs:List aJ,BL (xs.map V.str)=aa xs:=by
 intro zz
 induction zz with
 | nil=>
  exact rfl
 | cons x xs ih=>
  exact d9 rfl (d9 (ih) rfl)
def as8 {r:Rec}{ov:V}{xs:List aJ}(h:H[k]?=aa (.list (xs.map V.str)))(hz:(xs.map (·.length)).sum+xs.length*s.length≤16777216):W7 r lk (.str s) ov ("join":aJ) [.ref k] [] [] H=ok (.str (qj s xs)) H:=by refine m9 rfl ?_;delta Ig;exact aO (bk (by decide+kernel)) (aO (bk (by decide+kernel)) (aO (bk (by decide+kernel)) (d9 rfl (aO (bN rfl) (d9 (R3 h) (d9 (aBg xs) (m9 (gO hz) rfl)))))))
def aT8 (c:Cl lk H)(h:O2 H i j ps)(hg:nm.cps.toList.any RE.jY=aC)(hn:nm.length≤1000)(hv:zr vl)(hz:ps.length≤450)(hj:lk.contains j=aC):o6 gL (n+20) lk 179 [.ref i,.str nm,.str vl] [] [] H=ok .none (H.set j (.list ((ps++ [(nm,vl)]).map pV))):=by
 have hf:lk.contains (H++ [m6.vD]).length=aC:=eF.mpr λq=>by have:=c.lk _ (cJ.mp q);rw[az]at this;exact Nat.not_succ_lt_self this
 have hr:((H++ [m6.vD])++ [m6.list [.str vl]])[j]?=aa (.list (ps.map pV)):=f9 (f9 h.row);have a1:=λr=>al1 (v:=V.str vl) (r:=r) (j:=(H++ [m6.vD]).length) (n8 (o:= .list [])) (by decide) hf;simp only[af8]at a1;have a2:=λr=>al1 (v:=pV (nm,vl)) (r:=r) (j:=j) hr (by rw[aF];exact bB hz (by decide)) hj;have e2:((H++ [m6.vD])++ [m6.list [.str vl]]).set j (.list (ps.map pV++ [pV (nm,vl)]))=H.set j (.list ((ps++ [(nm,vl)]).map pV))++ [.vD,.list [.str vl]]:=by simp only[aQ,U9 ((aL.mp h.row).1),bu];rfl
 simp only[e2]at a2;have jn:=λr=>as8 (s:="; ") (r:=r) (lk:=lk) (ov:= .str "; ") (xs:= [vl]) (n8 (H:=H++ [m6.vD])) (by
  exact aq (aK hv.len 2) (by decide))
 refine K5 rfl rfl rfl rfl
  (m7 (p8 (Q8 j4) o5) (m7 (J6 (t8 (v7 (d7 rfl) j6 rfl)) (qN2 (p8 (p6 (d7 rfl) (J2 (f9 (f9 h.inst)) ah9) (mH (d7 rfl)) (mH j6) (Gz hv)) o5) (J5 (p6 (d7 rfl) (U8 ak5 n8) (mH (d7 rfl)) j4 (a1 _)))))
   (m7 (Gx (j9 (p6 (d7 rfl) (d9 (f9 n8) rfl) j4 j4 (m9 rfl (d9 (f9 n8) rfl))) (d9 (d9 (f9 n8) rfl) rfl)) rfl)
    (rM (J5 (p6 (z7 (d7 rfl) (aa3 Dd (f9 (f9 h.inst)) rfl rfl rfl)) (U8 ak5 hr) (mH (V5 (rK (p6 (d7 rfl) (J2 (f9 (f9 h.inst)) ah9) (mH (d7 rfl)) (mH j6) (ay0 hg hn)) (p6 j6 (R2 as7) (mH (d7 rfl)) j4 (jn _))))) j4 (a2 _))))))) ?_
 have z:=(c.set (j:=j) (o:= .list ((ps++ [(nm,vl)]).map pV)) (S7 _)).drop (T:= [.vD,.list [.str vl]]) (v:= .none) rfl;simp only[cY]at z;exact z
end
end
section
noncomputable abbrev zu (z:Nat):j7:= [("_initial_size",.int z)]
abbrev lB (z:Nat)(ps:List (aJ×aJ)):m6:= .acc 370 (zu z) (ps.map pV)
structure GD (z:Nat)(ps:List (aJ×aJ)):Prop where
 z:z≤1000
 s:G6 ps≤1000
 l:ps.length≤400
section
variable {n a k z:Nat}
def aT9:∀ps:List (aJ×aJ),pairs (ps.map pV)=aa ps:=by
 intro zz
 induction zz with
 | nil=>
  exact rfl
 | cons p ps ih=>
  exact d9 (a:=p) rfl (d9 (ih) rfl)
def asj (h:z≤1000):mid (z:Int)=au:=by delta mid;refine aO (gO (dF (by decide) (cA z))) (aO (gO (dF (fM.mpr h) (by decide))) ?_);rfl
def ZG (h:GD z ps):Ie (zu z) (ps.map pV)=aa ((z:Int),ps):=
 d9 rfl (d9 rfl (d9 (aT9 ps) (m9 (by rw[asj h.z,M9 h.s,aF,gO (aq h.l (by decide))];rfl) rfl)))
def aO0 (h:GD z ps):ag2 (zu z) (ps.map pV)=aa ((z+G6 ps:Nat):Int):=
 d9 (ZG h) (m9 (gO (yP _)) (by simp only[lA]))
def as9 (h:H[a]?=aa (lB z ps)):sS H (.ref a)=aa (a,370,zu z,ps.map pV):=d9 rfl (d9 h rfl)
def at3 (h:H[a]?=aa (lB z ps))(hs:GD z ps):O7 H "len" (.ref a)=ok (.int (z+G6 ps:Nat)) H:=by delta O7;refine aO (bN rfl) ?_;refine d9 h ?_;show opt (ag2 (zu z) (ps.map pV)) (λk=>ok (V.int k) H)=_;refine aO (aO0 hs) ?_;rfl
def aK1 (h:H[a]?=aa (lB z ps))(hs:(G3 ps).length≤1000):Lw H "str" (.ref a)=ok (.str (G3 ps)) H:=by delta Lw;exact aO (bN rfl) (d9 (as9 h) (d9 (aT9 ps) (d9 (m9 (M9 hs) rfl) rfl)))
def J7 (h:H[a]?=aa (lB z ps))(h1:(zu z).lookup m=aB)(h2:gL.bW 370 m=aa f):Ii gL H (.ref a) m=aa (.fn f):=by refine d9 h ?_;show(match (zu z).lookup m with | some _=>aB | none=>match gL.bW 370 m with | some f=>aa (Rc.fn f) | none=>fu (decide (m=("append":aJ))) (aa (Rc.acc a)))=_;exact aO h1 (aO h2 rfl)
def ZJ (h:H[a]?=aa (lB z ps)):Ii gL H (.ref a) ("append":aJ)=aa (.acc a):=d9 h (aO (show(zu z).lookup ("append":aJ)=aB from rfl) (aO (show gL.bW 370 ("append":aJ)=aB from rfl) (m9 (gO rfl) rfl)))
def alq {v:V}(h:H[a]?=aa (lB z ps))(hz:ps.length<1000)(hl:lk.contains a=aC):W7 r lk (.acc a) (.ref a) ("append":aJ) [v] [] [] H=ok .none (H.set a (.acc 370 (zu z) (ps.map pV++ [v]))):=m9 rfl (d9 rfl (d9 (as9 h) (m9 (M9 (by rw[aF];exact hz)) (V6 hl))))
def ag0 (h:H[a]?=aa (lB z ps))(hz:ps.length<1000)(hl:lk.contains a=aC):o6 gL (n+10) lk 314 [.ref a,.str s,.str t] [] [] H=ok .none (H.set a (lB z (ps++ [(s,t)]))):=by
 have e:=λr=>alq (r:=r) (v:=pV (s,t)) h hz hl;rw[show m6.acc 370 (zu z) (ps.map pV++ [pV (s,t)])=lB z (ps++ [(s,t)]) from by simp only[lB,bu];rfl]at e;exact K5 rfl rfl rfl rfl
  (rM (J5 (p6 (d7 rfl) (ZJ h) (mH (V5 (rK (d7 rfl) (d7 rfl)))) j4 (e _)))) (H7 (cY ..))
def alr (hv:φ.loc.lookup ("self":aJ)=aa (.ref a))(h:H[a]?=aa (lB z ps)):dD gL (n+1) φ (.sup "__len__") H=ok (.int ps.length) H:=by refine d9 hv (d9 (as9 h) ?_);delta Lx;rw[bk (by decide+kernel),bN rfl,aF]
def als (hv:φ.loc.lookup ("self":aJ)=aa (.ref a))(h:H[a]?=aa (lB z (ps++ [p])))(hl:φ.lk.contains a=aC):dD gL (n+1) φ (.sup "pop") H=ok (pV p) (H.set a (lB z ps)):=by refine d9 hv (d9 (as9 h) ?_);delta Lx;refine aO (bk (by decide+kernel)) (aO (bk (by decide+kernel)) (aO (bN rfl) (aO bu (aO cF (aO List.map_nil (aO (List.getLast?_concat) (aO List.dropLast_concat ?_)))))));exact V6 hl
def ad1 (h:H[a]?=aa (lB z ps)):o6 gL (n+10) lk 367 [.ref a] [] [] H=ok (.int ps.length) H:=
 w7 rfl rfl rfl rfl (M4 (R0 (alr rfl h))) (H7 rfl)
def De:(zu z).lookup ("part_count":aJ)=aB:=rfl
def ay2:(zu z).lookup ("push":aJ)=aB:=rfl
def Df:(zu z).lookup ("pop":aJ)=aB:=rfl
def aBj:(zu z).lookup ("pop_from":aJ)=aB:=rfl
def aBk:(zu z).lookup ("is_onlyws":aJ)=aB:=rfl
def asl:(zu z).lookup ("reset":aJ)=aB:=rfl
def Dg:gL.bW 370 "part_count"=aa 367:=rfl
def ay3:gL.bW 370 "push"=aa 314:=rfl
def av1:gL.bW 370 "pop"=aa 330:=rfl
def aBm:gL.bW 370 "pop_from"=aa 322:=rfl
def aBn:gL.bW 370 "is_onlyws"=aa 359:=rfl
def asm:gL.bW 370 "reset"=aa 352:=rfl
def eqN {x y:Nat}:K7 H .Eq (.int x) (.int y)=aa (decide (x=y)):=by refine congrArg aa ?_;rw[uq];exact(beq_iff_eq).trans (Int.ofNat_inj.trans decide_eq_true_iff.symm)
def aU0 (h:H[a]?=aa (lB z [])):o6 gL (n+20) lk 330 [.ref a] [] [] H=ok (pV ("","")) H:=
 w7 rfl rfl rfl rfl
  (M4 (J6 (t8 (v7 (p6 (d7 rfl) (J7 h De Dg) j4 j4 (ad1 h)) j6 (eqN))) (M4 (R0 (V5 (rK j6 j6)))))) (H7 rfl)
def aF4 {p:aJ×aJ}(h:H[a]?=aa (lB z (ps++ [p])))(hl:lk.contains a=aC):o6 gL (n+20) lk 330 [.ref a] [] [] H=ok (pV p) (H.set a (lB z ps)):=
 w7 rfl rfl rfl rfl
  (m7 (M6 (t8 (v7 (p6 (d7 rfl) (J7 h De Dg) j4 j4 (ad1 h)) j6 (eqN.trans (congrArg aa (decide_eq_false (aO az (yQ _))))))) R7) (M4 (R0 (als rfl h hl)))) (H7 (cY ..))
end
end
section
section
variable {n a k z:Nat}
def rOr (h:dD G n φ e H=ok x H1)(ht:U5 H1 x=aa bb)(k:(if bb then ok x H1 else dD G n φ f H1)=R):dD G (n+1) φ (.yR .Or [e,f]) H=R:=j9 h (j9 (d9 ht rfl) (by cases bb<;>exact k))
def aQe (h:dD G n φ e H=ok x H1)(ht:U5 H1 x=aa bb):dD G (n+1) φ (.not e) H=ok (.bool !bb) H1:=j9 h (j9 (d9 ht rfl) rfl)
def asn:G7.contains ("_initial_size":aJ)=au:=rfl
def aF5 (h:H[a]?=aa (lB z ps)):Ls H (.ref a) ("_initial_size":aJ)=aa (.int z):=aa3 asn h rfl rfl rfl
def Ka (h:H[a]?=aa (lB z ps))(hl:lk.contains a=aC):X4 lk H (.ref a) ("_initial_size":aJ) (.int 0)=ok () (H.set a (lB 0 ps)):=
 m9 asn (d9 rfl (d9 h (m9 rfl (V6 hl))))
def am5 {x:V}(hx:Y7 x=aa lo)(hn:H[k]?=aa (.list new))(h:H[a]?=aa (lB z ps))(hz:ps.length+new.length≤1000)(hk:lk.contains a=aC):ar0 lk H (.ref a) x .none (.ref k)=ok () (H.set a (.acc 370 (zu z) (Y8 (ps.map pV) new lo aB))):=by refine d9 (R3 hn) (d9 hx (d9 rfl (d9 rfl (d9 h ?_))));show fu (room ((ps.map pV).length+new.length)) (put lk H a (.acc 370 (zu z) (Y8 (ps.map pV) new lo aB)) ())=_;rw[aF];exact m9 (M9 hz) (V6 hk)
def aH1 {m z:Nat}(ps:List (aJ×aJ)):O3 m (lB z ps)=au:=by show(W6 m (zu z)&&V.jN m (ps.map pV))=au;rw[S7];rfl
def reset_0 (c:Cl lk H)(h:H[a]?=aa (lB z ps))(hz:ps.length≤900)(hl:lk.contains a=aC):o6 gL (n+12) lk 352 [.ref a] [] [] H=ok .none (H.set a (lB 0 [])):=by
 have ha:=(aL.mp h).1;have e:=am5 (x:= .none) rfl (n8) (show(H++ [m6.list []])[a]?=aa (lB z ps) from f9 h) (aq hz (by decide)) hl;rw[aK0,U9 ha]at e;have e2:=Ka (show(H.set a (lB z [])++ [m6.list []])[a]?=aa (lB z []) from f9 (gW ha)) hl;rw[U9 (aO cY ha),qO]at e2;refine K5 rfl rfl rfl rfl
  (qN3 (J6 (t8 (v7 (d7 rfl) j6 rfl)) (rM (p8 (Q8 j4) o5))) (p8 (d7 rfl) (Zn (d7 rfl) j6 j6 e)) (p8 j6 (Zm (d7 rfl) e2))) ?_
 have z:=(c.set (j:=a) (aH1 (z:=0) [])).drop (T:= [.list []]) (v:= .none) rfl;rw[cY]at z;exact z
def reset_1 (h:H[a]?=aa (lB z ps))(hk:H[k]?=aa (.list (qs.map pV)))(hz:ps.length≤450)(hq:qs.length≤450)(hl:lk.contains a=aC):o6 gL (n+12) lk 352 [.ref a,.ref k] [] [] H=ok .none (H.set a (lB 0 qs)):=by
 have e:=am5 (x:= .none) rfl hk h (by rw[aF];exact aq (dg hz hq) (by decide)) hl;rw[aK0]at e;have e2:=Ka (H:=H.set a (lB z qs)) (gW ((aL.mp h).1)) hl;simp only[qO]at e2;exact K5 rfl rfl rfl rfl
  (qN3 (M6 (t8 (v7 (d7 rfl) j6 rfl)) R7) (p8 (d7 rfl) (Zn (d7 rfl) j6 j6 e)) (p8 j6 (Zm (d7 rfl) e2))) (H7 (cY ..))
def aq6 (h:k≤n):eU (aa (k:Int)) aB aB n=((k:Int),(n:Int),(1:Int)):=by show((max 0 (min (if (k:Int)<0 then(k:Int)+n else k) (n:Int)),(n:Int),1):Int×Int×Int)=_;exact aO (bk (ig.mpr (cA k))) (aO (avb (fM.mpr h)) (aO (mR (cA k)) rfl))
def Kc (h:H[a]?=aa (lB z ps))(h1:Y7 x=aa lo)(h2:Y7 y=aa hi)(h3:Y7 w=aa st)(h0:st≠aa 0):Ez H (.ref a) x y w=ok (.ref H.length) (H++ [.list (jM (ps.map pV) lo hi st)]):=d9 h1 (d9 h2 (d9 h3 (aO (bk h0) (d9 h rfl))))
def alu {p:aJ×aJ}(h:H[a]?=aa (lB z (ps++ [p])))(hz:ps.length≤450)(hl:lk.contains a=aC):o6 gL (n+12) lk 322 [.ref a,.int ps.length] [] [] H=ok (.ref H.length) (H.set a (lB z ps)++ [.list ([p].map pV),.list []]):=by
 have hln:((ps++ [p]).map pV).length=ps.length+1:=by rw[aF,az];rfl
 have hd:jM ((ps++ [p]).map pV) (aa (ps.length:Int)) aB aB= [p].map pV:=by refine aO (ap1 (b:=ps.length+1) (by refine aO hln ?_;exact aq6 (eY _)) (eY _) (cN hln.symm)) (aO bu (aO (List.drop_left' (aF ..)) ?_));rw[iV];rfl
 have ht:Y8 ((ps++ [p]).map pV) [] (aa (ps.length:Int)) aB=ps.map pV:=by delta Y8;refine aO hln (aO (aq6 (eY _)) ?_);rw[lK,bu,apa (aF ..),bf,show(max (ps.length:Int) ((ps.length+1:Nat):Int)).toNat=ps.length+1 from congrArg mQ (mR (fM.mpr (eY _))),Et (by rw[az,aF];exact aN _),bf]
 have e1:Ez H (.ref a) (.int ps.length) .none .none=ok (.ref H.length) (H++ [.list ([p].map pV)]):=by exact aO (Kc h rfl rfl rfl (λq=>iz q)) (aO hd rfl)
 have e2:=am5 (x:= .int ps.length) rfl (n8) (show(H++ [m6.list ([p].map pV)]++ [m6.list []])[a]?=aa (lB z (ps++ [p])) from f9 (f9 h)) (by refine aO az ?_;exact aq (dK hz) (by decide)) hl;rw[ht,aQ,U9 ((aL.mp h).1)]at e2;refine w7 rfl rfl rfl rfl
  (m7 (p8 (Ao (d7 rfl) (d7 rfl) j6 j6 e1) o5) (m7 (p8 (Q8 j4) (Zn (d7 rfl) (d7 rfl) j6 (by rw[aQ];exact e2))) (M4 (R0 (d7 rfl))))) (aj7 aj8)
def aso:X5.contains ("isspace":aJ)=au:=rfl
def asp (h:kE s=b):W7 r lk (.str s) ov ("isspace":aJ) [] [] [] H=ok (.bool b) H:=by refine m9 rfl ?_;delta Ig;refine aO (bk (by decide+kernel)) (aO (bN rfl) (aO h ?_));rfl
def alv (h:H[a]?=aa (lB z ps))(hs:GD z ps):U5 H (.ref a)=aa (((z+G6 ps:Nat):Int) !=0):=by refine d9 h ?_;show opt (ag2 (zu z) (ps.map pV)) (λk=>aa (k !=0))=_;refine aO (aO0 hs) ?_;rfl
def ZK (h:H[a]?=aa (lB z ps))(hs:GD z ps)(hn:(G3 ps).length≤1000)(ho:z≠0∨(G6 ps≠0∧kE (G3 ps)=aC)):o6 gL (n+20) lk 359 [.ref a] [] [] H=ok (.bool aC) H:=by
 refine w7 rfl rfl rfl rfl (M4 (R0 ?_)) (H7 rfl);by_cases hz:z=0
 ·refine tL (λh1 h2=> ?_) (ho.resolve_left (λq=>q hz))
  have ht:U5 H (.ref a)=aa au:=by rw[alv h hs];refine congrArg aa ?_;rw[bne_iff_ne];exact λq=>h1 (Nat.eq_zero_of_add_eq_zero_left (Sg q))
  exact aAm (v7 (z7 (d7 rfl) (aF5 h)) j6 (eqN.trans (congrArg aa (gO hz)))) rfl (rOr (aQe (d7 rfl) ht) rfl (p6 (zq av7 (d7 rfl) (ad0 (as6 h) (aK1 h hn))) (R2 aso) j4 j4 (asp h2)))
 ·exact aAm (v7 (z7 (d7 rfl) (aF5 h)) j6 (eqN.trans (congrArg aa (decide_eq_false hz)))) rfl rfl
end
end
section
noncomputable abbrev mkD (w l a:Nat):j7:= [("_maxlen",.int w),("_continuation_ws",.str " "),("_continuation_ws_len",.int 1),("_splitchars",.str " "),("_lines",.ref l),("_current_line",.ref a)]
structure Mk (H:Hp)(i l a w:Nat):Prop where
 inst:H[i]?=aa (.inst 286 (mkD w l a))
 il:l≠i
 ia:a≠i
 la:l≠a
 hl:l<H.length
 ha:a<H.length
def jZ (H:Hp)(l a:Nat)(ls:List aJ)(z:Nat)(ps:List (aJ×aJ)):Hp:=(H.set l (.list (ls.map V.str))).set a (lB z ps)
section
variable {lk:List Nat}{H:Hp}{s t:aJ}{r:Rec}
def S8:(jZ H l a ls z ps).length=H.length:=aO cY (aO cY rfl)
def Mk.xK (M:Mk H i l a w):(jZ H l a ls z ps)[i]?=aa (.inst 286 (mkD w l a)):=aO (gk M.ia) (aO (gk M.il) (aO M.inst rfl))
def Mk.ZL (M:Mk H i l a w):(jZ H l a ls z ps)[l]?=aa (.list (ls.map V.str)):=aO (gk (Ne.symm M.la)) (aO (gW M.hl) rfl)
def Mk.jw (M:Mk H i l a w):(jZ H l a ls z ps)[a]?=aa (lB z ps):=aO (gW (aO cY M.ha)) rfl
def yF:(jZ H l a ls z ps).set a (lB z' qs)=jZ H l a ls z' qs:=by delta jZ;simp only[qO]
def Mk.asq (M:Mk H i l a w):(jZ H l a ls z ps).set l (.list (ls'.map V.str))=jZ H l a ls' z ps:=by delta jZ;rw[List.set_comm _ _ (Ne.symm M.la),qO]
def at4 (xs:List aJ):V.jN m (xs.map V.str)=au:=O5 (λU=>rfl) xs
theorem Cl.jZ (c:Cl lk H):Cl lk (X2.jZ H l a ls z ps):=(c.set (o:= .list (ls.map V.str)) (at4 ls)).set (aH1 ps)
def asr:G7.contains ("_maxlen":aJ)=au:=rfl
def ass:G7.contains ("_splitchars":aJ)=au:=rfl
def ZM:G7.contains ("_lines":aJ)=au:=rfl
def ZP:G7.contains ("_current_line":aJ)=au:=rfl
def Mk.max (M:Mk H i l a w):Ls (jZ H l a ls z ps) (.ref i) ("_maxlen":aJ)=aa (.int w):=aa3 asr M.xK rfl rfl rfl
def Mk.spl (M:Mk H i l a w):Ls (jZ H l a ls z ps) (.ref i) ("_splitchars":aJ)=aa (.str " "):=aa3 ass M.xK rfl rfl rfl
def Mk.lin (M:Mk H i l a w):Ls (jZ H l a ls z ps) (.ref i) ("_lines":aJ)=aa (.ref l):=aa3 ZM M.xK rfl rfl rfl
def Mk.cur (M:Mk H i l a w):Ls (jZ H l a ls z ps) (.ref i) ("_current_line":aJ)=aa (.ref a):=aa3 ZP M.xK rfl rfl rfl
def neP {p q:aJ×aJ}(h1:bC p.1=au)(h2:bC p.2=au)(h3:bC q.1=au)(h4:bC q.2=au):K7 H .NotEq (pV p) (pV q)=aa (!(p.1==q.1&&p.2==q.2)):=by
 have e:∀p:aJ×aJ,∀J:bC p.1=au,∀J:bC p.2=au,R4 H 8 (pV p)=aa (.tuple [.str p.1,.str p.2]):=λp h1 h2=>by show(List.mapM (R4 H 7) [V.str p.1,V.str p.2]).map wD=_;have e1:∀s:aJ,∀J:bC s=au,R4 H 7 (V.str s)=aa (.str s):=λs h=>m9 h rfl;refine aO oM (aO (e1 _ h1) (aO oM (aO (e1 _ h2) ?_)));rfl
 show((opt (R4 H 8 (pV p)) λx=>opt (R4 H 8 (pV q)) λy=>aa (km x y))).map (!·)=_;refine aO (e p h1 h2) (aO (e q h3 h4) ?_);show aa (!(p.1==q.1&&(p.2==q.2&&au)))=_;rw[qb]
def gtN {x y:Nat}(h:y<x):K7 H .Gt (.int x) (.int y)=aa au:=congrArg aa (gO (je.mpr h))
def gtF {x y:Nat}(h:¬y<x):K7 H .Gt (.int x) (.int y)=aa aC:=congrArg aa (decide_eq_false λq=>h (je.mp q))
structure aBq (z:Nat)(ps:List (aJ×aJ)):Prop where
 sz:GD z ps
 n:(G3 ps).length≤1000
def aO1 (h:H[a]?=aa (lB z ps)):avj gL H (.ref a) ("push":aJ)=aa 314:=d9 (as9 h) (by
 show(match (zu z).lookup ("push":aJ) with | some _=>aB | none=>gL.bW 370 ("push":aJ))=_;exact aO ay2 (aO ay3 rfl))
abbrev nlE (i:Nat)(o:Option (aJ×aJ)):j7:=("self",.ref i)::match o with
 | none=> []
 | some p=> [("end_of_line",pV p)]
def Ke (M:Mk H i l a w)(c:Cl lk H)(h:aBq z ps)(hp:0<z+G6 ps)(ho:z≠0∨(G6 ps≠0∧kE (G3 ps)=aC))(hl:lk.contains l=aC)(ha:lk.contains a=aC)(hz:ls.length<900){p:aJ×aJ}{r:List t6}(hr:aAi.body.drop 2=r):
  z8 (ik gL (n+30) lk) r ⟨nlE i (aa p), [],jZ H l a ls z ps⟩=eO .next ⟨nlE i (aa p), [],jZ H l a (ls++ [G3 ps]) 0 []⟩:=by
 subst hr;have ap:=λr=>al1 (v:=V.str (G3 ps)) (r:=r) (j:=l) (M.ZL (z:=z) (ps:=ps)) (by rw[aF];exact dG hz (by decide)) hl;rw[show ls.map V.str++ [V.str (G3 ps)]=(ls++ [G3 ps]).map V.str from by rw[bu];rfl,M.asq]at ap;have rs:=reset_0 (n:=n+16) (z:=z) (Cl.jZ (ls:=ls++ [G3 ps]) c) M.jw (aq h.sz.l (by decide)) ha;simp only[yF]at rs;exact m7 (J6 (t8 (v7 (Q9 O4 (z7 (d7 rfl) M.cur) (U6 (as6 M.jw) (at3 M.jw h.sz))) j6 (gtN hp))) (rM (M6 (Zi (CZ (p6 (z7 (d7 rfl) M.cur) (J7 M.jw aBk aBn) j4 j4 (ZK M.jw h.sz h.n ho)) rfl) rfl) (rM (J5 (p6 (z7 (d7 rfl) M.lin) (U8 ak5 M.ZL) (mH (zq av7 (z7 (d7 rfl) M.cur) (ad0 (as6 M.jw) (aK1 M.jw h.n)))) j4 (ap _)))))))
  (rM (J5 (p6 (z7 (d7 rfl) M.cur) (J7 M.jw asl asm) j4 j4 rs)))
end
end
section
section
def asu:T9 gL 286 (mkD w l a) "newline"=aa 248:=rfl
def aBr:T9 gL 286 (mkD w l a) "_str"=aa 234:=rfl
def a05:bC " "=au:=by kernel_rfl
def alw:bC ""=au:=by kernel_rfl
def aU1 (M:Mk H i l a w)(c:Cl lk H)(h:aBq z (qs++ [p]))(h1:bC p.1=au)(h2:bC p.2=au)(h3:(p.1==(" ":aJ)&&p.2==("":aJ))=aC)(hp:0<z+G6 (qs++ [p]))(ho:z≠0∨(G6 (qs++ [p])≠0∧kE (G3 (qs++ [p]))=aC))(hl:lk.contains l=aC)(ha:lk.contains a=aC)(hz:ls.length<900):
  o6 gL (n+31) lk 248 [.ref i] [] [] (jZ H l a ls z (qs++ [p]))=ok .none (jZ H l a (ls++ [G3 (qs++ [p])]) 0 []):=by
 have hq:qs.length<1000:=by have:=h.sz.l;rw[az]at this;exact aM (eE _) (aq this (by decide))
 have e1:=aF4 (n:=n+8) (z:=z) (ps:=qs) (p:=p) (M.jw (ls:=ls)) ha;simp only[yF]at e1;have e2:=ag0 (n:=n+17) (z:=z) (s:=p.1) (t:=p.2) (M.jw (ls:=ls)) hq ha;simp only[yF]at e2;have ne:=neP (H:=jZ H l a ls z qs) (q:=(" ","")) h1 h2 a05 alw;rw[h3]at ne;exact K5 rfl rfl rfl rfl
  (m7 (p8 (p6 (z7 (d7 rfl) M.cur) (J7 M.jw Df av1) j4 j4 e1) o5)
   (m7 (J6 (t8 (v7 (d7 rfl) (V5 (rK j6 j6)) ne)) (rM (J5 (aru (z7 (d7 rfl) M.cur) (aO1 M.jw) (d7 rfl) (show 2≤1000 by decide) e2)))) (Ke M c h hp ho hl ha hz rfl))) (H7 (aO S8 (aO S8 rfl)))
def alx (M:Mk H i l a w)(c:Cl lk H)(hz0:z≠0)(hz1:z≤1000)(hl:lk.contains l=aC)(ha:lk.contains a=aC)(hz:ls.length<900):
  o6 gL (n+31) lk 248 [.ref i] [] [] (jZ H l a ls z [])=ok .none (jZ H l a (ls++ [("":aJ)]) 0 []):=by
 have e2:=ag0 (n:=n+17) (z:=z) (ps:= []) (s:="") (t:="") (M.jw (ls:=ls)) (by decide) ha;simp only[yF]at e2;have ne:=neP (H:=jZ H l a ls z []) (p:=("","")) (q:=(" ","")) alw alw a05 alw;rw[show(((("":aJ),("":aJ)).1==((" ":aJ),("":aJ)).1&&(("":aJ),("":aJ)).2==((" ":aJ),("":aJ)).2))=aC from by kernel_rfl]at ne;have tl:=Ke (n:=n) (ps:= [("","")]) (p:=("","")) M c ⟨⟨hz1,by decide+kernel,by decide⟩,by decide+kernel⟩ (aM (rJ hz0) (bh _ _)) (.inl hz0) hl ha hz rfl;rw[show G3 [(("":aJ),("":aJ))]="" from by kernel_rfl]at tl;exact K5 rfl rfl rfl rfl
  (m7 (p8 (p6 (z7 (d7 rfl) M.cur) (J7 M.jw Df av1) j4 j4 (aU0 M.jw)) o5)
   (m7 (J6 (t8 (v7 (d7 rfl) (V5 (rK j6 j6)) ne)) (rM (J5 (aru (z7 (d7 rfl) M.cur) (aO1 M.jw) (d7 rfl) (show 2≤1000 by decide) e2)))) tl)) (H7 (aO S8 (aO S8 rfl)))
def ZQ (M:Mk H i l a w){Bp:List Nat}(e:o6 gL (n+31) lk 248 [.ref i] [] [] (jZ H l a ls z ps)=ok .none (jZ H l a ls' 0 []))(hz:(ls'.map (·.length)).sum+ls'.length*sep.length≤16777216):
  o6 gL (n+34) lk 234 [.ref i,.str sep] [] [] (jZ H l a ls z ps)=ok (.str (qj sep ls')) (jZ H l a ls' 0 []):=
 w7 rfl rfl rfl rfl
  (m7 (J5 (p6 (d7 rfl) (J2 M.xK asu) j4 j4 e)) (M4 (R0 (p6 (d7 rfl) (R2 as7) (mH (z7 (d7 rfl) M.lin)) j4 (as8 M.ZL hz))))) (H7 (aO S8 (aO S8 rfl)))
end
end
section
section
abbrev chL (i:Nat)(f s:aJ):j7:= [("self",.ref i),("fws",.str f),("string",.str s)]
def aB5 (M:Mk H i l a w)(hq:ps.length<1000)(ha:lk.contains a=aC):ik gL (n+29) lk (.expr (.bW e_0 "push" [JP,(.loc "string")] [] [])) ⟨chL i f s, [],jZ H l a ls z ps⟩=eO .next ⟨chL i f s, [],jZ H l a ls z (ps++ [(f,s)])⟩:=by have e:=ag0 (n:=n+17) (z:=z) (s:=f) (t:=s) (M.jw (ls:=ls)) hq ha;simp only[yF]at e;exact J5 (p6 (z7 (d7 rfl) M.cur) (J7 M.jw ay2 ay3) (rK (d7 rfl) (d7 rfl)) j4 e)
def aH2 (M:Mk H i l a w)(h:GD z ps)(hL:L.lookup ("self":aJ)=aa (.ref i))(hb:decide (w<z+G6 ps)=b):uH gL (n+5) ⟨L, [],lk⟩ (.cmp .Gt (.call V3 [e_0] [] []) (.attr e_5 "_maxlen")) (jZ H l a ls z ps)=ok b (jZ H l a ls z ps):=by
 subst hb;by_cases q:w<z+G6 ps
 ·rw[gO q]
  exact t8 (v7 (Q9 O4 (z7 (d7 hL) M.cur) (U6 (as6 M.jw) (at3 M.jw h))) (z7 (d7 hL) M.max) (gtN q))
 ·rw[decide_eq_false q]
  exact t8 (v7 (Q9 O4 (z7 (d7 hL) M.cur) (U6 (as6 M.jw) (at3 M.jw h))) (z7 (d7 hL) M.max) (gtF q))
def Kf (M:Mk H i l a w)(h:GD z (ps++ [(f,s)]))(ha:lk.contains a=aC)(hw:¬w<z+G6 (ps++ [(f,s)])):o6 gL (n+30) lk 283 [.ref i,.str f,.str s] [] [] (jZ H l a ls z ps)=ok .none (jZ H l a ls z (ps++ [(f,s)])):=by
 have hq:ps.length<1000:=by have:=h.l;rw[az]at this;exact aM (eE _) (aq this (by decide))
 exact K5 rfl (b:=chL i f s) rfl rfl rfl (qN2 (aB5 M hq ha) (M6 (aH2 M h rfl (decide_eq_false hw)) R7)) (H7 (aO S8 (aO S8 rfl)))
def PT (m:Nat):∃r,BX ((m+1:Nat):Int) 0= .int ((m+1:Nat):Int)::r:=by refine⟨((dm m).map tK).map λ(i:Nat)=>V.int (((m+1:Nat):Int)-i), ?_⟩;show(dm (m+1)).map (λ(i:Nat)=>V.int (((m+1:Nat):Int)-i))=_;refine aO List.range_succ_eq_map (aO cF ?_);rfl
def aBs (h1:dD G n φ e1 H=ok (.int x) H1)(h2:dD G n φ e2 H1=ok (.int y) H2)(h3:dD G n φ e3 H2=ok (.int (-1)) H3)(hs:([x,y,-1].all λi=>small (4*i))=au):vO (o8 G n) φ (.Bh [e1,e2,e3]) H=ok (BX x y, []) H3:=
 j9 (sE3 h1 h2 h3) (d9 rfl (m9 hs (d9 rfl rfl)))
def a06 {m:Nat}(h:m≤1000):([(m:Int),0,-1].all λi=>small (4*i))=au:=by
 have e:small (4*(m:Int))=au:=by delta small;rw[gO (by exact yP _),gO (jj (qm (fM.mpr h) (by decide)) (by decide))];rfl
 show(small (4*(m:Int))&&(small (4*0)&&(small (4* -1)&&au)))=au;rw[e];kernel_rfl
def aQh:((m+1:Nat):Int)-1=(m:Int):=rI (m:Int) 1
def asv (h:dD G n φ e H=ok (.str " ") H)(he:∀H,vO (o8 G n) φ e H=jf (dD G n φ e H) λv H=>opt (Ra H v) λl=>ok (l,ag1 v) H):vO (o8 G n) φ e H=ok ([.str " "], []) H:=by rw[he];exact j9 h (d9 (by kernel_rfl) rfl)
def a07:kE " "=au:=by kernel_rfl
def aBt:K7 H .Eq (.str " ") (.str " ")=aa au:=by kernel_rfl
def sp_0:Z5 H (.str " ") (.int 0)=aa (.str " "):=rfl
def aly {k:Nat}(h:H[a]?=aa (lB z ps))(e:(ps.map pV)[k]?=aa v)(hk:k≤1000):Z5 H (.ref a) (.int k)=aa v:=
 d9 (f:=λk=>fu (small k) (opt H[a]? (BW k))) rfl (m9 (JT hk) (d9 h (arz e)))
abbrev spS:aJ:=" "
def ZR (h:H[i]?=aa (.inst 286 (mkD w l a))):Ls H (.ref i) ("_current_line":aJ)=aa (.ref a):=aa3 ZP h rfl rfl rfl
def a08 (h:H[i]?=aa (.inst 286 (mkD w l a))):Ls H (.ref i) ("_lines":aJ)=aa (.ref l):=aa3 ZM h rfl rfl rfl
def GF:List t6:= [.asg (.tup [JP,(.loc "part")]) (.bW e_0 "pop" [] [] []),.ite (.cmp .Gt (.attr e_0 "_initial_size") W2) [.expr (.bW e_5 "newline" [] [] []),.ite (.not JP) [.asg JP PK] []] [],.expr (.bW e_0 "push" [JP,(.loc "part")] [] []),.ret e_6]
abbrev GJ (i:Nat)(f s:aJ):j7:= [("self",.ref i),("fws",.str f),("string",.str s),("ch",.str " ")]
noncomputable abbrev aQi (i:Nat)(s:aJ)(k:Nat):j7:= [("self",.ref i),("fws",.str " "),("string",.str s),("ch",.str " "),("i",.int k)]
def alz (M:Mk H i l a w)(m:Nat)(hm:ps.length=m+1)(hq:ps.length≤399):ik gL (n+38) lk (.rA (.loc "ch") (.attr e_5 "_splitchars") Gv GF) ⟨chL i spS s, [],jZ H l a ls z (ps++ [(spS,s)])⟩=
  eO .next ⟨aQi i s ps.length, [],jZ H l a ls z (ps++ [(spS,s)])⟩:=by
 refine pN (PT m) λr hr=> ?_;rw[←hm]at hr;have ct:=ad1 (n:=n+22) (lk:=lk) (z:=z) (ps:=ps++ [(spS,s)]) (M.jw (ls:=ls));rw[az]at ct;have hi:vO (o8 gL (n+36)) ⟨GJ i spS s, [],lk⟩ e_19 (jZ H l a ls z (ps++ [(spS,s)]))=ok (.int ps.length::r, []) (jZ H l a ls z (ps++ [(spS,s)])):=by exact wj hr (aBs (o9 (p6 (z7 (d7 rfl) M.cur) (J7 M.jw De Dg) j4 j4 (ad1 M.jw)) j6 (by refine aO az ?_;exact congrArg (λx=>ok (V.int x) _) aQh)) j6 (alc j6) (a06 (aq hq (by decide))))
 exact Gx (asv (z7 (d7 rfl) M.spl) λU=>rfl) (aAt (Y6 o5 (m7 (Gx hi (aAt (Y6 o5 (alf (J6 (CZ (p6 (d7 rfl) (R2 aso) j4 j4 (asp a07)) rfl) (m7 (p8 (O1 (O1 (z7 (d7 rfl) M.cur) (d7 rfl) (show Z5 (jZ H l a ls z (ps++ [(spS,s)])) (.ref a) (.int ps.length)=aa (pV (spS,s)) from aly M.jw (by refine aO bu ?_;rw[dN (by rw[aF];exact aN _),aF,pA];rfl) (aq hq (by decide)))) j6 rfl) o5) (alf (J6 (Zi (CX rfl rfl) (t8 (v7 (O1 (d7 rfl) j6 sp_0) (d7 rfl) aBt))) (alf rfl))))))))) (alf rfl))))
end
end
section
section
def Kg (hk:k=H.length):(H++o::T)[k]?=aa o:=by simp only[hk,dN (aN _),pA];rfl
def a09 (M:Mk H i l a w)(c:Cl lk H)(h:GD z (ps++ [(spS,s)]))(h0:ps≠ [])(h1:(G3 ps).length≤1000)(ha:lk.contains a=aC)(hl:lk.contains l=aC)(hz:ls.length<900)(hw:w<z+G6 (ps++ [(spS,s)])):o6 gL (n+40) lk 283 [.ref i,.str spS,.str s] [] [] (jZ H l a ls z ps)=ok .none (jZ H l a (ls++ [G3 ps]) 0 [(spS,s)]):=by
 have hq:ps.length≤399:=by have:=h.l;rw[az]at this;exact Nat.le_of_succ_le_succ this
 obtain⟨m,hm⟩:∃m,ps.length=m+1:=Nat.exists_eq_succ_of_ne_zero λq=>h0 (qd q);have e1:=alu (n:=n+24) (z:=z) (p:=(spS,s)) (M.jw (ls:=ls)) (aq hq (by decide)) ha;rw[yF]at e1;have e2:=λr=>al1 (H:=jZ H l a ls z ps++ [.list ([(spS,s)].map pV),.list []]) (v:=V.str (G3 ps)) (r:=r) (j:=l) (f9 (M.ZL)) (by rw[aF];exact dG hz (by decide)) hl;rw[U9 (show∀{ls z ps},l<(jZ H l a ls z ps).length from λ{_ _ _}=>by rw[S8];exact M.hl),show ls.map V.str++ [V.str (G3 ps)]=(ls++ [G3 ps]).map V.str from by rw[bu];rfl,M.asq]at e2;have e3:=reset_1 (n:=n+24) (H:=jZ H l a (ls++ [G3 ps]) z ps++ [.list ([(spS,s)].map pV),.list []]) (k:=(jZ H l a ls z (ps++ [(spS,s)])).length) (qs:= [(spS,s)]) (f9 M.jw) (Kg (by exact aO S8 (aO S8 rfl))) (aq hq (by decide)) (show 1≤450 by decide) ha;rw[U9 (show∀{ls z ps},a<(jZ H l a ls z ps).length from λ{_ _ _}=>by rw[S8];exact M.ha),yF]at e3;have z:=(Cl.jZ (l:=l) (a:=a) (ls:=ls++ [G3 ps]) (z:=0) (ps:= [(spS,s)]) c).drop (T:= [.list ([(spS,s)].map pV),.list []]) (v:= .none) rfl;refine K5 rfl rfl rfl rfl
  (m7 (aB5 M (bB hq (by decide)) ha) (m7 (J6 (aH2 M h rfl (gO hw)) (m7 (alz M m hm hq) (m7 (p8 (p6 (z7 (d7 rfl) M.cur) (J7 M.jw aBj aBm) (mH (d7 rfl)) j4 e1) o5)
   (m7 (J5 (p6 (z7 (d7 rfl) (a08 (f9 M.xK))) (U8 ak5 (f9 M.ZL)) (mH (zq av7 (z7 (d7 rfl) (ZR (f9 M.xK))) (ad0 (as6 (f9 M.jw)) (aK1 (f9 M.jw) h1)))) j4 (e2 _)))
    (rM (J5 (p6 (z7 (d7 rfl) (ZR (f9 M.xK))) (J7 (f9 M.jw) asl asm) (mH (d7 rfl)) j4 e3))))))) R7)) ?_
 rw[S8]at z;exact aO S8 z
def Kh (M:Mk H i l a w)(he:ik gL (n+37) lk (.rA (.loc "i") e_19 Gu [.cont]) ⟨GJ i f s, [],jZ H l a ls z [(f,s)]⟩=eO .cont ⟨GJ i f s, [],jZ H l a ls z [(f,s)]⟩)(k:z8 (ik gL (n+37) lk) GF ⟨GJ i f s, [],jZ H l a ls z [(f,s)]⟩=R):
  ik gL (n+38) lk (.rA (.loc "ch") (.attr e_5 "_splitchars") Gv GF) ⟨chL i f s, [],jZ H l a ls z [(f,s)]⟩=R:=
 Gx (asv (z7 (d7 rfl) M.spl) λU=>rfl) (aAs (Y6 o5 (arv he)) k)
def aU2 (M:Mk H i l a w):ik gL (n+37) lk (.rA (.loc "i") e_19 Gu [.cont]) ⟨GJ i f s, [],jZ H l a ls z [(f,s)]⟩=eO .cont ⟨GJ i f s, [],jZ H l a ls z [(f,s)]⟩:=by
 have hi:vO (o8 gL (n+36)) ⟨GJ i f s, [],lk⟩ e_19 (jZ H l a ls z [(f,s)])=ok (BX 0 0, []) (jZ H l a ls z [(f,s)]):=
  aBs (o9 (p6 (z7 (d7 rfl) M.cur) (J7 M.jw De Dg) j4 j4 (ad1 M.jw)) j6 rfl) j6 (alc j6) rfl
 rw[show BX 0 0= [] from by kernel_rfl]at hi;exact Gx hi (arv rfl)
def ZS (h:H[a]?=aa (lB z ps)):Ls H (.ref a) ("_initial_size":aJ)=aa (.int z):=aF5 h
def PX (M:Mk H i l a w)(h:GD 0 [(f,s)])(ha:lk.contains a=aC)(hw:w<0+G6 [(f,s)]):o6 gL (n+40) lk 283 [.ref i,.str f,.str s] [] [] (jZ H l a ls 0 [])=ok .none (jZ H l a ls 0 [(f,s)]):=by
 have e1:=aF4 (n:=n+15) (z:=0) (ps:= []) (p:=(f,s)) (M.jw (ls:=ls)) ha;simp only[yF]at e1;have e2:=ag0 (n:=n+25) (z:=0) (ps:= []) (s:=f) (t:=s) (M.jw (ls:=ls)) (by decide) ha;simp only[yF]at e2;exact w7 rfl (b:=chL i f s) rfl rfl rfl
  (m7 (aB5 M (by decide) ha) (M4 (J6 (aH2 M h rfl (gO hw)) (M4 (Kh M (aU2 M)
   (m7 (p8 (p6 (z7 (d7 rfl) M.cur) (J7 M.jw Df av1) j4 j4 e1) (Z9 o5 o5))
    (m7 (M6 (t8 (v7 (z7 (z7 (d7 rfl) M.cur) (ZS M.jw)) j6 (gtF (dW 0)))) R7)
     (m7 (J5 (p6 (z7 (d7 rfl) M.cur) (J7 M.jw ay2 ay3) (rK (d7 rfl) (d7 rfl)) j4 e2)) (M4 (R0 j6)))))))))) (H7 (aO S8 (aO S8 rfl)))
def Qa (M:Mk H i l a w)(c:Cl lk H)(h:GD z [(("":aJ),s)])(hz0:z≠0)(ha:lk.contains a=aC)(hl:lk.contains l=aC)(hz:ls.length<900)(hw:w<z+G6 [(("":aJ),s)]):o6 gL (n+40) lk 283 [.ref i,.str "",.str s] [] [] (jZ H l a ls z [])=ok .none (jZ H l a (ls++ [("":aJ)]) 0 [(spS,s)]):=by
 have e1:=aF4 (n:=n+15) (z:=z) (ps:= []) (p:=("",s)) (M.jw (ls:=ls)) ha;simp only[yF]at e1;have e2:=ag0 (n:=n+25) (z:=0) (ps:= []) (s:=spS) (t:=s) (M.jw (ls:=ls++ [("":aJ)])) (by decide) ha;simp only[yF]at e2;exact w7 rfl rfl rfl rfl
  (m7 (aB5 M (by decide) ha) (M4 (J6 (aH2 M h rfl (gO hw)) (M4 (Kh M (aU2 M)
   (m7 (p8 (p6 (z7 (d7 rfl) M.cur) (J7 M.jw Df av1) j4 j4 e1) (Z9 o5 o5))
    (m7 (J6 (t8 (v7 (z7 (z7 (d7 rfl) M.cur) (ZS M.jw)) j6 (gtN (rJ hz0)))) (qN2 (J5 (p6 (d7 rfl) (J2 M.xK asu) j4 j4 (alx M c hz0 h.z hl ha hz))) (J6 (aPq (bb:=aC) (CX rfl rfl)) (rM (p8 j6 o5)))))
     (m7 (J5 (p6 (z7 (d7 rfl) M.cur) (J7 M.jw ay2 ay3) (rK (d7 rfl) (d7 rfl)) j4 e2)) (M4 (R0 j6)))))))))) (H7 (aO S8 (aO S8 rfl)))
end
end
section
def aBu:gL.glob "_Accumulator"=aa (.gl (.ref 370)):=rfl
def a1a:gL.bW 370 "__init__"=aa 307:=rfl
def asw:gL.glob "Headers"=aa (.gl (.ref 182)):=rfl
def ZV:gL.bW 182 "__init__"=aa 76:=rfl
def aQj:gL.glob "_ValueFormatter"=aa (.gl (.ref 286)):=rfl
def aBv:gL.bW 286 "__init__"=aa 227:=rfl
def GK:gL.glob "list"=aa (.gl (.type "list")):=rfl
section
variable {n k z:Nat}
def ZW (hv:φ.loc.lookup ("self":aJ)=aa (.ref H.length))(hl:φ.lk.contains H.length=aC):dD gL (n+1) φ (.sup "__init__") (H++ [lB z []])=ok .none (H++ [lB z []]):=by refine d9 hv (d9 (as9 n8) ?_);delta Lx;refine aO (bN rfl) (aO (V6 hl) (aO af8 ?_));rfl
def ZX (hl:lk.contains H.length=aC):o6 gL (n+10) lk 307 [.ref H.length,.int z] [] [] (H++ [.acc 370 [] []])=ok .none (H++ [lB z []]):=by
 have e1:X4 lk (H++ [.acc 370 [] []]) (.ref H.length) "_initial_size" (.int z)=ok () (H++ [lB z []]):=m9 rfl (d9 rfl (d9 n8 (m9 rfl (by
  refine aO (V6 hl) (aO af8 ?_);rfl))))
 exact K5 rfl rfl rfl rfl
  (qN2 (p8 (d7 rfl) (Zm (d7 rfl) e1)) (J5 (ZW rfl hl))) (H7 (by refine aO az (aO az ?_);rfl))
def aA1 (he:dD gL (n+10) φ e H=ok (.int z) H1)(hl:φ.lk.contains H1.length=aC):dD gL (n+11) φ (.call (.jq "_Accumulator") [e] [] []) H=ok (.ref H1.length) (H1++ [lB z []]):=
 ald aBu a1a (mH he) (by
  exact aO (bN (show(370:Nat)=gL.gh by kernel_rfl)) (ZX hl))
end
end
section
section
variable {H H1:Hp}{ps:List (aJ×aJ)}
def ZZ:∀H:Hp,H9 m (H++ [o])=(H9 m H&&O3 m o):=by
 intro zz
 induction zz with
 | nil=>
  show(O3 m o&&au)=(au&&O3 m o);simp only[qb,rY]
 | cons a H ih=>
  show(O3 m a&&H9 m (H++ [o]))=((O3 m a&&H9 m H)&&O3 m o);simp only[ih,avc]
def Kl (h:O3 (H.length+1) o=aC):Rb (H.length+1) (ok v (H++ [o]++T))=ok v (H++ [o]++T):=by show(if (H++ [o]++T).length=H.length+1 then aa (Res.ok v,H++ [o]++T) else if (v.lt (H.length+1)&&H9 (H.length+1) ((H++ [o]++T).take (H.length+1)))=au then aa (Res.ok v,(H++ [o]++T).take (H.length+1)) else aa (Res.ok v,H++ [o]++T))=_;refine aO (apa (by refine aO az ?_;rfl)) ?_;simp only[ZZ,h,gY,gY,bk aR,ite_self]
def aaa {q:St->G5 Fl}{d:j7}(hi:H[i]?=aa (.inst 182 [("_headers",.ref j)])):∀(ps:List (aJ×aJ))(o:Option (aJ×aJ)),∀J:(∀p∈ps,Ed p.1∧zr p.2),∃o',Ly (Z8 gL (n+15) lk (.tup [.loc "k",.loc "v"]) ars) q (ps.map pV) ⟨("self",.ref i)::("headers",hv)::kvE o, [],H⟩=q ⟨("self",.ref i)::("headers",hv)::kvE o', [],H⟩:=by
 intro zz
 induction zz with
 | nil=>
  intro o _;exact⟨o,rfl⟩
 | cons p ps ih=>
  intro o h;refine pN (ih (aa p) λp hp=>h p (.tail _ hp)) λo' e=> ?_;refine⟨o',T4 (Y6 (by cases o<;>exact Z9 o5 o5) ?_) e⟩;exact m7 (J5 (p6 (d7 rfl) (J2 hi ah9) (mH (d7 rfl)) (mH j6) (ay0 (h p (.head _)).1.good (h p (.head _)).1.len))) (rM (J5 (p6 (d7 rfl) (J2 hi ah9) (mH (d7 rfl)) (mH j6) (Gz (h p (.head _)).2))))
noncomputable abbrev Ru (j:Nat):m6:= .inst 182 [("_headers",.ref j)]
def ama:O3 m (Ru m)=aC:=by show((V.ref m).lt m&&au)=aC;refine aO aj8 ?_;rfl
def Km:K7 H .IsNot (.gl (.type "list")) (.gl (.type "list"))=aa aC:=rfl
def aab (h:H[i]?=aa (.list l)):Lw H "type" (.ref i)=ok (.gl (.type "list")) H:=d9 (R3 h) rfl
def yt:K7 H .IsNot (.ref i) .none=aa au:=rfl
def aH3 (h1:φ.loc.lookup x=aa (.ref j))(h:H[j]?=aa (.list l)):vO (o8 gL (n+1)) φ (.loc x) H=ok (l, [j]) H:=j9 (d7 h1) (d9 (d9 h rfl) rfl)
def Qc (hl:lk.contains H.length=aC):o6 gL (n+18) lk 76 [.ref H.length] [] [] (H++ [.inst 182 []])=ok .none (H++ [Ru (H.length+1)]++ [.list []]):=by
 have e1:X4 lk (H++ [.inst 182 []]++ [.list []]) (.ref H.length) "_headers" (.ref (H.length+1))=ok () (H++ [Ru (H.length+1)]++ [.list []]):=m9 Dd (d9 rfl (d9 (f9 n8) (m9 rfl (by
  refine aO (V6 hl) (aO (U9 (aO az (eE _))) (aO af8 ?_));rfl))))
 have e0:dD gL (n+15) ⟨[("self",.ref H.length),("headers",.none)], [],lk⟩ (.lst []) (H++ [.inst 182 []])=ok (.ref (H.length+1)) (H++ [.inst 182 []]++ [.list []]):=by have:=Q8 (G:=gL) (n:=n+14) (φ:=⟨[("self",.ref H.length),("headers",.none)], [],lk⟩) (H:=H++ [.inst 182 []]) j4;rw[az]at this;exact this
 have hn:(H++ [Ru (H.length+1)]++ [m6.list []])[H.length+1]?=aa (.list []):=by have:=n8 (H:=H++ [Ru (H.length+1)]) (o:= .list []);rw[az]at this;exact this
 have hn0:(H++ [m6.inst 182 []]++ [m6.list []])[H.length+1]?=aa (.list []):=by have:=n8 (H:=H++ [.inst 182 []]) (o:= .list []);rw[az]at this;exact this
 refine K5 rfl rfl rfl rfl
  (m7 (p8 (Zh (t8 (v7 (d7 rfl) j6 rfl)) e0) o5) (qN3 (M6 (t8 (v7 (zq ax9 (d7 rfl) (ad0 (ao8 hn0) (aab hn0))) (Z2 GK) Km)) R7) (p8 (d7 rfl) (Zm (d7 rfl) e1)) (J6 (aAn rfl) (rM (Gx (aH3 rfl hn) R7))))) ?_
 exact aO az (Kl ama)
def Qd (hr:H[j]?=aa (.list (ps.map pV)))(hp:∀p∈ps,Ed p.1∧zr p.2)(hl:lk.contains H.length=aC):o6 gL (n+18) lk 76 [.ref H.length,.ref j] [] [] (H++ [.inst 182 []])=ok .none (H++ [Ru j]):=by
 have e1:X4 lk (H++ [.inst 182 []]) (.ref H.length) "_headers" (.ref j)=ok () (H++ [Ru j]):=m9 Dd (d9 rfl (d9 n8 (m9 rfl (by
  refine aO (V6 hl) (aO af8 ?_);rfl))))
 obtain⟨o',e⟩:=aaa (H:=H++ [Ru j]) (d:= []) n8 ps aB hp;exact K5 rfl rfl rfl rfl
  (m7 (p8 (am4 (t8 (v7 (d7 rfl) j6 yt)) (d7 rfl)) o5) (qN3 (M6 (t8 (v7 (zq ax9 (d7 rfl) (ad0 (ao8 (f9 hr)) (aab (f9 hr)))) (Z2 GK) Km)) R7) (p8 (d7 rfl) (Zm (d7 rfl) e1)) (J6 (aAn rfl) (rM (Gx (aH3 rfl (f9 hr)) e))))) (H7 (by refine aO az (aO az ?_);rfl))
def aac (hl:φ.lk.contains H.length=aC):dD gL (n+19) φ (.call (.jq "Headers") [] [] []) H=ok (.ref H.length) (H++ [Ru (H.length+1)]++ [.list []]):=
 ald asw ZV j4 (by
  exact aO (bk (show(182:Nat)≠gL.gh by decide+kernel)) (Qc hl))
def aad (he:dD gL (n+18) φ e H=ok (.ref j) H)(hr:H[j]?=aa (.list (ps.map pV)))(hp:∀p∈ps,Ed p.1∧zr p.2)(hl:φ.lk.contains H.length=aC):dD gL (n+19) φ (.call (.jq "Headers") [e] [] []) H=ok (.ref H.length) (H++ [Ru j]):=
 ald asw ZV (mH he) (by
  exact aO (bk (show(182:Nat)≠gL.gh by decide+kernel)) (Qd hr hp hl))
end
end
section
section
variable {n i j k z w:Nat}
def amb (hm:G7.contains m=au)(hd:d.length<100)(hl:lk.contains H.length=aC):X4 lk (H++ [.inst c d]++T) (.ref H.length) m v=ok () (H++ [.inst c (upd d m v)]++T):=
 m9 hm (d9 rfl (d9 (f9 n8) (m9 (gO hd) (by
  exact aO (V6 hl) (aO (U9 (aO az (eE _))) (aO af8 rfl))))))
def aBw:G7.contains ("_continuation_ws":aJ)=au:=rfl
def aBx:G7.contains ("_continuation_ws_len":aJ)=au:=rfl
noncomputable abbrev vfL (i z w:Nat):j7:= [("self",.ref i),("headerlen",.int z),("maxlen",.int w),("continuation_ws",.str " "),("splitchars",.str " ")]
def amc (hl:∀T:Hp,lk.contains (H++T).length=aC):o6 gL (n+20) lk 227 [.ref H.length,.int z,.int w,.str " ",.str " "] [] [] (H++ [.inst 286 []])=ok .none (H++ [.inst 286 (mkD w (H.length+1) (H.length+2))]++ [.list [],lB z []]):=by
 have hl0:lk.contains H.length=aC:=by have:=hl [];rwa [bf]at this
 have s:∀{d:j7}{m:aJ}{v:V}{T:Hp},∀J:G7.contains m=au,∀J:d.length<100,X4 lk (H++ [.inst 286 d]++T) (.ref H.length) m v=ok () (H++ [.inst 286 (upd d m v)]++T):=λh1 h2=>amb h1 h2 hl0;have s0:∀{d:j7}{m:aJ}{v:V},∀J:G7.contains m=au,∀J:d.length<100,X4 lk (H++ [.inst 286 d]) (.ref H.length) m v=ok () (H++ [.inst 286 (upd d m v)]):=λ{d m v} h1 h2=>by have:=s (v:=v) (T:= []) h1 h2;rwa [bf,bf]at this
 have e5:∀{d:j7}{m:Nat},dD gL (m+1) ⟨vfL H.length z w, [],lk⟩ (.lst []) (H++ [.inst 286 d])=ok (.ref (H.length+1)) (H++ [.inst 286 d]++ [.list []]):=λ{d m}=>by have:=Q8 (G:=gL) (n:=m) (φ:=⟨vfL H.length z w, [],lk⟩) (H:=H++ [.inst 286 d]) j4;rw[az]at this;exact this
 have e6:∀{d:j7},dD gL (n+18) ⟨vfL H.length z w, [],lk⟩ (.call (.jq "_Accumulator") [(.loc "headerlen")] [] []) (H++ [.inst 286 d]++ [.list []])=ok (.ref (H.length+2)) (H++ [.inst 286 d]++ [.list [],lB z []]):=λ{d}=>by have:=aA1 (n:=n+7) (φ:=⟨vfL H.length z w, [],lk⟩) (e:= .loc "headerlen") (H:=H++ [.inst 286 d]++ [.list []]) (d7 rfl) (by rw[aQ];exact hl _);rw[show(H++ [m6.inst 286 d]++ [m6.list []]).length=H.length+2 from by refine aO az (aO az ?_);rfl,aQ (H++ [m6.inst 286 d]) [_] [_]]at this;exact this
 refine K5 rfl rfl rfl rfl
  (m7 (p8 (d7 rfl) (Zm (d7 rfl) (s0 asr (show 0<100 by decide)))) (m7 (p8 (d7 rfl) (Zm (d7 rfl) (s0 aBw (show 1<100 by decide)))) (m7 (p8 (Q9 O4 (d7 rfl) rfl) (Zm (d7 rfl) (s0 aBx (show 2<100 by decide)))) (qN3 (p8 (d7 rfl) (Zm (d7 rfl) (s0 ass (show 3<100 by decide)))) (p8 e5 (Zm (d7 rfl) (s ZM (show 4<100 by decide)))) (p8 e6 (Zm (d7 rfl) (s ZP (show 5<100 by decide)))))))) ?_
 refine aO az ?_;exact Kl (by
  show((V.int w).lt (H.length+1)&&((V.str " ").lt (H.length+1)&&((V.int 1).lt (H.length+1)&&((V.str " ").lt (H.length+1)&&((V.ref (H.length+1)).lt (H.length+1)&&((V.ref (H.length+2)).lt (H.length+1)&&au))))))=aC;simp only[aj8,vd,gY,gY,gY,gY])
def a1b {H1:Hp}(ha:dD gL (n+20) φ a H=ok (.int z) H)(hb:dD gL (n+20) φ b H=ok (.int w) H)(hl:∀T:Hp,φ.lk.contains (H++T).length=aC):dD gL (n+21) φ (.call (.jq "_ValueFormatter") [a,b,PK,PK] [] []) H=ok (.ref H.length) (H++ [.inst 286 (mkD w (H.length+1) (H.length+2))]++ [.list [],lB z []]):=
 ald aQj aBv (Zg ha hb j6 j6) (by
  exact aO (bk (show(286:Nat)≠gL.gh by decide+kernel)) (amc hl))
end
end
section
def jB (b:Bool)(k:Nat):aJ:=toS (dj (k+1) (if b then 65 else 97))
def aae (b:Bool)(k:Nat):Bool:=(bQ (jB b k)==jB aC k)&&(bC (jB b k)&& !((jB b k).cps.toList.any RE.jY))
def a1c:((dm 7).all λk=>aae au k&&aae aC k)=au:=by kernel_rfl
def aaf {b:Bool}(h:k<7):aae b k=au:=by
 have:=bj.mp a1c k (cP.mpr h);have:=j8 this;cases b
 ·exact this.2
 ·exact this.1
def ac2 {b:Bool}(h:k<7):bQ (jB b k)=jB aC k:=gM (j8 (aaf h)).1
def at5 (h:k<7):bC (jB b k)=au:=(j8 (j8 (aaf h)).2).1
def an4 {b:Bool}(h:k<7):(jB b k).cps.toList.any RE.jY=aC:=by
 have:=(j8 (j8 (aaf (b:=b) h)).2).2;cases q:(jB b k).cps.toList.any RE.jY
 ·rfl
 ·rw[q]at this;exact qI this
def X3:(jB b k).length=k+1:=(J1 _).trans jm
def aq7 (h:k<7):(jB b k).length≤1000:=aO X3 (aq h (by decide))
def Rv (h:k<7):Ed (jB aC k):=⟨ac2 h,at5 h,an4 h,aq7 h⟩
def asy (h:k<7):Rt (jB b k):=⟨aO (ac2 h) (at5 h),aO (ac2 h) (aq7 h)⟩
def aah:(jB b j==jB b k)=(j==k):=by
 by_cases h:j=k
 ·subst h;exact(beq_self_eq_true _).trans (beq_self_eq_true j).symm
 ·refine(beq_eq_false_iff_ne.mpr λq=>h ?_).trans (beq_eq_false_iff_ne.mpr h).symm
  have:=congrArg wL q;rw[X3,X3]at this;exact nQ this
structure Tx (l:List Nat):Prop where
 ch:∀c∈l,c=32∨c=111∨c=120∨c=121∨c=122
 len:l.length≤400
 hd:∃c r,l=c::r∧c≠32
 la:∃c r,l=r++ [c]∧c≠32
def Tx.lt (h:Tx l):∀c∈l,c<256:=λc hc=>by rcases h.ch c hc with rfl | rfl | rfl | rfl | rfl<;>decide
def Tx.ok (h:Tx l):bC (toS l)=au:=by show(l.toArray.all λx=>decide (x<1114112))=au;exact aO tC (bj.mpr λx hx=>gO (dG (h.lt x hx) (by decide)))
def amd:(RE.jz 32 || RE.jz 111 || RE.jz 120 || RE.jz 121 || RE.jz 122)=aC:=rfl
def Tx.vl (h:Tx l):zr (toS l):=⟨by
 refine eF.mpr λq=> ?_;obtain⟨c,hc,hb⟩:=jW.mp q;have t:=amd;simp only[dI]at t;rcases h.ch c hc with rfl | rfl | rfl | rfl | rfl
 ·exact qI (t.1.1.1.1.symm.trans hb)
 ·exact qI (t.1.1.1.2.symm.trans hb)
 ·exact qI (t.1.1.2.symm.trans hb)
 ·exact qI (t.1.2.symm.trans hb)
 ·exact qI (t.2.symm.trans hb),aO (J1 l) (aq h.len (by decide))⟩
def Tx.ne (h:Tx l):l≠ []:=λq=>by obtain⟨c,r,e,_⟩:=h.hd;rw[q]at e;exact nxC e
abbrev Ent:=(Bool×Nat)×List Nat
abbrev eP (e:Ent):aJ×aJ:=(jB e.1.1 e.1.2,toS e.2)
noncomputable abbrev jx (c:Nat)(e:Ent):Bool:=e.1.2==c
def lF (es:List Ent)(c:Nat):List (List Nat):=(es.filter (jx c)).map (·.2)
noncomputable def Qe (l:List Nat):List Nat:=if l= [] then[111] else l
def rd (es:List Ent)(c:Nat):List Nat:=Qe (rowsOf 32 (lF es c))
structure J3 (es:List Ent):Prop where
 ix:∀e∈es,e.1.2<7
 tx:∀e∈es,Tx e.2
 len:es.length≤10
section
variable {es:List Ent}{c:Nat}
def am6 (h:J3 es):∀p∈es.map eP,Rt p.1:=λp hp=>by obtain⟨e,he,rfl⟩:=cC.mp hp;exact asy (h.ix e he)
def asz (he:e.1.2<7):(bQ (eP e).1==jB aC c)=jx c e:=by rw[ac2 he,aah]
def aB6 (q:Bool->Bool):∀es:List Ent,∀J:(∀e∈es,e.1.2<7),(es.map eP).filter (λp=>q (bQ p.1==jB aC c))=(es.filter λe=>q (jx c e)).map eP:=by
 intro zz
 induction zz with
 | nil=>
  intro _;exact rfl
 | cons e es ih=>
  intro h;have e1:=ih λe he=>h e (.tail _ he);have e2:q (bQ (eP e).1==jB aC c)=q (jx c e):=congrArg q (asz (h e (.head _)));cases w:q (jx c e) with
  | true=>rw[cF,bD (by rw[e2,w]),bD (by rw[w]),e1,cF]
  | false=>rw[cF,bw (by rw[e2,w];exact aR),bw (by rw[w];exact aR),e1]
end
end
section
section
variable {es:List Ent}{c k:Nat}
def rep_1 (x:Nat):∀k:Nat,rep [x] (k:Int)=dj k x:=by
 intro k;show(dj k [x]).flatten=_
 induction k with
 | zero=>rfl
 | succ k ih=>rw[iZ,jD,ih,iZ];rfl
def aBy (h:k≤1000):few (k:Int)=au:=by delta few;refine aO (gO (cA k)) (aO (gO (dF (fM.mpr h) (by decide))) ?_);rfl
def av9 (h:k≤1000):V0 H .Mult (.str (toS [x])) (.int k)=ok (V.str (toS (dj k x))) H:=by show opt (aa (k:Int)) (λn=>fu (few n&&room ((toS [x]).length*n.toNat)) (ok (V.str (toS (rep [x] n))) H))=_;refine aO aF0 ?_;refine aO (aBy h) (aO (rep_1 x k) (m9 ?_ rfl));rw[rY];exact M9 (aO (show(toS [x]).length=1 from rfl) (aO (Nat.one_mul _) h))
def add_n {a b:Nat}:V0 H .Add (.int a) (.int b)=ok (.int (a+b:Nat)) H:=rfl
def R9 {a:Nat}(b:Nat)(h:0<b):V0 H .Mod (.int a) (.int b)=ok (.int (a % b:Nat)) H:=by show fu (decide ((0:Int)<b)) (ok (V.int ((a:Int).fmod b)) H)=_;refine aO (gO (je.mpr h)) ?_;rw[Int.fmod_eq_emod_of_nonneg _ (cA b)];rfl
def ak6 {a:Nat}(b:Nat)(h:0<b)(hz:b≤10000):V0 H .FloorDiv (.int a) (.int b)=ok (.int (a/b:Nat)) H:=by show fu (decide ((0:Int)<b)&&decide ((b:Int)<1073741824)) (ok (V.int ((a:Int).fdiv b)) H)=_;have h1:decide ((0:Int)<b)=au:=gO (je.mpr h);have h2:decide ((b:Int)<1073741824)=au:=gO (je.mpr (bB hz (show 10000<1073741824 by decide)));rw[h1,h2,Bg _ (cA b)];rfl
def aai {b:Bool}(hc:c<7)(he:dD gL (n+1) φ e H=ok (.int c) H):dD gL (n+3) φ (.bin .Mult (.cst (.str (toS [if b then 65 else 97]))) (.bin .Add e e_1)) H=ok (.str (jB b c)) H:=
 o9 j6 (o9 he j6 (add_n)) (av9 (aq (dK (bz hc)) (by decide)))
def Ko (h:s.length≤1000):U5 H (.str s)=aa (s.length !=0):=m9 (M9 h) rfl
theorem aF6:∀ls:List (List Nat),(rowsOf x ls).length≤(ls.map (·.length+1)).sum
 | []=>aN 0
 | [a]=>by show a.length≤a.length+1+0;exact eY _
 | a::b::r=>by rw[aG9,az,dZ,cF,nH,iH,dH 1];exact bG (dK (aF6 (b::r))) _
theorem ai0 {α:Type}{f:α->Nat}{m:Nat}:∀l:List α,∀J:(∀a∈l,f a≤m),(l.map f).sum≤l.length*m
 | [],_=>bR _
 | a::l,h=>by rw[cF,nH,dZ,Nat.succ_mul,dH];exact dg (ai0 l λb hb=>h b (.tail _ hb)) (h a (.head _))
def an5 (h:J3 es):(lF es c).length≤10:=by show((es.filter (jx c)).map _).length≤10;rw[aF];exact aq (dO _ _) h.len
def GP (h:J3 es):∀t∈lF es c,Tx t:=λt ht=>by obtain⟨e,he,rfl⟩:=cC.mp ht;exact h.tx e (cG.mp he).1
def Qf (cl:Cl lk H)(h:O2 H i j (es.map eP))(hE:J3 es)(hc:c<7)(hr:(rowsOf 32 (lF es c)).length≤1000):o6 gL (n+28) lk 388 [.ref i,.int c] [] [] H=ok (.str (toS (rd es c))) H:=by
 have a:=ZD (n:=n+3) (nm:=jB au c) cl h (ac2 hc) (Rv hc) (λp hp=>⟨rfl,(am6 hE p hp).ok,(am6 hE p hp).len⟩) (aq (cN (aF ..)) (aq hE.len (by decide)));rw[show((es.map eP).filter λp=>bQ p.1==jB aC c)=(es.filter (jx c)).map eP from aB6 (λb=>b) es hE.ix,bF]at a;have hx:(H++ [m6.list ((es.filter (jx c)).map ((λp:aJ×aJ=>V.str p.2)∘eP))])[H.length]?=aa (.list (((lF es c).map toS).map V.str)):=by refine n8.trans ?_;show _=aa (m6.list ((((es.filter (jx c)).map (·.2)).map toS).map V.str));rw[bF,bF];rfl
 have jn:=λr=>as8 (r:=r) (lk:=lk) (ov:= .str " ") hx (by
  rw[bF,aF];refine aq (dg (ai0 (m:=400) _ λt ht=> ?_) (aN _)) ?_
  ·show(toS t).length≤400
   exact aO (J1 t) (GP hE t ht).len
  ·refine aO (show(" ":aJ).length=1 from rfl) ?_
   exact aq (dg (dh _ (an5 hE)) (dh _ (an5 hE))) (by decide))
 have jr:qj (" ":aJ) ((lF es c).map toS)=toS (rowsOf 32 (lF es c)):=join_rows 32 _;rw[jr]at jn;refine w7 (H':=H++ [m6.list ((es.filter (jx c)).map ((λp:aJ×aJ=>V.str p.2)∘eP))]) rfl rfl rfl rfl (M4 (R0 (rOr (p6 j6 (R2 as7) (mH (p6 (d7 rfl) (J2 h.inst aBc) (mH (aai (b:=au) hc (d7 rfl))) j4 a)) j4 (jn _)) (Ko (aO (J1 _) hr)) ?_))) (cl.drop rfl);rw[J1];show _=ok (V.str (toS (Qe (rowsOf 32 (lF es c))))) _;cases q:rowsOf 32 (lF es c) with
 | nil=>exact j6
 | cons x r=>rfl
def ay4 {s:aJ}(h:s.length≤1000):o6 gL (n+5) lk 402 [.str s] [] [] H=ok (.int s.length) H:=
 w7 rfl rfl rfl rfl (M4 (R0 (Q9 O4 (d7 rfl) (U6 rfl (by
  show fu (room s.length) (ok (V.int s.length) H)=_;exact m9 (M9 h) rfl))))) (H7 rfl)
end
end
section
section
variable {H:Hp}{i x lo hi n:Nat}{l:List aJ}
def Dh {l:List j0}(hf:dD G (n+1) φ f H=ok (.gl (.ref ad)) H)(hm:G.bW ad "__init__"=aB)(ha:O6 (dD G (n+1) φ) l H=ok vs H1)(hk:O6 (dD G (n+1) φ) Ia H1=ok ks H2)(k:o6 G (n+1) φ.lk ad vs kn ks H2=R):dD G (n+2) φ (.call f l kn Ia) H=R:=
 j9 hf (j9 ha (j9 hk (by
  show(match G.bW ad ("__init__":aJ) with | some g=>Aa G (o8 G (n+1)) φ.lk ad g vs kn ks H2 | none=>o6 G (n+1) φ.lk ad vs kn ks H2)=R;refine aO hm ?_;exact k)))
noncomputable abbrev Qg:V:= .gl (.ref 402)
noncomputable abbrev mdE:Option Nat->j7
 | none=> []
 | some m=> [("mid",.int m)]
abbrev bsE (i x lo hi:Nat)(o:Option Nat):j7:=("a",.ref i)::("x",.int x)::("lo",.int lo)::("hi",.int hi)::("key",Qg)::mdE o
abbrev bSt (i x lo hi:Nat)(o:Option Nat)(H:Hp):St:=⟨bsE i x lo hi o, [],H⟩
def a1e (h:lo<hi):lo≤(lo+hi)/2∧(lo+hi)/2<hi:=⟨(Nat.le_div_iff_mul_le (by decide)).mpr ((Nat.mul_two lo).symm▸bG (bz h) lo),(Nat.div_lt_iff_lt_mul (by decide)).mpr ((Nat.mul_two hi).symm▸bA h hi)⟩
def aQn {x y:Nat}:V0 H .FloorDiv (.int ((x:Int)+y)) (.int 2)=ok (.int ((x+y)/2:Nat)) H:=by rw[←aAv];rfl
def aaj (h:x<y):K7 H .Lt (.int x) (.int y)=aa au:=congrArg aa (gO (je.mpr h))
def aB7 (h:¬x<y):K7 H .Lt (.int x) (.int y)=aa aC:=congrArg aa (decide_eq_false λq=>h (je.mp q))
def aU3 {bd:List t6}{r:Nat}(hT:∀m lo hi o,∀J:m<r,∀J:m=(lo+hi)/2,z8 (ik gL (n+9) lk) bd (bSt i x lo hi o H)=eO .next (bSt i x (m+1) hi (aa m) H))(hF:∀m lo hi o,∀J:r≤m,∀J:m<z,∀J:m=(lo+hi)/2,z8 (ik gL (n+9) lk) bd (bSt i x lo hi o H)=eO .next (bSt i x lo m (aa m) H)):
  ∀k lo hi o,∀J:hi-lo≤k,∀J:lo≤r,∀J:r≤hi,∀J:hi≤z,∃o',BZ (λσ=>lq σ (uH gL (n+9) (σ.fm lk) e_44 σ.hp)) (z8 (ik gL (n+9) lk) bd) (k+1) (bSt i x lo hi o H)=eO .next (bSt i x r r o' H):=λk=>by
 induction k with
 | zero=>
  intro lo hi o h1 h2 h3 _;obtain rfl:hi=lo:=jC (uN (Nat.le_zero.mp h1)) (aq h2 h3);obtain rfl:hi=r:=jC h2 h3;exact⟨o,aAr (M8 (t8 (v7 (d7 rfl) (d7 rfl) (aB7 (dW hi)))))⟩
 | succ k ih=>
  intro lo hi o h1 h2 h3 h4;by_cases hlt:lo<hi
  ·have hm:=a1e hlt
   have hc:=M8 (σ:=bSt i x lo hi o H) (t8 (n:=n+8) (v7 (d7 (G:=gL) (φ:=⟨bsE i x lo hi o, [],lk⟩) (s:="lo") (H:=H) rfl) (d7 (s:="hi") rfl) (aaj hlt)));by_cases hy:(lo+hi)/2<r
   ·obtain⟨o',q⟩:=ih ((lo+hi)/2+1) hi (aa ((lo+hi)/2)) (cZ (aM (Nat.sub_lt_sub_left hlt (xV hm.1)) h1)) hy h3 h4
    exact⟨o',arw hc (hT _ lo hi o hy rfl) q⟩
   ·obtain⟨o',q⟩:=ih lo ((lo+hi)/2) (aa ((lo+hi)/2)) (cZ (aM (Nat.sub_lt_sub_right hm.1 hm.2) h1)) h2 (cV hy) (aq (bz hm.2) h4)
    exact⟨o',arw hc (hF _ lo hi o (cV hy) (aM hm.2 h4) rfl) q⟩
  ·obtain rfl:hi=lo:=jC (cV hlt) (aq h2 h3)
   obtain rfl:hi=r:=jC h2 h3;exact⟨o,aAr (M8 (t8 (v7 (d7 rfl) (d7 rfl) (aB7 (dW hi)))))⟩
structure Ws (H:Hp)(i:Nat)(l:List aJ):Prop where
 row:H[i]?=aa (.list (l.map V.str))
 len:l.length≤4
 sm:∀s∈l,s.length≤10
def a1f {k:Nat}(e:l[k]?=aa s):(l.map V.str)[k]?=aa (.str s):=by refine aO (gF ..) (aO e ?_);rfl
def aH4 (W:Ws H i l)(e:l[(lo+hi)/2]?=aa s)(hz:(lo+hi)/2≤1000):dD gL (n+7) ⟨bsE i x lo hi (aa ((lo+hi)/2)), [],lk⟩ e_55 H=ok (.int s.length) H:=
 Dh (d7 rfl) rfl (mH (O1 (d7 rfl) (d7 rfl) (Z3 W.row (a1f e) hz))) j4 (ay4 (aq (W.sm s (rz _ e)) (by decide)))
def aB8 (o:Option Nat):ik gL (n+8) lk (.asg Ec e_21) (bSt i x lo hi o H)=eO .next (bSt i x lo hi (aa ((lo+hi)/2)) H):=by cases o<;>exact p8 (o9 (o9 (d7 rfl) (d7 rfl) rfl) j6 aQn) o5
def aak (W:Ws H i l):wG gL (o8 gL (n+1)) lk "len" (.ref i) H=ok (.int l.length) H:=by refine U6 (ao8 W.row) ((ao6 W.row).trans ?_);rw[aF]
def aal (W:Ws H i l)(hr:∀j s,∀J:l[j]?=aa s,(s.length<x↔j<r))(hz:r≤l.length):o6 gL (n+14) lk 213 [.ref i,.int x] ["key"] [Qg] H=ok (.int r) H:=by
 refine uG λY Z=> ?_;obtain⟨o',e⟩:=aU3 (n:=n+2) (lk:=lk) (bd:=Zc)
  (λm lo hi o h q=>by
   subst q;have h2:=aM h hz;have e:=bU h2;exact m7 (aB8 o) (rM (J6 (t8 (v7 (aH4 W e (aq (bz h2) (aq W.len (by decide)))) (d7 rfl) (aaj ((hr _ _ e).mpr h)))) (rM (p8 (o9 (d7 rfl) j6 rfl) o5)))))
  (λm lo hi o h h2 q=>by
   subst q;have e:=bU h2;exact m7 (aB8 o) (rM (M6 (t8 (v7 (aH4 W e (aq (bz h2) (aq W.len (by decide)))) (d7 rfl) (aB7 λq=>bZ h ((hr _ _ e).mp q)))) (rM (p8 (d7 rfl) o5)))))
  63 0 l.length aB (aq (aeb _ _) (aq W.len (by decide))) (bR _) hz (aN _)
 refine Z ?_;exact w7 rfl rfl rfl rfl
  (m7 (M6 (t8 (v7 (d7 rfl) j6 (aB7 (dW 0)))) R7) (m7 (J6 (t8 (v7 (d7 rfl) j6 rfl)) (rM (p8 (Q9 O4 (d7 rfl) (aak W)) o5))) (m7 (M6 (t8 (v7 (d7 rfl) j6 rfl)) (rM (aAp e))) (M4 (R0 (d7 rfl)))))) (H7 rfl)
def aam (W:Ws H i l)(hr:∀j s,∀J:l[j]?=aa s,(¬x<s.length↔j<r))(hz:r≤l.length):o6 gL (n+14) lk 204 [.ref i,.int x,.int 0,.none] ["key"] [Qg] H=ok (.int r) H:=by
 refine uG λY Z=> ?_;obtain⟨o',e⟩:=aU3 (n:=n+2) (lk:=lk) (bd:=Zb)
  (λm lo hi o h q=>by
   subst q;have h2:=aM h hz;have e:=bU h2;exact m7 (aB8 o) (rM (M6 (t8 (v7 (d7 rfl) (aH4 W e (aq (bz h2) (aq W.len (by decide)))) (aB7 ((hr _ _ e).mpr h)))) (rM (p8 (o9 (d7 rfl) j6 rfl) o5)))))
  (λm lo hi o h h2 q=>by
   subst q;have e:=bU h2;exact m7 (aB8 o) (rM (J6 (t8 (v7 (d7 rfl) (aH4 W e (aq (bz h2) (aq W.len (by decide)))) (aaj (Es.mp λq=>bZ h ((hr _ _ e).mp q))))) (rM (p8 (d7 rfl) o5)))))
  63 0 l.length aB (aq (aeb _ _) (aq W.len (by decide))) (bR _) hz (aN _)
 refine Z ?_;exact w7 rfl rfl rfl rfl
  (m7 (M6 (t8 (v7 (d7 rfl) j6 (aB7 (dW 0)))) R7) (m7 (J6 (t8 (v7 (d7 rfl) j6 rfl)) (rM (p8 (Q9 O4 (d7 rfl) (aak W)) o5))) (m7 (M6 (t8 (v7 (d7 rfl) j6 rfl)) (rM (aAp e))) (M4 (R0 (d7 rfl)))))) (H7 rfl)
def aan:gL.glob "bisect_right"=aa (.gl (.ref 204)):=rfl
def a1g:gL.glob "bisect_left"=aa (.gl (.ref 213)):=rfl
def aao:gL.glob "insort_right"=aa (.gl (.ref 195)):=rfl
def GQ:gL.glob "_law_turn"=aa Qg:=rfl
def amh {s:aJ}(W:Ws H i l)(hs:s.length≤10)(hr:∀j t,∀J:l[j]?=aa t,(¬s.length<t.length↔j<r))(hz:r≤l.length)(hl:lk.contains i=aC):o6 gL (n+20) lk 195 [.ref i,.str s] ["key"] [Qg] H=ok .none (H.set i (.list ((l.take r++s::l.drop r).map V.str))):=by
 refine K5 rfl rfl rfl rfl (qN2 (M6 (t8 (v7 (d7 rfl) j6 rfl)) (rM (p8 (Dh (Z2 aan) rfl (Zg (d7 rfl) (Dh (d7 rfl) rfl (mH (d7 rfl)) j4 (ay4 (aq hs (by decide)))) (d7 rfl) (d7 rfl)) (mH (d7 rfl)) (aam W hr hz)) o5))) (J5 (p6 (d7 rfl) (U8 aAw W.row) (rK (d7 rfl) (d7 rfl)) j4 (a0s W.row ?_ ?_ hl)))) ?_
 ·rw[aF];exact hz
 ·rw[aF];exact bB W.len (by decide)
 ·exact aO (bu ..) (aO (wg ..) (aO cF (aO (wi ..) (H7 (cY ..)))))
end
end
section
noncomputable def W4 (a b c d:Bool):List Nat:=(bif a then[0] else[])++((bif b then[1] else[])++((bif c then[2] else[])++bif d then[3] else[]))
def wS (q:Nat->Bool):List Nat:=W4 (q 0) (q 1) (q 2) (q 3)
noncomputable abbrev pls (q:Nat->Bool)(k:Nat):Nat->Bool:=λj=>q j || j==k
noncomputable def R8 (l:List Nat)(k:Nat):Nat:=l.countP (λm=>decide (m<k))
def aBz (l l':List Nat)(b:Bool)(k:Nat):Bool:=
 (decide (R8 l k≤l.length)&&decide (l.length≤4)&&l.all λm=>decide (m<4))&&((l.zipIdx.all λp=>decide (p.1<k)==decide (p.2<R8 l k))&&(((l.drop (R8 l k)).take 1== [k])==b)&&
  bif b then l'==l else(l.zipIdx.all λp=>decide (¬k<p.1)==decide (p.2<R8 l k))&&(l'==l.take (R8 l k)++k::l.drop (R8 l k)))
abbrev bbs:List Bool:= [au,aC]
def aCa:(bbs.all λa=>bbs.all λb=>bbs.all λc=>bbs.all λd=>(dm 4).all λk=>aBz (W4 a b c d) (W4 (a || 0==k) (b || 1==k) (c || 2==k) (d || 3==k)) ((λj=>j==0&&a || j==1&&b || j==2&&c || j==3&&d) k) k)=au:=rfl
def al2 {f:Bool->Bool}(h:bbs.all f=au)(b:Bool):f b=au:=bj.mp h b (by cases b<;>decide)
section
variable {q:Nat->Bool}{k:Nat}
def aQo (h:k<4):((λj=>j==0&&q 0 || j==1&&q 1 || j==2&&q 2 || j==3&&q 3) k)=q k:=by
 rcases k with _ | _ | _ | _ | k
 ·cases q 0<;>rfl
 ·cases q 1<;>rfl
 ·cases q 2<;>rfl
 ·cases q 3<;>rfl
 ·exact absurd h (bZ (cL 4 k))
def aQp (h:k<4):aBz (wS q) (wS (pls q k)) (q k) k=au:=by have:=bj.mp (al2 (al2 (al2 (al2 aCa (q 0)) (q 1)) (q 2)) (q 3)) k (cP.mpr h);rw[aQo h]at this;exact this
structure WAt (q:Nat->Bool)(k:Nat):Prop where
 le:R8 (wS q) k≤(wS q).length
 l4:(wS q).length≤4
 lt:∀m∈wS q,m<4
 low:∀j m:Nat,∀J:(wS q)[j]?=aa m,(m<k↔j<R8 (wS q) k)
 at_:(((wS q).drop (R8 (wS q) k)).take 1== [k])=q k
 old:∀J:q k=au,wS (pls q k)=wS q
 new:∀J:q k=aC,(∀j m:Nat,∀J:(wS q)[j]?=aa m,(¬k<m↔j<R8 (wS q) k))∧wS (pls q k)=(wS q).take (R8 (wS q) k)++k::(wS q).drop (R8 (wS q) k)
def Kp {l:List Nat}{f:Nat×Nat->Bool}(h:l.zipIdx.all f=au)(e:l[j]?=aa m):f (m,j)=au:=
 bj.mp h _ (xY.mpr e)
def Kq [Decidable a] [Decidable b] (h:(decide a==decide b)=au):a↔b:=decide_eq_decide.mp (gM h)
def a1h (h:k<4):WAt q k:=by
 have e:=aQp (q:=q) h;have e1:=j8 (j8 e).1;have e2:=j8 (j8 (j8 e).2).1;have e3:=(j8 (j8 e).2).2;refine⟨gH (j8 e1.1).1,gH (j8 e1.1).2,λm hm=>gH (bj.mp e1.2 m hm),λj m ej=>Kq (Kp e2.1 ej),gM e2.2,λh=> ?_,λh=> ?_⟩
 ·rw[h]at e3;exact gM e3
 ·rw[h]at e3
  replace e3:=j8 e3;refine⟨λj m ej=> ?_,gM e3.2⟩;exact Kq (Kp e3.1 ej)
def bnds_1 {r n:Nat}:eU (aa (r:Int)) (aa ((r+1:Nat):Int)) aB n=(((min r n:Nat):Int),((min (r+1) n:Nat):Int),(1:Int)):=by
 show((max 0 (min (if (r:Int)<0 then(r:Int)+n else r) (n:Int)),max 0 (min (if ((r+1:Nat):Int)<0 then((r+1:Nat):Int)+n else((r+1:Nat):Int)) (n:Int)),1):Int×Int×Int)=_;have e:∀r n:Nat,max 0 (min (if (r:Int)<0 then(r:Int)+n else r) (n:Int))=((min r n:Nat):Int):=λr n=>by
  rw[bk (ig.mpr (cA r))];rcases Nat.le_total r n with h | h
  ·rw[lz h,avb (fM.mpr h)];exact mR (cA _)
  ·rw[aou h,Int.min_eq_right (fM.mpr h)];exact mR (cA _)
 rw[e,e]
def aap {α:Type}{l:List α}{r:Nat}(h:r≤l.length):jM l (aa (r:Int)) (aa ((r+1:Nat):Int)) aB=(l.drop r).take 1:=by
 rw[ap1 bnds_1 (Nat.le_min.mpr ⟨aq (aus _ _) (eY r),tM _ _⟩) (tM _ _),lz h];by_cases q:r<l.length
 ·rw[lz (show r+1≤l.length from q),iV]
 ·have:r=l.length:=jC h (cV q)
  rw[this,pO,List.take_nil,List.take_nil]
theorem aU4:∀xs ys:List aJ,rO (xs.map pJ) (ys.map pJ)=(xs==ys)
 | [], []=>rfl
 | [],_::_=>rfl
 | _::_, []=>rfl
 | x::xs,y::ys=>by show((x==y)&&rO (xs.map pJ) (ys.map pJ))=_;rw[aU4 xs ys];rfl
def amj (n:Nat):∀xs:List aJ,∀J:(∀x∈xs,bC x=au),(xs.map V.str).mapM (R4 H (n+1))=aa (xs.map pJ):=by
 intro zz
 induction zz with
 | nil=>
  intro _;rfl
 | cons x xs ih=>
  intro h;rw[cF,oM,ih λy hy=>h y (.tail _ hy),show R4 H (n+1) (.str x)=aa (.str x) from m9 (h x (.head _)) rfl];rfl
def aaq {xs:List aJ}(hi:H[i]?=aa (.list (xs.map V.str)))(h:∀x∈xs,bC x=au)(n:Nat):R4 H (n+2) (.ref i)=aa (.list (xs.map pJ)):=
 d9 hi (d9 rfl (by rw[amj n xs h];rfl))
def Kr {xs ys:List aJ}(hi:H[i]?=aa (.list (xs.map V.str)))(hj:H[j]?=aa (.list (ys.map V.str)))(hx:∀x∈xs,bC x=au)(hy:∀x∈ys,bC x=au):K7 H .NotEq (.ref i) (.ref j)=aa (!(xs==ys)):=by show(opt (R4 H 8 (.ref i)) λx=>opt (R4 H 8 (.ref j)) λy=>aa (km x y)).map (!·)=_;rw[aaq hi hx 6,aaq hj hy 6];show aa (!(rO (xs.map pJ) (ys.map pJ)))=_;rw[aU4]
end
end
section
abbrev w6:=Nat×Nat×Nat
abbrev nP (e:w6):aJ×aJ:=(jB au (e.1+3),toS [97+e.2.1,97+e.2.2])
structure NOk (e:w6):Prop where
 k:e.1<4
 a:e.2.1<7
 b:e.2.2<7
noncomputable abbrev hit (c:Nat)(e:w6):Bool:=c==e.2.1 || c==e.2.2
abbrev wk1 (c:Nat)(e:w6)(q:Nat->Bool):Nat->Bool:=if hit c e=au then pls q e.1 else q
noncomputable def Di (c:Nat):List w6->(Nat->Bool)->(Nat->Bool)
 | [],q=>q
 | e::r,q=>Di c r (wk1 c e q)
def vI (q:Nat->Bool):List aJ:=(wS q).map λk=>jB au (k+3)
abbrev wO (q:Nat->Bool):m6:= .list ((vI q).map V.str)
def rIn (h1:dD G n φ a H=ok x H1)(h2:dD G n φ b H1=ok y H2)(hy:lE H2 y=aB)(k:K7 H2 .In x y=aa bb):dD G (n+1) φ (.cmp .In a b) H=ok (.bool bb) H2:=j9 h1 (j9 h2 (by
 show(match fu au (opt (lE H2 y) λp=>G.bW p.2.1 ("__contains__":aJ)) with | some f=>_ | none=>opt (K7 H2 .In x y) λc=>ok (V.bool c) H2)=_;rw[hy];exact d9 k rfl))
section
variable {H T:Hp}{q:Nat->Bool}{i c w k n:Nat}{e:w6}
def aCb (h:c<7):O7 H "chr" (.int (97+c:Nat))=ok (.str (toS [97+c])) H:=by delta O7;refine aO (bk (by decide)) (aO (bk (by decide)) (aO (bN rfl) (d9 rfl (m9 ?_ rfl))));rw[gO (cA _),gO (show((97+c:Nat):Int)<128 from je.mpr (aM (fc h 97) (by decide)))];rfl
def aCc:gL.glob "chr"=aa (.gl (.builtin "chr")):=rfl
def aar (h:c<7):wG gL r lk "chr" (.int (97+c:Nat)) H=ok (.str (toS [97+c])) H:=U6 rfl (aCb h)
def ap2 (hc:c<7)(he:dD gL (n+1) φ e' H=ok (.int c) H):dD gL (n+3) φ (.call (.jq "chr") [(.bin .Add (.cst (.int 97)) e')] [] []) H=ok (.str (toS [97+c])) H:=
 Q9 aCc (o9 j6 he (add_n)) (aar hc)
def add_eq (a b:Nat):(97+a==97+b)=(a==b):=by
 by_cases h:a=b
 ·rw[h,beq_self_eq_true,beq_self_eq_true]
 ·rw[beq_eq_false_iff_ne.mpr h,beq_eq_false_iff_ne.mpr λq=>h (nG q)]
def amk:K7 H .In (.str (toS [97+c])) (.str (nP e).2)=aa (hit c e):=by show aa ([97+e.2.1,97+e.2.2].contains (97+c))=_;rw[qW,qW,aec,jL,add_eq,add_eq]
def atd {j:Nat}(h:(vI q)[j]?=aa t):∃m,(wS q)[j]?=aa m∧t=jB au (m+3):=by
 unfold vI at h;rw[gF]at h;cases h':(wS q)[j]? with
 | none=>rw[h']at h;exact iz h
 | some m=>rw[h']at h;exact⟨m,rfl,(ak h).symm⟩
def aas (h:t∈vI q):∃m,m<4∧t=jB au (m+3):=by obtain⟨m,hm,rfl⟩:=cC.mp h;exact⟨m,(a1h (k:=0) (by decide)).lt m hm,rfl⟩
def aCd:∀t∈vI q,bC t=au:=λt h=>by obtain⟨m,hm,rfl⟩:=aas h;exact at5 (bA hm 3)
def aat:(vI q).length=(wS q).length:=aF ..
def ate (h:H[w]?=aa (wO q)):Ws H w (vI q):=⟨h,aO aat (a1h (k:=0) (by decide)).l4,λt h=>by
 obtain⟨m,hm,rfl⟩:=aas h;exact aO X3 (aK hm 3 |>λh=>aq h (by decide))⟩
theorem map_one:∀l:List Nat,∀J:l.length≤1,(l.map (λk=>jB au (k+3))== [jB au (k+3)])=(l== [k])
 | [],_=>rfl
 | [j],_=>by
  show((jB au (j+3)==jB au (k+3))&&au)=((j==k)&&au);rw[aah];by_cases h:j=k
  ·rw[h,beq_self_eq_true,beq_self_eq_true]
  ·rw[beq_eq_false_iff_ne.mpr h,beq_eq_false_iff_ne.mpr λq=>h (mF q)]
 | _::_::_,h=>absurd h (tR (Nat.succ_lt_succ (fO _)))
noncomputable abbrev wkE:Option ((aJ×aJ)×Option Nat)->j7
 | none=> []
 | some (p,aB)=> [("one",.str p.1),("pair",.str p.2)]
 | some (p,aa r)=> [("one",.str p.1),("pair",.str p.2),("place",.int r)]
abbrev wkL (i c w:Nat)(o:Option ((aJ×aJ)×Option Nat)):j7:=("notes",.ref i)::("cell",.int c)::("waits",.ref w)::wkE o
def GR (o:Option ((aJ×aJ)×Option Nat))(p:aJ×aJ):I6 gL (n+2) lk (.tup [.loc "one",.loc "pair"]) (pV p) ⟨wkL i c w o, [],H⟩=eO () ⟨wkL i c w (aa (p,o.elim aB (·.2))), [],H⟩:=by rcases o with _ | ⟨p',_ | r⟩<;>exact Z9 o5 o5
def aU5 (hw:w<H.length):(H.set w o++T).set w o'=H.set w o'++T:=by rw[U9 (by rw[cY];exact hw),qO]
def aD6 {o:m6}(hw:w<H.length):(H.set w o++T)[w]?=aa o:=f9 (gW hw)
def Qh (hc:c<7)(he:NOk e)(hw:w<H.length)(hl:lk.contains w=aC)(o:Option ((aJ×aJ)×Option Nat)):
  ∃o' T',Z8 gL (n+40) lk (.tup [.loc "one",.loc "pair"]) Gw (pV (nP e)) ⟨wkL i c w o, [],H.set w (wO q)++T⟩=eO .next ⟨wkL i c w (aa (nP e,o')), [],H.set w (wO (wk1 c e q))++(T++T')⟩:=by
 have tG:uH gL (n+39) ⟨wkL i c w (aa (nP e,o.elim aB (·.2))), [],lk⟩ e_67 (H.set w (wO q)++T)=ok (hit c e) (H.set w (wO q)++T):=by cases o.elim aB (·.2)<;>exact t8 (rIn (ap2 hc (d7 rfl)) (d7 rfl) rfl amk)
 cases hh:hit c e with
 | false=>
  rw[hh]at tG;refine⟨o.elim aB (·.2), [],Y6 (GR o (nP e)) (m7 (M6 tG R7) ?_)⟩;rw[bf];delta wk1;rw[hh];rfl
 | true=>
  rw[hh]at tG;have Wk:=a1h (q:=q) he.k;have Wr:=ate (aD6 (T:=T) (o:=wO q) hw);have hlen:(jB au (e.1+3)).length=e.1+3+1:=X3;have hz:R8 (wS q) e.1≤(vI q).length:=by rw[aat];exact Wk.le
  have pl:∀o'',ik gL (n+39) lk (.asg (.loc "place") (.call (.jq "bisect_left") [e_54,e_59] ["key"] [(.jq "_law_turn")])) ⟨wkL i c w (aa (nP e,o'')), [],H.set w (wO q)++T⟩=eO .next ⟨wkL i c w (aa (nP e,aa (R8 (wS q) e.1))), [],H.set w (wO q)++T⟩:=λo''=>by
   have hb:=aal (n:=n+23) (lk:=lk) (x:=(jB au (e.1+3)).length) Wr (λj t hj=>by
    obtain⟨m,hm,rfl⟩:=atd hj;rw[X3,X3,nO,nO];exact Wk.low j m hm) hz
   cases o''<;>exact p8 (Dh (Z2 a1g) rfl (rK (d7 rfl) (Q9 O4 (d7 rfl) (U6 rfl (m9 (M9 (aO X3 (aq (aK (bz he.k) 4) (by decide)))) rfl)))) (mH (Z2 GQ)) hb) o5
  have ht:∀t∈((vI q).drop (R8 (wS q) e.1)).take 1,bC t=au:=λt h=>aCd t (List.mem_of_mem_drop (uZ h));have cu:=aj9 (x:= .int (R8 (wS q) e.1)) (y:= .int (R8 (wS q) e.1+1:Nat)) (z:= .none) Wr.row rfl rfl rfl (λq=>iz q);rw[aap (by rw[aF];exact hz),←wi,←wg]at cu;have hn:=Kr (H:=H.set w (wO q)++T++ [m6.list ((((vI q).drop (R8 (wS q) e.1)).take 1).map V.str)]++ [m6.list ([jB au (e.1+3)].map V.str)]) (f9 n8) n8 ht (λt h=>by rw[aH.mp h];exact at5 (bA he.k 3));rw[show(((vI q).drop (R8 (wS q) e.1)).take 1== [jB au (e.1+3)])=q e.1 from by
   unfold vI;rw[←wi,←wg,map_one _ (QX _ _)];exact Wk.at_]at hn
  have cmp:dD gL (n+37) ⟨wkL i c w (aa (nP e,aa (R8 (wS q) e.1))), [],lk⟩ e_61 (H.set w (wO q)++T)=ok (.bool (!(q e.1))) (H.set w (wO q)++T++ [m6.list ((((vI q).drop (R8 (wS q) e.1)).take 1).map V.str)]++ [m6.list ([jB au (e.1+3)].map V.str)]):=
   v7 (Ao (d7 rfl) (d7 rfl) (o9 (d7 rfl) j6 (add_n)) j6 cu) (Q8 (mH (d7 rfl))) hn
  have hwk:wk1 c e q=pls q e.1:=bN hh;rw[hwk];cases hq:q e.1 with
  | true=>
   rw[hq]at cmp;refine⟨aa (R8 (wS q) e.1), [m6.list ((((vI q).drop (R8 (wS q) e.1)).take 1).map V.str)]++ [m6.list ([jB au (e.1+3)].map V.str)],Y6 (GR o (nP e)) (m7 (J6 tG (qN2 (pl _) (M6 (t8 cmp) R7))) ?_)⟩;rw[show wO (pls q e.1)=wO q from by delta wO vI;rw[Wk.old hq]];simp only[aQ];exact R7
  | false=>
   rw[hq]at cmp;have Wn:=Wk.new hq;have aml:=amh (n:=n+16) (s:=jB au (e.1+3)) (ate (H:=H.set w (wO q)++T++ [m6.list ((((vI q).drop (R8 (wS q) e.1)).take 1).map V.str)]++ [m6.list ([jB au (e.1+3)].map V.str)]) (f9 (f9 (aD6 hw)))) (aO X3 (aq (aK (bz he.k) 4) (by decide))) (λj t hj=>by
    obtain⟨m,hm,rfl⟩:=atd hj;rw[X3,X3,nO,nO];exact Wn.1 j m hm) hz hl
   rw[show(vI q).take (R8 (wS q) e.1)++jB au (e.1+3)::(vI q).drop (R8 (wS q) e.1)=vI (pls q e.1) from by
    unfold vI;rw[Wn.2,bu,wg,cF,wi]]at aml
   simp only[aQ]at aml cmp;rw[aU5 hw]at aml;refine⟨aa (R8 (wS q) e.1), [m6.list ((((vI q).drop (R8 (wS q) e.1)).take 1).map V.str)]++ [m6.list ([jB au (e.1+3)].map V.str)],Y6 (GR o (nP e)) (rM (J6 tG (qN2 (pl _) (J6 (t8 cmp) (rM (J5 (Dh (Z2 aao) rfl (rK (d7 rfl) (d7 rfl)) (mH (Z2 GQ)) aml)))))))⟩
end
end
section
section
variable {H T:Hp}{q:Nat->Bool}{i j c w k n:Nat}{ns:List w6}
def set_same {α:Type}{a:α}:∀{l:List α}{k:Nat},∀J:l[k]?=aa a,l.set k a=l:=λ{l}=>by
 induction l with
 | nil=>intro k h;rfl
 | cons x l ih=>
  intro k h;cases k with
  | zero=>exact congrArg (·::l) (ak h).symm
  | succ k=>exact congrArg (x::·) (ih h)
def Qi {Zz:List Nat}{m:Nat}(hc:c<7)(hw:w<H.length)(hl:lk.contains w=aC):∀(ns:List w6)(q:Nat->Bool)(T:Hp)(o:Option ((aJ×aJ)×Option Nat)),∀J:(∀e∈ns,NOk e),∃o' T',Ly (Z8 gL (n+40) lk (.tup [.loc "one",.loc "pair"]) Gw) (z8 (ik gL m Zz) []) ((ns.map nP).map pV) ⟨wkL i c w o, [],H.set w (wO q)++T⟩=eO .next ⟨wkL i c w o', [],H.set w (wO (Di c ns q))++T'⟩:=by
 intro zz
 induction zz with
 | nil=>
  intro q T o _;exact⟨o,T,rfl⟩
 | cons e ns ih=>
  intro q T o h;obtain⟨o1,T1,e1⟩:=Qh hc (h e (.head _)) hw hl o;obtain⟨o2,T2,e2⟩:=ih (wk1 c e q) (T++T1) (aa (nP e,o1)) λe he=>h e (.tail _ he);exact⟨o2,T2,T4 e1 e2⟩
def a1j (cl:Cl lk H):lk.contains H.length=aC:=eF.mpr λq=>dW _ (cl.lk _ (cJ.mp q))
def aa4 (h:a≠w)(hl:lk.contains w=aC):([a]++lk).contains w=aC:=by show(w==a || lk.contains w)=aC;rw[hl,beq_eq_false_iff_ne.mpr (Ne.symm h)];rfl
def aO2 (cl:Cl lk H)(h:O2 H i j (ns.map nP))(hn:∀e∈ns,NOk e)(hw:H[w]?=aa (wO q))(hl:lk.contains w=aC)(hc:c<7):o6 gL (n+42) lk 416 [.ref i,.int c,.ref w] [] [] H=ok .none (H.set w (wO (Di c ns q))):=by refine uG λY Z=> ?_;have hwl:=(aL.mp hw).1;obtain⟨o',T',e⟩:=Qi hc hwl (aa4 (Ne.symm (cW hwl)) hl) ns q [.list ((ns.map nP).map pV)] aB hn;rw[set_same hw]at e;refine Z ?_;refine K5 rfl rfl rfl rfl (rM (Gx (j9 (p6 (d7 rfl) (J2 h.inst aA9) j4 j4 (aH0 h)) (d9 (d9 n8 rfl) rfl)) e)) ?_;have z:=(cl.set (j:=w) (o:=wO (Di c ns q)) (at4 _)).drop (T:=T') (v:= .none) rfl;rw[cY]at z;exact z
def Qj (h:H[k]?=aa (.list l)):Lw H "list" (.ref k)=ok (.ref H.length) (H++ [.list l]):=by delta Lw;exact aO (bk (by decide)) (aO (bN rfl) (d9 (R3 h) rfl))
def Qk (cl:Cl lk H)(h:O2 H i j ps):o6 gL (n+20) lk 409 [.ref i] [] [] H=ok (.ref (H.length+1)) (H++ [.list (ps.map pV++ [pV ("a","x")]),.list (ps.map pV)]):=by
 have h1:(H++ [m6.list (ps.map pV)])[H.length]?=aa (.list (ps.map pV)):=n8;have h2:(H++ [m6.list (ps.map pV)]++ [m6.list (ps.map pV)])[H.length]?=aa (.list (ps.map pV)):=f9 n8;have e1:=Qj h1;rw[az]at e1;have ap:=al1 (v:=pV ("a","x")) (r:=o8 gL (n+17)) h2 (by rw[aF];exact dG h.len (by decide)) (a1j cl) (j:=H.length);rw[U9 (by rw[az];exact eE _),af8]at ap;refine w7 rfl rfl rfl rfl
  (m7 (p8 (p6 (d7 rfl) (J2 h.inst aA9) j4 j4 (aH0 h)) o5) (m7 (p8 (zq GK (d7 rfl) (ad0 (ao8 h1) e1)) o5) (m7 (J5 (p6 (d7 rfl) (U8 ak5 h2) (mH (V5 (rK j6 j6))) j4 ap)) (M4 (R0 (d7 rfl)))))) ?_
 rw[aQ];exact aj7 (decide_eq_false (bZ (eY _)))
end
end
section
def sp_32:dw 32=au:=rfl
def aCe:(dw 111 || dw 120 || dw 121 || dw 122)=aC:=rfl
def GX (h:c=32∨c=111∨c=120∨c=121∨c=122)(k:c≠32):dw c=aC:=by
 have t:=aCe;simp only[dI]at t;rcases h with rfl | rfl | rfl | rfl | rfl
 ·exact absurd rfl k
 ·exact t.1.1.1
 ·exact t.1.1.2
 ·exact t.1.2
 ·exact t.2
section
variable {l f o:List Nat}{h w:Nat}
def aU6 {p:List Nat}(hp:p.takeWhile dw=p)(t:Tx l):qT (toS (p++l))=toS l:=by
 show Txt.stripBy dw au au (toS (p++l))=_;refine aO (PyProof.Rows.stripBy_eq dw au au _) ?_;obtain⟨c,r,e,hc⟩:=t.hd;obtain⟨d,r',e',hd⟩:=t.la;have DP:=GX (t.ch c (e▸ .head _)) hc;have hds:=GX (t.ch d (by rw[e'];exact fZ _ (.head _))) hd;have h1:∀p:List Nat,∀J:p.takeWhile dw=p,(p++l).takeWhile dw=p:=by
  intro p
  induction p with
  | nil=>intro _;rw[iU,e,qY (by rw[DP];exact aR)]
  | cons a p ih=>
   intro q;cases ha:dw a with
   | true=>
    rw[qZ ha]at q;rw[afn,qZ ha,ih (bL q).2]
   | false=>
    rw[qY (by rw[ha];exact aR)]at q;exact nxC q
 have h2:l.reverse.takeWhile dw= []:=by rw[e',List.reverse_append];exact qY (by rw[hds];exact aR)
 show Builtin.Str.strSub (toS (p++l)) ((p++l).takeWhile dw).length ((toS (p++l)).length-(((p++l).drop ((p++l).takeWhile dw).length).reverse.takeWhile dw).length)=_;rw[h1 p hp,avd,h2,Zq,avd,J1,az,qx,ur,iV,tB]
def amm (t:Tx l):qT (toS l)=toS l:=aU6 (p:= []) rfl t
def strip_1 (t:Tx l):qT (toS (32::l))=toS l:=aU6 (p:= [32]) (qZ sp_32) t
noncomputable def Rw (h w:Nat)(f:List Nat):Nat:=if h≠0∧w<h+f.length then 1+f.length else h+f.length
def Ql (h w:Nat)(f o:List Nat):List Nat:=if Rw h w f+1+o.length≤w then f++32::o else o
def aK2:f.length≤Rw h w f:=by
 delta Rw
 split<;>exact cL _ _
def Tx.join (tf:Tx f)(to:Tx o)(hl:f.length+1+o.length≤400):Tx (f++32::o) where
 ch:=λc hc=>(bI.mp hc).elim (tf.ch c) λq=>(bc.mp q).elim .inl (to.ch c)
 len:=by rw[az,dZ,dH o.length,←iH];exact hl
 hd:=by obtain⟨c,r,e,hc⟩:=tf.hd;exact⟨c,r++32::o,by rw[e];rfl,hc⟩
 la:=by obtain⟨c,r,e,hc⟩:=to.la;exact⟨c,f++32::r,by rw[e,aQ];rfl,hc⟩
def atf (tf:Tx f)(to:Tx o)(hw:w≤8):Tx (Ql h w f o):=by
 delta Ql;by_cases q:Rw h w f+1+o.length≤w
 ·rw[bN q]
  exact tf.join to (aq (aK (aK aK2 1) _) (aq q (aq hw (by decide))))
 ·rw[bk q];exact to
def amn (hw:w≤8)(hm:8≤m)(ho:o.length≤m):(Ql h w f o).length≤m:=by
 delta Ql;by_cases q:Rw h w f+1+o.length≤w
 ·rw[bN q,az,dZ,dH o.length,←iH]
  exact aq (aK (aK aK2 1) _) (aq q (aq hw hm))
 ·rw[bk q];exact ho
end
end
section
def a1k:("":aJ)=toS []:=rfl
section
variable {H:Hp}{i l a w h n:Nat}{f o:List Nat}
def aB9 (a b:List Nat):G3 [(toS a,toS b)]=toS (a++b):=by show((toS a).append (toS b)).append (toS [])=_;rw[aq5,aq5,bf]
def acc_2 (a b c d:List Nat):G3 [(toS a,toS b),(toS c,toS d)]=toS (a++b++(c++d)):=by show((toS a).append (toS b)).append (G3 [(toS c,toS d)])=_;rw[aB9,aq5,aq5]
def sum_1 (a b:List Nat):G6 [(toS a,toS b)]=a.length+b.length:=by show(toS a).length+(toS b).length+0=_;rw[J1,J1];rfl
def sum_2 (a b c d:List Nat):G6 [(toS a,toS b),(toS c,toS d)]=a.length+b.length+(c.length+d.length):=by show(toS a).length+(toS b).length+((toS c).length+(toS d).length+0)=_;rw[J1,J1,J1,J1];rfl
inductive C1 (h w:Nat)(f:List Nat):List (List Nat)->Nat->List Nat->Prop
 | a:∀J:Rw h w f=h+f.length,C1 h w f [] h []
 | b:∀J:Rw h w f=1+f.length,C1 h w f [[]] 0 [32]
def a1l (M:Mk H i l a w)(c:Cl lk H)(tf:Tx f)(hh:h≤8)(hl:lk.contains l=aC)(ha:lk.contains a=aC):
  ∃rs z fw,o6 gL (n+40) lk 283 [.ref i,.str "",.str (toS f)] [] [] (jZ H l a [] h [])=ok .none (jZ H l a (rs.map toS) z [(toS fw,toS f)])∧C1 h w f rs z fw:=by
 have hs:GD h [(toS [],toS f)]:=⟨aq hh (by decide),by rw[sum_1];exact aq (bG tf.len _) (show 0+400≤1000 by decide),show 1≤400 by decide⟩;have es:h+G6 [(toS [],toS f)]=h+f.length:=by rw[sum_1,qx,jd]
 by_cases q:w<h+f.length
 ·by_cases q0:h=0
  ·subst q0
   exact⟨[],0, [],PX M hs ha (jo q es.symm),.a (bk λz=>z.1 rfl)⟩
  ·exact⟨[[]],0, [32],Qa M c hs q0 ha hl (by decide) (jo q es.symm),.b (bN ⟨q0,q⟩)⟩
 ·exact⟨[],h, [],Kf M hs ha (λz=>q (jo z es)),.a (bk λz=>q z.2)⟩
structure Rs (ls:List (List Nat))(r t:List Nat):Prop where
 ok:∀x∈ls++ [r],∀y∈x,y≠10∧y<256
 n:ls.length≤2
 len:∀x∈ls++ [r],x.length≤900
 st:qT (toS r)=toS t
def Tx.row {l:List Nat}(t:Tx l):∀x∈l,x≠10∧x<256:=λx hx=>by rcases t.ch x hx with rfl | rfl | rfl | rfl | rfl<;>decide
def aK3 {p q:List Nat}(h:∀x∈p,x≠10∧x<256)(k:∀x∈q,x≠10∧x<256):∀x∈p++q,x≠10∧x<256:=λx hx=>(bI.mp hx).elim (h x) (k x)
def aau {l:List Nat}(t:Tx l):∀x∈32::l,x≠10∧x<256:=aK3 (p:= [32]) (λx hx=>by rw[aH.mp hx];decide) t.row
def amo:∀x∈([]:List Nat),x≠10∧x<256:=λx hx=>zZ hx
def atg (to:Tx o)(p:List Nat)(r:List Nat):kE (toS (p++(o++r)))=aC:=by obtain⟨c,r',e,hc⟩:=to.hd;have hs:=GX (to.ch c (e▸ .head _)) hc;show(_&&(p++(o++r)).toArray.all dw)=aC;refine aO (tC ..) ?_;refine uC.mpr (.inr (eF.mpr λq=> ?_));have:=bj.mp q c (fZ _ (qe _ (e▸ .head _)));exact qI (hs.symm.trans this)
def ath (to:Tx o):(toS [32]==(" ":aJ)&&toS o==("":aJ))=aC:=by rw[uC];refine .inr (beq_eq_false_iff_ne.mpr λq=>to.ne (JS q))
def aU7 (M:Mk H i l a w)(e:o6 gL (n+31) lk 248 [.ref i] [] [] (jZ H l a (ls.map toS) z ps)=ok .none (jZ H l a ((ls++ [r]).map toS) 0 []))(h1:ls.length≤2)(h2:∀x∈ls++ [r],x.length≤900):o6 gL (n+34) lk 234 [.ref i,.str "\n"] [] [] (jZ H l a (ls.map toS) z ps)=ok (.str (toS (rowsOf 10 (ls++ [r])))) (jZ H l a ((ls++ [r]).map toS) 0 []):=by
 have:=ZQ (Bp:= []) M (sep:=toS [10]) e (by
  rw[bF,aF];refine aq (dg (ai0 _ λt ht=>aq (cN (J1 t)) (h2 t ht)) (aN _)) ?_;rw[az];refine aq (dg (dh _ (aK h1 1)) (dh _ (aK h1 1))) ?_;decide+kernel)
 rw[join_rows]at this;exact this
end
end
section
section
variable {H:Hp}{i l a w h n m:Nat}{f o:List Nat}
def a1m (k:C1 h w f rs z fw):z+(fw.length+f.length)=Rw h w f:=by
 cases k with
 | a e=>rw[e,qx,jd]
 | b e=>rw[e,jd];rfl
def aQs (k:C1 h w f rs z fw)(hh:h≤8):z≤8∧fw.length≤1∧rs.length≤1:=by
 cases k with
 | a e=>exact⟨hh,bR _,bR _⟩
 | b e=>exact⟨bR _,aN _,aN _⟩
def a1n (k:C1 h w f rs z fw):(∀x∈rs,x= [])∧∀x∈fw,x≠10∧x<256:=by
 cases k with
 | a e=>exact⟨λx hx=>zZ hx,amo⟩
 | b e=>exact⟨λx hx=>aH.mp hx,λx hx=>by rw[aH.mp hx];decide⟩
def aav (k:C1 h w f rs z fw)(tt:Tx t):qT (toS (fw++t))=toS t:=by
 cases k with
 | a e=>exact amm tt
 | b e=>exact strip_1 tt
def af4 {α:Type}{p:α->Prop}{l:List α}{a:α}(h:∀x∈l,p x)(k:p a):∀x∈l++ [a],p x:=λx hx=>(bI.mp hx).elim (h x) λq=>aH.mp q▸k
def aQt (x y:List Nat)(hx:x.length≤401)(hy:y.length≤401):(x++y).length≤900:=by rw[az];exact aq (dg hx hy) (by decide)
def aaw (M:Mk H i l a w)(c:Cl lk H)(k:C1 h w f rs z fw)(tf:Tx f)(to:Tx o)(hh:h≤8)(hw:w≤8)(hl:lk.contains l=aC)(ha:lk.contains a=aC):
  ∃ls z2 ps r,o6 gL (n+40) lk 283 [.ref i,.str " ",.str (toS o)] [] [] (jZ H l a (rs.map toS) z [(toS fw,toS f)])=ok .none (jZ H l a (ls.map toS) z2 ps)∧o6 gL (m+34) lk 234 [.ref i,.str "\n"] [] [] (jZ H l a (ls.map toS) z2 ps)=ok (.str (toS (rowsOf 10 (ls++ [r])))) (jZ H l a ((ls++ [r]).map toS) 0 [])∧Rs ls r (Ql h w f o):=by
 have hz:=aQs k hh;have hr:=a1n k;have tw:(fw++f).length≤401:=by rw[az,dH];exact dg tf.len hz.2.1
 have uw:(32::o).length≤401:=dK to.len;have s2:G6 [(toS fw,toS f),(toS [32],toS o)]≤1000:=by rw[sum_2,←az];exact aq (dg tw (show 1+o.length≤401 from(dH 1 _)▸uw)) (by decide)
 have hs:GD z ([(toS fw,toS f)]++ [(spS,toS o)]):=⟨aq hz.1 (by decide),s2,show 2≤400 by decide⟩;have es:z+G6 [(toS fw,toS f),(toS [32],toS o)]=Rw h w f+1+o.length:=by rw[sum_2,←iH,a1m k];exact(iH _ 1 _).symm
 have okw:=aK3 hr.2 tf.row;have oks:∀x∈rs,∀y∈x,y≠10∧y<256:=λx hx y hy=>by rw[hr.1 x hx]at hy;exact zZ hy
 have aCf:∀x∈rs,x.length≤900:=λx hx=>by rw[hr.1 x hx];exact bR _
 have so:=to.ok;have k32:=a05;by_cases q:w<Rw h w f+1+o.length
 ·have e1:=a09 (n:=n) (ls:=rs.map toS) M c hs (λq=>nxD q) (by rw[aB9,J1];exact aq tw (by decide)) ha hl (by rw[aF];exact bB hz.2.2 (by decide)) (jo q es.symm)
  rw[aB9]at e1;have e2:rs.map toS++ [toS (fw++f)]=(rs++ [fw++f]).map toS:=by rw[bu];rfl
  rw[e2]at e1;have s1:G6 [(toS [32],toS o)]≤1000:=by rw[sum_1];exact aq (bG to.len _) (show 1+400≤1000 by decide)
  have nl:=aU1 (n:=m) (lk:=lk) (qs:= []) (ls:=(rs++ [fw++f]).map toS) (z:=0) M c ⟨⟨by decide,s1,show 1≤400 by decide⟩,aq (cN (congrArg wL (aB9 [32] o))) (aq (cN (J1 _)) (aq uw (by decide)))⟩ k32 so (ath to)
   (by rw[iU,sum_1];exact aM (fO 0) (aq (bh 1 o.length) (cL _ _)))
   (.inr ⟨by rw[iU,sum_1,dH];exact yQ _,by
    have:=atg to [32] [];rw[bf]at this;exact(congrArg kE (aB9 [32] o)).trans this⟩) hl ha (by rw[aF,az];exact bB (aK hz.2.2 1) (by decide))
  rw[iU,aB9,show(rs++ [fw++f]).map toS++ [toS ([32]++o)]=(rs++ [fw++f]++ [32::o]).map toS from(bu (l₂:= [32::o])).symm]at nl;have hlen:=af4 (af4 aCf (aq tw (by decide))) (aq uw (by decide));have hn:(rs++ [fw++f]).length≤2:=by rw[az];exact aK hz.2.2 1
  refine⟨rs++ [fw++f],0, [(toS [32],toS o)],32::o,e1,aU7 M nl hn hlen,⟨af4 (af4 oks okw) (aau to),hn,hlen, ?_⟩⟩;rw[show Ql h w f o=o from bk (tR q)];exact strip_1 to
 ·have e1:=Kf (n:=n+10) (ls:=rs.map toS) M hs ha λz=>q (jo z es)
  have e0:=es;have bd8:fw++f++([32]++o)=fw++(f++32::o):=aQ ..;have hlc:=aQt _ _ tw uw;have nl:=aU1 (n:=m) (p:=(toS [32],toS o)) (ls:=rs.map toS) M c ⟨hs,aq (cN (congrArg wL (acc_2 fw f [32] o))) (aq (cN (J1 _)) (aq hlc (by decide)))⟩ k32 so (ath to)
   (jo (aM (fO _) (bh (Rw h w f+1) o.length)) e0.symm)
   (.inr ⟨by
    show G6 [(toS fw,toS f),(toS [32],toS o)]≠0;rw[sum_2,show[32].length+o.length=o.length+1 from dH 1 _];exact yQ _,(congrArg kE ((acc_2 fw f [32] o).trans (congrArg toS (aQ fw f _)))).trans (atg tf fw (32::o))⟩) hl ha (by rw[aF];exact bB hz.2.2 (by decide))
  have e2:rs.map toS++ [G3 ([(toS fw,toS f)]++ [(toS [32],toS o)])]=(rs++ [fw++f++32::o]).map toS:=by rw[bu];exact congrArg (λx=>rs.map toS++ [x]) (acc_2 fw f [32] o)
  rw[e2]at nl;have hlen:=af4 aCf hlc;refine⟨rs,z, [(toS fw,toS f)]++ [(toS [32],toS o)],fw++f++32::o,e1,aU7 M nl (aq hz.2.2 (by decide)) hlen,⟨af4 oks (aK3 okw (aau to)),aq hz.2.2 (by decide),hlen, ?_⟩⟩;have hq:=cV q;rw[show Ql h w f o=f++32::o from bN hq,aQ];exact aav k (tf.join to (aq (aK (aK aK2 1) _) (aq hq (aq hw (by decide)))))
end
end
section
section
variable {m m':Nat}
def Ks (h:m≤m')(v:V):∀J:v.lt m=au,v.lt m'=au:=by
 refine V.rec (motive_2:=λl=>∀J:V.jN m l=au,V.jN m' l=au) ?_ ?_ ?_ ?_ ?_ ?_ ?_ ?_ ?_ ?_ ?_ ?_ ?_ v
 ·exact λx=>x
 ·exact λb x=>x
 ·exact λb x=>x
 ·exact λb x=>x
 ·exact λl ih x=>ih x
 ·exact λi x=>gO (aM (gH x) h)
 ·exact λb x=>x
 ·exact λb c x=>x
 ·exact λb x=>x
 ·exact λx=>x
 ·exact λi x=>gO (aM (gH x) h)
 ·exact λx=>x
 ·exact λv l h1 h2 x=>by show(v.lt m'&&V.jN m' l)=au;rw[h1 (j8 x).1,h2 (j8 x).2];rfl
def aU8 (h:m≤m'):∀l:List V,∀J:V.jN m l=au,V.jN m' l=au:=by
 intro l
 induction l with
 | nil=>exact λx=>x
 | cons v l ih=>
  intro x;show(v.lt m'&&V.jN m' l)=au;rw[Ks h v (j8 x).1,ih (j8 x).2];rfl
def aU9 (h:m≤m'):∀d:j7,∀J:W6 m d=au,W6 m' d=au:=by
 intro l
 induction l with
 | nil=>exact λx=>x
 | cons v l ih=>
  intro x;show(v.2.lt m'&&W6 m' l)=au;rw[Ks h v.2 (j8 x).1,ih (j8 x).2];rfl
def aax (h:m≤m')(o:m6)(x:O3 m o=au):O3 m' o=au:=by
 cases o with
 | list l=>exact aU8 h l x
 | inst c d=>exact aU9 h d x
 | acc c d l=>
  show(W6 m' d&&V.jN m' l)=au;rw[aU9 h d (j8 x).1,aU8 h l (j8 x).2];rfl
 | vD=>rfl
def aK4 (h:m≤m'):∀H:Hp,∀J:H9 m H=au,H9 m' H=au:=by
 intro l
 induction l with
 | nil=>exact λx=>x
 | cons v l ih=>
  intro x;show(O3 m' v&&H9 m' l)=au;rw[aax h v (j8 x).1,ih (j8 x).2];rfl
def GZ:∀H:Hp,H9 m (H++T)=(H9 m H&&H9 m T):=by
 intro H
 induction H with
 | nil=>rfl
 | cons o H ih=>
  show(O3 m o&&H9 m (H++T))=(O3 m o&&H9 m H&&H9 m T);rw[ih,avc]
def Cl.app (c:Cl js H)(h:H9 (H.length+T.length) T=au):Cl js (H++T):=⟨by
 rw[GZ,az,aK4 (bh _ _) H c.hp,h];rfl,λj hj=>by rw[az];exact aM (c.lk j hj) (bh _ _)⟩
end
section
variable {H T:Hp}{k ri:Nat}
def aay:(H++T).set (H.length+k) o=H++T.set k o:=by rw[uF _ _ (bh _ _),iV]
def aH5:jZ (H++ [x,y,z]) (H.length+1) (H.length+2) ls zz ps=H++ [x,.list (ls.map V.str),lB zz ps]:=by delta jZ;rw[aay,aay];rfl
def amq:X5.contains ("split":aJ)=au:=rfl
def amr:X5.contains ("strip":aJ)=au:=rfl
def ams (h:∀x∈t,x<256)(hc:cutAt 10 t=rs)(z1:t.length≤16777216)(z2:rs.length≤1000):W7 r lk (.str (toS t)) ov ("split":aJ) [.str "\n"] [] [] H=ok (.ref H.length) (H++ [.list ((rs.map toS).map V.str)]):=by
 refine m9 rfl ?_;delta Ig;refine aO (bk (by decide+kernel)) (aO (bk (by decide+kernel)) (aO (bk (by decide+kernel)) ?_));refine d9 rfl ?_;refine aO (bk (by decide+kernel)) (aO (bN rfl) ?_);refine d9 rfl ?_;have hp:partsOf (toS t) (toS [10])=rs.map toS:=by delta partsOf;rw[JQ,J1 [10]];exact(JR 10 t).trans (aO hc rfl)
 have hs:=(alj h (by decide)).trans (aO hc rfl);refine m9 ?_ ?_
 ·show((toS [10]).length !=0&&room (toS t).length&&room (partsOf (toS t) (toS [10])).length)=au
  rw[hp,aF,M9 z2,show room (toS t).length=au from gO (aq (cN (J1 t)) z1)];rfl
 ·show alloc H (.list ((pP (toS t) (toS [10])).map .str))=_
  rw[hs];rfl
def amt (h:qT s=t)(hz:s.length≤1000):W7 r lk (.str s) ov ("strip":aJ) [] [] [] H=ok (.str t) H:=by refine m9 rfl ?_;delta Ig;refine aO (bk (by decide+kernel)) (aO (bN rfl) ?_);rw[h];exact m9 (M9 hz) rfl
structure fV where
 a:Nat
 b:Nat
 c:Nat
 w:Nat
 h:Nat
noncomputable abbrev yf (u:fV):m6:= .list [.int u.a,.int u.b,.int u.c,.int u.w,.int u.h]
structure aaz (u:fV)(k:Nat):Prop where
 a:u.a<k+3
 b:u.b<k+3
 c:u.c<k+3
 w:u.w≤8
 h:u.h≤8
noncomputable def wY (u:fV)(f:List Nat):Nat:=if f.length % 2=0 then u.c else u.b
def ap3 (h:aaz u k):wY u f<k+3:=by
 delta wY
 split
 ·exact h.c
 ·exact h.b
def aCg (h:H[ri]?=aa (yf u)):Z5 H (.ref ri) (.int 0)=aa (.int u.a):=Z3 h rfl (by decide)
def aQv (h:H[ri]?=aa (yf u)):Z5 H (.ref ri) (.int 1)=aa (.int u.b):=Z3 h rfl (by decide)
def aQw (h:H[ri]?=aa (yf u)):Z5 H (.ref ri) (.int 2)=aa (.int u.c):=Z3 h rfl (by decide)
def aQx (h:H[ri]?=aa (yf u)):Z5 H (.ref ri) (.int 3)=aa (.int u.w):=Z3 h rfl (by decide)
def aQy (h:H[ri]?=aa (yf u)):Z5 H (.ref ri) (.int 4)=aa (.int u.h):=Z3 h rfl (by decide)
def Qm (h:dD G n φ (.bin p a b) H=ok v H1)(k:U5 H1 v=aa bb):uH G (n+1) φ (.bin p a b) H=ok bb H1:=j9 h (d9 k rfl)
end
section
variable {ns:List w6}{k:Nat}
structure Bq (ns:List w6):Prop where
 ok:∀e∈ns,NOk e
 len:ns.length≤10
noncomputable abbrev isK (k:Nat)(e:w6):Bool:=e.1==k
def aCh (h:∀e∈ns,NOk e):∀p∈ns.map nP,Rt p.1:=λp hp=>by obtain⟨e,he,rfl⟩:=cC.mp hp;exact asy (bA (h e he).k 3)
def amu (q:Bool->Bool):∀ns:List w6,∀J:(∀e∈ns,NOk e),(ns.map nP).filter (λp=>q (bQ p.1==jB aC (k+3)))=(ns.filter λe=>q (isK k e)).map nP:=by
 intro zz
 induction zz with
 | nil=>
  intro _;exact rfl
 | cons e es ih=>
  intro h;have e1:=ih λe he=>h e (.tail _ he);have e2:q (bQ (nP e).1==jB aC (k+3))=q (isK k e):=congrArg q (by
   rw[ac2 (bA (h e (.head _)).k 3),aah];show(e.1+3==k+3)=(e.1==k);by_cases z:e.1=k
   ·rw[z,beq_self_eq_true,beq_self_eq_true]
   ·rw[beq_eq_false_iff_ne.mpr z,beq_eq_false_iff_ne.mpr λq=>z (mF q)])
  cases w:q (isK k e) with
  | true=>rw[cF,bD (by rw[e2,w]),bD (by rw[w]),e1,cF]
  | false=>rw[cF,bw (by rw[e2,w];exact aR),bw (by rw[w];exact aR),e1]
def aba:((dm 7).all λa=> !(RE.jz (97+a)))=au:=rfl
def aCi (ha:a<7)(hb:b<7):zr (toS [97+a,97+b]):=⟨by
 have h1:=bj.mp aba a (cP.mpr ha);have h2:=bj.mp aba b (cP.mpr hb);show(RE.jz (97+a) || (RE.jz (97+b) || aC))=aC;rw[xF]at h1 h2;rw[h1,h2];rfl,show 2≤1000 by decide⟩
def abb (c:Cl lk H)(h:O2 H i j ps)(hl:bQ nm=lm)(hk:Ed lm)(hg:nm.cps.toList.any RE.jY=aC)(hn:nm.length≤1000)(hv:zr vl)(zT:∀p∈ps,Rt p.1)(hz:ps.length≤450)(hj:lk.contains j=aC):
  Ca gL (o8 gL (n+25)) lk (.ref i) (.str nm) (.str vl) H=ok () (H.set j (.list ((ps.filter (λp=> !(bQ p.1==lm))++ [(nm,vl)]).map pV))):=
 d9 (af9 h) (d9 ash (j9 (ZC c h hl hk hg hn hv zT hz hj) rfl))
end
end
section
structure Wd (H:Hp)(si sj ni nj:Nat)(es:List Ent)(ns:List w6):Prop where
 sh:O2 H si sj (es.map eP)
 nt:O2 H ni nj (ns.map nP)
 ne:sj≠nj
 eo:J3 es
 no:Bq ns
 rd:∀c,∀J:c<7,Tx (rd es c)
section
variable {H T:Hp}{si sj ni nj ri k n:Nat}{es:List Ent}{ns:List w6}{u:fV}
def abd (h:O2 H i j ps)(hm:H[m]?=aa (.list l))(hj:j≠m):O2 (H.set m o) i j ps where
 inst:=(gk (λq=>by
  rw[q,h.inst]at hm;cases hm)).trans h.inst
 row:=(gk (Ne.symm hj)).trans h.row
 len:=h.len
def Ha (h:O2 H i j ps):O2 (H++T) i j ps:=⟨f9 h.inst,f9 h.row,h.len⟩
def abe (h:(Qe l).length≤400):l.length≤1000:=by
 by_cases q:l= []
 ·rw[q];exact bR _
 ·rw[show Qe l=l from bk q]at h
  exact aq h (by decide)
def aH6 {c:Nat}(cl:Cl lk H)(h:O2 H i j (es.map eP))(hE:J3 es)(hr:∀c,∀J:c<7,Tx (rd es c))(hc:c<7):o6 gL (n+28) lk 388 [.ref i,.int c] [] [] H=ok (.str (toS (rd es c))) H:=
 Qf cl h hE hc (abe (hr c hc).len)
def Wd.note (W:Wd H si sj ni nj es ns)(hl:Wa.length≤10)(ho:∀e∈Wa,NOk e):Wd (H.set nj (.list ((Wa.map nP).map pV))) si sj ni nj es Wa where
 sh:=abd W.sh W.nt.row W.ne
 nt:=GC W.nt (by rw[aF];exact bB hl (by decide))
 ne:=W.ne
 eo:=W.eo
 no:=⟨ho,hl⟩
 rd:=W.rd
abbrev Qn (k a o:Nat)(ns:List w6):List w6:=(ns.filter λe=> !isK k e)++ [(k,a,o)]
def aH7:gL.glob "_law_read"=aa (.gl (.ref 388)):=rfl
def len_str (h:f.length≤1000):wG gL r lk "len" (.str (toS f)) H=ok (.int f.length) H:=U6 rfl (m9 (M9 (aq (cN (J1 f)) h)) (by rw[J1]))
def a1q (hr:H[ri]?=aa (yf u))(h1:φ.loc.lookup ("first":aJ)=aa (.str (toS f)))(h2:φ.loc.lookup ("rule":aJ)=aa (.ref ri))(hf:f.length≤1000):
  dD gL (n+10) φ (.ite e_45 (.sub e_56 e_1) (.sub e_56 (.cst (.int 2)))) H=ok (.int (wY u f)) H:=by
 have hm:dD gL (n+8) φ e_45 H=ok (.int (f.length % 2:Nat)) H:=o9 (Q9 O4 (d7 h1) (len_str hf)) j6 (R9 2 (by decide));by_cases q:f.length % 2=0
 ·rw[q]at hm
  rw[show wY u f=u.c from bN q];exact Zh (Qm hm rfl) (O1 (d7 h2) j6 (aQw hr))
 ·rw[Sq.mp q]at hm
  rw[show wY u f=u.b from bk q];exact am4 (Qm hm rfl) (O1 (d7 h2) j6 (aQv hr))
def aK5 (a b:Nat):V0 H .Add (.str (toS [97+a])) (.str (toS [97+b]))=ok (.str (toS [97+a,97+b])) H:=by show opt (mkS ((toS [97+a]).append (toS [97+b]))) (λv=>ok v H)=_;rw[aq5];exact d9 (m9 (M9 (show 2≤1000 by decide)) rfl) rfl
def ati:T9 gL 286 (mkD w l a) "_append_chunk"=aa 283:=rfl
theorem aV0:∀ls:List (List Nat),∀x∈rowsOf c ls,x=c∨∃l∈ls,x∈l
 | [],x,h=>zZ h
 | [a],x,h=> .inr ⟨a,.head _,h⟩
 | a::b::r,x,h=>by
  rcases bI.mp h with h | h
  ·exact .inr ⟨a,.head _,h⟩
  ·rcases bc.mp h with h | h
   ·exact .inl h
   ·rcases aV0 (b::r) x h with h | ⟨l,hl,hx⟩
    ·exact .inl h
    ·exact .inr ⟨l,.tail _ hl,hx⟩
end
end
section
section
variable {H T:Hp}{si sj ni nj ri k n:Nat}{es:List Ent}{ns:List w6}{u:fV}
abbrev uK (u:fV)(es:List Ent):List Nat:=Ql u.h u.w (rd es u.a) (rd es (wY u (rd es u.a)))
abbrev vfO (w L:Nat):m6:= .inst 286 (mkD w (L+1) (L+2))
abbrev mkL (si ni ri:Nat)(v:V)(f:List Nat)(o m:Nat):j7:= [("sheet",.ref si),("notes",.ref ni),("rule",.ref ri),("name",v),("first",.str (toS f)),("other",.int o),("maker",.ref m)]
def Qo (cl:Cl lk H)(W:Wd H si sj ni nj es ns)(hk:k<4)(hu:aaz u k):
  ∃H':Hp,z8 (ik gL (n+68) lk) (a0k.body.drop 4) ⟨mkL si ni ri v (rd es u.a) (wY u (rd es u.a)) H.length, [],H++ [vfO u.w H.length,.list [],lB u.h []]⟩=eO (.ret (.str (toS (uK u es)))) ⟨mkL si ni ri v (rd es u.a) (wY u (rd es u.a)) H.length, [],H++H'⟩:=by
 have M:∀x y:m6,Mk (H++ [vfO u.w H.length,x,y]) H.length (H.length+1) (H.length+2) u.w:=λx y=>⟨Kg rfl,yO _,λq=>absurd (nG (k:=0) q) (by decide),λq=>absurd (nG q) (by decide),by rw[az];exact fc (by show 1<3;decide) _,by rw[az];exact fc (by show 2<3;decide) _⟩;have a7:=aM hu.a (aK (cZ (jG hk)) 3);have o7:wY u (rd es u.a)<7:=aM (ap3 hu) (aK (bz hk) 3);have tf:=W.rd _ a7;have to:=W.rd _ o7;have nl:∀d,lk.contains (H.length+d)=aC:=λd=>eF.mpr λq=>absurd (cl.lk _ (cJ.mp q)) (bZ (bh _ _));have cB:∀z ps (ls:List aJ),Cl lk (H++ [vfO u.w H.length,.list (ls.map V.str),lB z ps]):=λz ps ls=>cl.app (by
  show((((V.int u.w).lt (H.length+3))&&(((V.str " ").lt (H.length+3))&&(((V.int 1).lt (H.length+3))&&(((V.str " ").lt (H.length+3))&&(((V.ref (H.length+1)).lt (H.length+3))&&(((V.ref (H.length+2)).lt (H.length+3))&&au))))))&&(V.jN (H.length+3) (ls.map V.str)&&(O3 (H.length+3) (lB z ps)&&au)))=au;rw[show(V.ref (H.length+1)).lt (H.length+3)=au from gO (fc (by decide) _),show(V.ref (H.length+2)).lt (H.length+3)=au from gO (fc (by decide) _),at4,aH1];rfl)
 have e0:H++ [vfO u.w H.length,.list [],lB u.h []]=jZ (H++ [vfO u.w H.length,.list [],lB u.h []]) (H.length+1) (H.length+2) [] u.h []:=(aH5 (ls:= [])).symm;obtain⟨rs,z,fw,e1,k1⟩:=a1l (M (.list []) (lB u.h [])) (cB u.h [] []) tf hu.h (nl 1) (nl 2);obtain⟨ls,z2,ps,r,e2,e3,R⟩:=aaw (M (.list []) (lB u.h [])) (cB u.h [] []) k1 tf to hu.h hu.w (nl 1) (nl 2);have hrd:=aH6 (n:=n+37) (H:=jZ (H++ [vfO u.w H.length,.list [],lB u.h []]) (H.length+1) (H.length+2) (rs.map toS) z [(toS fw,toS (rd es u.a))]) (by rw[aH5];exact cB _ _ _) (by rw[aH5];exact Ha W.sh) W.eo W.rd o7;have hrl:(rowsOf 10 (ls++ [r])).length≤16777216:=by refine aq (aF6 _) (aq (ai0 _ λt ht=>dK (R.len t ht)) ?_);rw[az];exact aq (dh _ (aK R.n 1)) (by decide+kernel)
 have hsp:=ams (r:=o8 gL (n+64)) (lk:=lk) (ov:= .str (toS (rowsOf 10 (ls++ [r])))) (H:=jZ (H++ [vfO u.w H.length,.list [],lB u.h []]) (H.length+1) (H.length+2) ((ls++ [r]).map toS) 0 []) (λx hx=>(aV0 _ x hx).elim (λq=>by rw[q];decide) λ⟨l,hl,hx⟩=>(R.ok l hl x hx).2)
  (aT4 (ls++ [r]) (λq=>by have:=congrArg Lh q;rw[az]at this;exact nxY this) λl hl q=>(R.ok l hl 10 q).1 rfl) hrl (by rw[az];exact aq (aK R.n 1) (by decide))
 have hgl:(jZ (H++ [vfO u.w H.length,.list [],lB u.h []]) (H.length+1) (H.length+2) ((ls++ [r]).map toS) 0 []++ [m6.list (((ls++ [r]).map toS).map V.str)])[(jZ (H++ [vfO u.w H.length,.list [],lB u.h []]) (H.length+1) (H.length+2) ((ls++ [r]).map toS) 0 []).length]?=aa (.list ((ls.map toS).map V.str++ [.str (toS r)])):=by rw[n8,bu,bu];rfl
 have fin:z8 (ik gL (n+68) lk) (a0k.body.drop 4) ⟨mkL si ni ri v (rd es u.a) (wY u (rd es u.a)) H.length, [],jZ (H++ [vfO u.w H.length,.list [],lB u.h []]) (H.length+1) (H.length+2) [] u.h []⟩=eO (.ret (.str (toS (uK u es)))) ⟨mkL si ni ri v (rd es u.a) (wY u (rd es u.a)) H.length, [],jZ (H++ [vfO u.w H.length,.list [],lB u.h []]) (H.length+1) (H.length+2) ((ls++ [r]).map toS) 0 []++ [m6.list (((ls++ [r]).map toS).map V.str)]⟩:=m7 (J5 (p6 (d7 rfl) (J2 (M (.list []) (lB u.h [])).xK ati) (rK j6 (d7 rfl)) j4 e1))
  (m7 (J5 (p6 (d7 rfl) (J2 (M (.list []) (lB u.h [])).xK ati) (rK j6 (Bo aH7 rfl (rK (d7 rfl) (d7 rfl)) hrd)) j4 e2))
  (M4 (R0 (p6 (O1 (p6 (p6 (d7 rfl) (J2 (M (.list []) (lB u.h [])).xK aBr) (mH j6) j4 e3) (R2 amq) (mH j6) j4 hsp) (alc j6) (Zw hgl)) (R2 amr) j4 j4 (amt R.st (aq (cN (J1 r)) (aq (R.len r (fZ _ (.head _))) (by decide))))))))
 rw[←e0,aH5,aQ]at fin;exact⟨_,fin⟩
end
end
section
section
variable {H T:Hp}{si sj ni nj ri k n:Nat}{es:List Ent}{ns:List w6}{u:fV}
abbrev xM (k:Nat)(u:fV)(es:List Ent)(ns:List w6):List w6:=Qn k u.a (wY u (rd es u.a)) ns
abbrev zU (ns:List w6):m6:= .list ((ns.map nP).map pV)
def abg (W:Bq ns)(hk:k<4)(ha:a<7)(ho:o<7):∀e∈Qn k a o ns,NOk e:=λe he=>by
 rcases bI.mp he with he | he
 ·exact W.ok e (cG.mp he).1
 ·rw[aH.mp he];exact⟨hk,ha,ho⟩
def amv (cl:Cl lk H)(W:Wd H si sj ni nj es ns)(hk:k<4)(ha:a<7)(ho:o<7)(hl:lk.contains nj=aC):
  Ca gL (o8 gL (n+25)) lk (.ref ni) (.str (jB au (k+3))) (.str (toS [97+a,97+o])) H=ok () (H.set nj (zU (Qn k a o ns))):=by
 have k7:=bA hk 3;have:=abb (n:=n) cl W.nt (ac2 (b:=au) k7) (Rv k7) (an4 k7) (aq7 k7) (aCi ha ho) (aCh W.no.ok) (by rw[aF];exact aq W.no.len (by decide)) hl;rw[amu (λb=> !b) ns W.no.ok,show(ns.filter λe=> !isK k e).map nP++ [(jB au (k+3),toS [97+a,97+o])]=(Qn k a o ns).map nP from by rw[bu];rfl]at this;exact this
def aO3 (cl:Cl lk H)(W:Wd H si sj ni nj es ns)(hr:H[ri]?=aa (yf u))(hn:ri≠nj)(hu:aaz u k)(hk:k<4)(hz:(xM k u es ns).length≤10)(hl:lk.contains nj=aC):
  o6 gL (n+69) lk 395 [.ref si,.ref ni,.ref ri,.str (jB au (k+3))] [] [] H=ok (.str (toS (uK u es))) (H.set nj (zU (xM k u es ns))):=by
 have a7:=aM hu.a (aK (bz hk) 3);have o7:wY u (rd es u.a)<7:=aM (ap3 hu) (aK (bz hk) 3);have ok':=abg W.no hk a7 o7;have W1:=W.note hz ok';have c1:Cl lk (H.set nj (zU (xM k u es ns))):=cl.set (S7 _);have hr1:(H.set nj (zU (xM k u es ns)))[ri]?=aa (yf u):=(gk (Ne.symm hn)).trans hr;obtain⟨T,e⟩:=Qo c1 W1 hk hu;have nl:∀T:Hp,lk.contains (H.set nj (zU (xM k u es ns))++T).length=aC:=λT=>eF.mpr λq=>absurd (c1.lk _ (cJ.mp q)) (bZ (by rw[az];exact bh _ _));have mk:=λa b=>a1b (H1:= []) (n:=n+46) (φ:=⟨[("sheet",.ref si),("notes",.ref ni),("rule",.ref ri),("name",.str (jB au (k+3))),("first",.str (toS (rd es u.a))),("other",.int (wY u (rd es u.a)))], [],lk⟩) (a:= .sub e_56 e_69) (b:= .sub e_56 e_3) (z:=u.h) (w:=u.w) a b nl;rw[aQ]at mk;refine w7 rfl rfl rfl rfl
  (m7 (p8 (Bo aH7 rfl (rK (d7 rfl) (O1 (d7 rfl) j6 (aCg hr))) (aH6 cl W.sh W.eo W.rd a7)) o5)
   (m7 (p8 (a1q hr rfl rfl (aq (W.rd _ a7).len (by decide))) o5)
    (m7 (p8 (o9 (ap2 a7 (O1 (d7 rfl) j6 (aCg hr))) (ap2 o7 (d7 rfl)) (aK5 _ _)) (a0r (d7 rfl) (d7 rfl) (amv cl W hk a7 o7 hl)))
     (m7 (p8 (mk (O1 (d7 rfl) j6 (aQy hr1)) (O1 (d7 rfl) j6 (aQx hr1))) o5) e)))) ?_
 have z:=c1.drop (T:=T) (v:= .str (toS (uK u es))) rfl;rw[cY]at z;exact z
end
end
section
abbrev rC (es:List Ent):m6:= .list ((es.map eP).map pV)
abbrev HM (sc:List Int)(cs:List Nat)(us:Nat->fV)(er:List aJ)(es:List Ent)(ns:List w6)(lg:List (aJ×aJ))(q:Nat->Bool)(T:Hp):Hp:=
 .list (sc.map V.int):: .list (cs.map nV):: .list (((cs.drop 3).take 4).map nV):: .list [.ref 4,.ref 5,.ref 6,.ref 7]::yf (us 0)::yf (us 1)::yf (us 2)::yf (us 3):: .list ((cs.take 3).map nV)::rC es::Ru 9::Ru 12::zU ns::lB 1 lg::wO q:: .list (er.map V.str)::T
def xN (T:Hp):Prop:=H9 (16+T.length) T=au
structure U4 (lk:List Nat)(T:Hp):Prop where
 lt:∀j∈lk,j<16+T.length
 no:(lk.contains 9 || lk.contains 12 || lk.contains 13 || lk.contains 14)=aC
structure M5 (us:Nat->fV):Prop where
 ok:∀k,∀J:k<4,aaz (us k) k
section
variable {sc:List Int}{cs:List Nat}{us:Nat->fV}{er:List aJ}{es:List Ent}{ns:List w6}{lg:List (aJ×aJ)}{q:Nat->Bool}{T:Hp}{lk:List Nat}
def U4.n7 (h:U4 lk T):lk.contains 9=aC:=by have:=h.no;simp only[dI]at this;exact this.1.1.1
def U4.n10 (h:U4 lk T):lk.contains 12=aC:=by have:=h.no;simp only[dI]at this;exact this.1.1.2
def U4.n11 (h:U4 lk T):lk.contains 13=aC:=by have:=h.no;simp only[dI]at this;exact this.1.2
def U4.n12 (h:U4 lk T):lk.contains 14=aC:=by have:=h.no;simp only[dI]at this;exact this.2
def aV1 (xs:List Int):V.jN m (xs.map V.int)=au:=O5 (λU=>rfl) xs
def Rx (h:U4 lk T)(t:xN T):Cl lk (HM sc cs us er es ns lg q T):=⟨by
 have hm:∀m:Nat,∀J:16≤m,∀J:H9 m T=au,H9 m (HM sc cs us er es ns lg q T)=au:=λm hm ht=>by have r:∀i,∀J:i<16,(V.ref i).lt m=au:=λi hi=>gO (aM hi hm);show(V.jN m (sc.map V.int)&&(V.jN m (cs.map nV)&&(V.jN m (((cs.drop 3).take 4).map nV)&&(((V.ref 4).lt m&&((V.ref 5).lt m&&((V.ref 6).lt m&&((V.ref 7).lt m&&au))))&&(au&&(au&&(au&&(au&&(V.jN m ((cs.take 3).map nV)&&(V.jN m ((es.map eP).map pV)&&(((V.ref 9).lt m&&au)&&(((V.ref 12).lt m&&au)&&(V.jN m ((ns.map nP).map pV)&&(O3 m (lB 1 lg)&&(V.jN m ((vI q).map V.str)&&(V.jN m (er.map V.str)&&H9 m T))))))))))))))))=au;have ii:∀l:List Nat,V.jN m (l.map nV)=au:=λl=>O5 (λU=>rfl) l;rw[aV1,ii,ii,ii,S7,S7,aH1,at4,at4,r 4 (by decide),r 5 (by decide),r 6 (by decide),r 7 (by decide),r 9 (by decide),r 12 (by decide),ht];rfl
 have e:(HM sc cs us er es ns lg q T).length=16+T.length:=dH T.length 16;rw[e];exact hm _ (bh _ _) t,λj hj=>jo (h.lt j hj) (dH 16 T.length)⟩
def ai1 (eo:J3 es)(no:Bq ns)(hr:∀c,∀J:c<7,Tx (rd es c)):Wd (HM sc cs us er es ns lg q T) 10 9 11 12 es ns where
 sh:=⟨rfl,rfl,by rw[aF];exact bB eo.len (by decide)⟩
 nt:=⟨rfl,rfl,by rw[aF];exact bB no.len (by decide)⟩
 ne:=by decide
 eo:=eo
 no:=no
 rd:=hr
def Ku (hk:k<4):(HM sc cs us er es ns lg q T)[4+k]?=aa (yf (us k)):=by
 rcases k with _ | _ | _ | _ | k
 ·rfl
 ·rfl
 ·rfl
 ·rfl
 ·exact absurd hk (bZ (cL 4 k))
def atj {k:Nat}(hk:k<4):Z5 (HM sc cs us er es ns lg q T) (.ref 3) (.int k)=aa (V.ref (4+k)):=by
 rcases k with _ | _ | _ | _ | k
 ·rfl
 ·rfl
 ·rfl
 ·rfl
 ·exact absurd hk (bZ (cL 4 k))
noncomputable abbrev zV (q:Nat->Bool)(k:Nat):Nat->Bool:=λj=>q j&&j !=k
def amw:(bbs.all λa=>bbs.all λb=>bbs.all λc=>bbs.all λd=>(dm 4).all λk=>(W4 a b c d).head? !=aa k || W4 (a&&0 !=k) (b&&1 !=k) (c&&2 !=k) (d&&3 !=k)==(W4 a b c d).tail)=au:=rfl
def pop_at (hk:k<4)(h:(wS q).head?=aa k):wS (zV q k)=(wS q).tail:=by have:=bj.mp (al2 (al2 (al2 (al2 amw (q 0)) (q 1)) (q 2)) (q 3)) k (cP.mpr hk);rw[show((W4 (q 0) (q 1) (q 2) (q 3)).head? !=aa k)=aC from by rw[show(W4 (q 0) (q 1) (q 2) (q 3)).head?=aa k from h];exact bne_self_eq_false _,Bool.false_or]at this;exact gM this
def Kv (hk:k<4)(h:(wS q).head?=aa k):(vI q).map V.str= .str (jB au (k+3))::(vI (zV q k)).map V.str:=by
 unfold vI;rw[pop_at hk h];cases e:wS q with
 | nil=>rw[e]at h;exact iz h
 | cons a l=>rw[e]at h;cases ak h;rfl
def Hb (h:wS q= []):(vI q).map V.str= []:=by unfold vI;rw[h];rfl
end
end
section
section
variable {sc:List Int}{cs:List Nat}{us:Nat->fV}{er:List aJ}{es:List Ent}{ns:List w6}{lg:List (aJ×aJ)}{q:Nat->Bool}{T:Hp}{lk:List Nat}{k n c kd:Nat}
def pop_0 (h:H[i]?=aa (.list (v::l)))(hl:lk.contains i=aC):W7 r lk (.lst j) (.ref i) ("pop":aJ) [.int 0] [] [] H=ok v (H.set i (.list l)):=by refine m9 rfl (d9 (R3 h) ?_);delta EY;refine aO (bk (by decide+kernel)) (aO (bN rfl) ?_);exact d9 rfl (d9 rfl (m9 rfl (d9 rfl (V6 hl))))
def Kw {a:Nat}(b:Nat):V0 H .Sub (.int (a+b:Nat)) (.int b)=ok (.int a) H:=by show ok (V.int (((a+b:Nat):Int)-(b:Int))) H=_;rw[lA,rI]
def ai2 (h:k<7):wG gL r lk "len" (.str (jB b k)) H=ok (.int (k+1:Nat)) H:=U6 rfl (m9 (M9 (aq7 h)) (by rw[X3]))
def abj:gL.glob "_law_make"=aa (.gl (.ref 395)):=rfl
def abk:gL.glob "_law_wake"=aa (.gl (.ref 416)):=rfl
def Ky:∀es:List Ent,∀J:(∀e∈es,e.1.2<7),(es.map eP).find? (λp=>bQ p.1==jB aC c)=(es.find? (jx c)).map eP:=by
 intro zz
 induction zz with
 | nil=>
  intro _;rfl
 | cons e es ih=>
  intro h;have e2:=asz (c:=c) (h e (.head _));cases w:jx c e with
  | true=>rw[cF,oO (by rw[e2,w]),oO (by rw[w])];rfl
  | false=>rw[cF,oR (by rw[e2,w];exact aR),oR (by rw[w];exact aR),ih λe he=>h e (.tail _ he)]
abbrev Qp (b:Bool)(c:Nat)(t:List Nat)(es:List Ent):List Ent:=(es.filter λe=> !jx c e)++ [((b,c),t)]
def aV2 {b:Bool}(cl:Cl lk H)(h:O2 H i j (es.map eP))(eo:J3 es)(hc:c<7)(ht:Tx t)(hl:lk.contains j=aC):
  Ca gL (o8 gL (n+25)) lk (.ref i) (.str (jB b c)) (.str (toS t)) H=ok () (H.set j (rC (Qp b c t es))):=by
 have:=abb (n:=n) cl h (ac2 (b:=b) hc) (Rv hc) (an4 hc) (aq7 hc) ht.vl (am6 eo) (by rw[aF];exact aq eo.len (by decide)) hl;rw[aB6 (λb=> !b) es eo.ix,show(es.filter λe=> !jx c e).map eP++ [(jB b c,toS t)]=(Qp b c t es).map eP from by rw[bu];rfl]at this;exact this
noncomputable abbrev otE:Option (V×Option (aJ×aJ))->j7
 | none=> []
 | some (v,aB)=> [("turn",v)]
 | some (v,aa p)=> [("turn",v),("one",.str p.1),("text",.str p.2)]
abbrev Ar (c kd:Nat)(nm rB old:aJ)(o:Option (V×Option (aJ×aJ))):j7:=("sheet",.ref 10)::("notes",.ref 11)::("rules",.ref 3)::("cell",.int c)::("log",.ref 13)::("waits",.ref 14)::("name",.str nm)::("kind",.int kd)::("said",.str rB)::("old",.str old)::otE o
def a1r (o:Option (V×Option (aJ×aJ)))(v:V):I6 gL (n+2) lk (.loc "turn") v ⟨Ar c kd nm rB old o, [],H⟩=eO () ⟨Ar c kd nm rB old (aa (v,o.elim aB (·.2))), [],H⟩:=by rcases o with _ | ⟨p',_ | r⟩<;>exact o5
def Qq (h:wS q= [])(o:Option (V×Option (aJ×aJ)))(v:V):
  ∃o',Z8 gL (n+80) lk (.loc "turn") as5 v ⟨Ar c kd nm rB old o, [],HM sc cs us er es ns lg q T⟩=eO .next ⟨Ar c kd nm rB old (aa (v,o')), [],HM sc cs us er es ns lg q T⟩:=
 ⟨_,Y6 (a1r o v) (m7 (M6 (CX rfl (by
  show aa (!((vI q).map V.str).isEmpty)=_;rw[Hb h];rfl)) R7) R7)⟩
abbrev lgK (k:Nat)(t:List Nat)(lg:List (aJ×aJ)):List (aJ×aJ):=lg++ [(jB au (k+3),toS t)]
def aO4 (hl:U4 lk T)(ht:xN T)(eo:J3 es)(no:Bq ns)(hr:∀c,∀J:c<7,Tx (rd es c))(hu:M5 us)(hk:k<4)(hq:(wS q).head?=aa k)(hz:(xM k (us k) es ns).length≤10)
  (rest:z8 (ik gL (n+79) lk) [.expr (.bW (.loc "log") "push" [X7,Z7] [] []),.ite e_57 [.asg (.sub W3 X7) Z7,.expr (.call (.jq "_law_wake") [e_49,(.bin .Sub e_59 e_1),e_54] [] [])] []] ⟨Ar c kd nm rB old (aa (v,aa (jB au (k+3),toS (uK (us k) es)))), [],HM sc cs us er es (xM k (us k) es ns) lg (zV q k) T⟩=eO .next σ) (o:Option (V×Option (aJ×aJ))):
  Z8 gL (n+80) lk (.loc "turn") as5 v ⟨Ar c kd nm rB old o, [],HM sc cs us er es ns lg q T⟩=eO .next σ:=by
 have k7:=bA hk 3;have tru:U5 (HM sc cs us er es ns lg q T) (.ref 14)=aa au:=by show aa (!((vI q).map V.str).isEmpty)=_;rw[Kv hk hq];rfl
 have hw:(HM sc cs us er es ns lg q T)[14]?=aa (.list (.str (jB au (k+3))::(vI (zV q k)).map V.str)):=congrArg (λl=>aa (m6.list l)) (Kv hk hq);have ep:=pop_0 (r:=o8 gL (n+77)) (j:=14) hw hl.n12;have em:=aO3 (n:=n+8) (Rx (sc:=sc) (cs:=cs) (er:=er) (lg:=lg) (q:=zV q k) hl ht) (ai1 eo no hr) (Ku hk) (λz=>absurd (z▸fc hk 4:12<4+4) (by decide)) (hu.ok k hk) hk hz hl.n10;rcases o with _ | ⟨p',_ | r⟩<;>exact Y6 o5 (rM (J6 (CX rfl tru) (m7 (p8 (p6 (d7 rfl) (U8 aAx hw) (mH j6) j4 ep) o5) (m7 (p8 (Bo abj rfl (Zg (d7 rfl) (d7 rfl) (O1 (d7 rfl) (o9 (Q9 O4 (d7 rfl) (ai2 k7)) j6 (Kw 4)) (atj hk)) (d7 rfl)) em) o5) rest))))
end
end
section
section
variable {sc:List Int}{cs:List Nat}{us:Nat->fV}{er:List aJ}{es:List Ent}{ns:List w6}{lg:List (aJ×aJ)}{q:Nat->Bool}{T:Hp}{lk:List Nat}{k n c kd:Nat}
abbrev tnE (k:Nat)(t s:List Nat)(es:List Ent):List Ent:=if t=s then es else Qp au (k+3) t es
abbrev tnQ (k:Nat)(t s:List Nat)(ns:List w6)(q:Nat->Bool):Nat->Bool:=if t=s then zV q k else Di (k+3) ns (zV q k)
def amz (hl:U4 lk T)(ht:xN T)(eo:J3 es)(no:Bq ns)(hr:∀c,∀J:c<7,Tx (rd es c))(hu:M5 us)(hk:k<4)(hq:(wS q).head?=aa k)(hz:(xM k (us k) es ns).length≤10)(hz2:lg.length<1000)
  (hs:es.find? (jx (k+3))=aa e) (o:Option (V×Option (aJ×aJ))):
  ∃o',Z8 gL (n+80) lk (.loc "turn") as5 v ⟨Ar c kd nm rB old o, [],HM sc cs us er es ns lg q T⟩=eO .next ⟨Ar c kd nm rB old (aa (v,o')), [],HM sc cs us er (tnE k (uK (us k) es) e.2 es) (xM k (us k) es ns) (lgK k (uK (us k) es) lg) (tnQ k (uK (us k) es) e.2 (xM k (us k) es ns) q) T⟩:=by
 have k7:=bA hk 3;have ru:=hu.ok k hk;have a7:=aM ru.a (aK (bz hk) 3);have o7:wY (us k) (rd es (us k).a)<7:=aM (ap3 ru) (aK (bz hk) 3);have no':Bq (xM k (us k) es ns):=⟨abg no hk a7 o7,hz⟩;have tx:Tx (uK (us k) es):=atf (hr _ a7) (hr _ o7) ru.w;have te:=eo.tx e (mJ hs);have W:=ai1 (sc:=sc) (cs:=cs) (us:=us) (er:=er) (lg:=lgK k (uK (us k) es) lg) (q:=zV q k) (T:=T) eo no' hr;have cl:=Rx (sc:=sc) (cs:=cs) (us:=us) (er:=er) (es:=es) (ns:=xM k (us k) es ns) (lg:=lgK k (uK (us k) es) lg) (q:=zV q k) hl ht;have ep:o6 gL (n+77) lk 314 [.ref 13,.str (jB au (k+3)),.str (toS (uK (us k) es))] [] [] (HM sc cs us er es (xM k (us k) es ns) lg (zV q k) T)=ok .none (HM sc cs us er es (xM k (us k) es ns) (lgK k (uK (us k) es) lg) (zV q k) T):=ag0 rfl hz2 hl.n11;have eg:=aF2 (n:=n+55) (lk:=lk) W.sh (ac2 (b:=au) k7) (Rv k7) (am6 eo);rw[Ky es eo.ix,hs]at eg;have cmp:dD gL (n+77) ⟨Ar c kd nm rB old (aa (v,aa (jB au (k+3),toS (uK (us k) es)))), [],lk⟩ e_57 (HM sc cs us er es (xM k (us k) es ns) (lgK k (uK (us k) es) lg) (zV q k) T)=ok (.bool (!(toS (uK (us k) es)==toS e.2))) (HM sc cs us er es (xM k (us k) es ns) (lgK k (uK (us k) es) lg) (zV q k) T):=
  v7 (d7 rfl) (p6 (d7 rfl) (J2 W.sh.inst JW) (mH (d7 rfl)) j4 eg) (neS tx.ok te.ok)
 have l1:∀H,Ii gL (HM sc cs us er es H lg (zV q k) T) (.ref 13) "push"=aa (.fn 314):=λH=>J7 rfl ay2 ay3;by_cases h:uK (us k) es=e.2
 ·rw[h,beq_self_eq_true]at cmp
  refine⟨aa (jB au (k+3),toS (uK (us k) es)), ?_⟩;rw[show tnE k (uK (us k) es) e.2 es=es from bN h,show tnQ k (uK (us k) es) e.2 (xM k (us k) es ns) q=zV q k from bN h];refine aO4 hl ht eo no hr hu hk hq hz (m7 (J5 (p6 (d7 rfl) (l1 _) (rK (d7 rfl) (d7 rfl)) j4 ep)) ?_) o;rw[←h]at cmp;exact m7 (M6 (t8 cmp) R7) R7
 ·rw[show(toS (uK (us k) es)==toS e.2)=aC from beq_eq_false_iff_ne.mpr λq=>h (JS q)]at cmp
  refine⟨aa (jB au (k+3),toS (uK (us k) es)), ?_⟩;rw[show tnE k (uK (us k) es) e.2 es=Qp au (k+3) (uK (us k) es) es from bk h,show tnQ k (uK (us k) es) e.2 (xM k (us k) es ns) q=Di (k+3) (xM k (us k) es ns) (zV q k) from bk h];have est:=aV2 (n:=n+51) (b:=au) cl W.sh eo k7 tx hl.n7;have ewk:=aO2 (n:=n+34) (Rx (sc:=sc) (cs:=cs) (us:=us) (er:=er) (es:=Qp au (k+3) (uK (us k) es) es) (lg:=lgK k (uK (us k) es) lg) (q:=zV q k) hl ht) (i:=11) ⟨rfl,rfl,by rw[aF];exact bB hz (by decide)⟩ no'.ok rfl hl.n12 k7;exact aO4 hl ht eo no hr hu hk hq hz (m7 (J5 (p6 (d7 rfl) (l1 _) (rK (d7 rfl) (d7 rfl)) j4 ep))
   (rM (J6 (t8 cmp) (qN2 (p8 (d7 rfl) (a0r (d7 rfl) (d7 rfl) est)) (J5 (Bo abk rfl (sE3 (d7 rfl) (o9 (Q9 O4 (d7 rfl) (ai2 k7)) j6 (Kw 1)) (d7 rfl)) ewk)))))) o
end
end
section
noncomputable def vX (m:Nat):List Nat:=dj (m/3 % 3+1) (120+m % 3)
section
variable {H:Hp}{lk:List Nat}{m n:Nat}
def ai3:Tx (vX m):=by
 have h3:m % 3<3:=gA _ (by decide);have hc:120+m % 3=120∨120+m % 3=121∨120+m % 3=122:=by
  rcases h:m % 3 with _ | _ | _ | k
  ·exact .inl rfl
  ·exact .inr (.inl rfl)
  ·exact .inr (.inr rfl)
  ·rw[h]at h3;exact absurd h3 (bZ (cL 3 k))
 have hn:120+m % 3≠32:=λq=>absurd (bh 120 (m % 3)) (by rw[q];decide);refine⟨λc h=> ?_, ?_,⟨_,_,iZ ..,hn⟩,⟨_,_,List.replicate_succ' ..,hn⟩⟩
 ·rw[BJ h];exact .inr (.inr hc)
 ·show(dj _ _).length≤400
  rw[jm];exact aq (jF (gA _ (by decide))) (show 3≤400 by decide)
def ay5:(vX m).length≤3:=by show(dj _ _).length≤3;rw[jm];exact jF (gA _ (by decide))
def a1s {k:Nat}(h:k<3):Z5 H (.str "xyz") (.int k)=aa (V.str (toS [120+k])):=by
 rcases k with _ | _ | _ | k
 ·rfl
 ·rfl
 ·rfl
 ·exact absurd h (bZ (cL 3 k))
def aO5:o6 gL (n+14) lk 381 [.int m] [] [] H=ok (.str (toS (vX m))) H:=
 w7 rfl rfl rfl rfl (M4 (R0 (o9 (O1 j6 (o9 (d7 rfl) j6 (R9 3 (show 0<3 by decide))) (a1s (gA m (show 0<3 by decide)))) (o9 j6 (o9 (o9 (d7 rfl) j6 (ak6 3 (show 0<3 by decide) (show 3≤10000 by decide))) j6 (R9 3 (show 0<3 by decide))) ((add_n).trans (by rw[dH]))) (av9 (aq (jF (gA _ (show 0<3 by decide))) (show 3≤1000 by decide)))))) (H7 rfl)
end
section
variable {H:Hp}{lk:List Nat}{n:Nat}
abbrev exc {α:Type}(c:String)(m:aJ)(H:Hp):Out α:=aa (.exc c m,H)
abbrev yG {α:Type}(c:String)(m:aJ)(σ:St):G5 α:=aa (.exc c m,σ)
def Dj {α β:Type}{X:Out α}{f:α->Hp->Out β}(h:X=exc c m H):jf X f=exc c m H:=by rw[h];rfl
def aH8 {α β:Type}{X:G5 α}{f:α->St->G5 β}(h:X=yG c m σ):Q5 X f=yG c m σ:=by rw[h];rfl
def aK6 {α:Type}{X:Out α}(h:X=exc c m H):lq σ X=yG c m {σ with hp:=H}:=by rw[h];rfl
def Hc (hf:G.fn ad=aa F)(hb:binds F vs kn ks H=aa (b,H0))(hL:(b.filter λq=> !F.cells.contains q.1)=L)(hC:(b.filter λq=>F.cells.contains q.1)=C)(hq:z8 (ik G n lk) F.body ⟨L,C,H0⟩=yG c m ⟨L',C',H'⟩):o6 G (n+1) lk ad vs kn ks H=exc c m H':=by subst hL hC;exact Zj hf hb (by rw[hq];rfl)
def qX (h:ik G n lk st σ=yG c m rT):z8 (ik G n lk) (st::r) σ=yG c m rT:=aH8 h
def abm (h:dD G n ⟨L,C,lk⟩ e H=exc c m H1):ik G (n+1) lk (.expr e) ⟨L,C,H⟩=yG c m ⟨L,C,H1⟩:=aH8 (aK6 h)
def abn (ho:dD G n φ o H=ok ov H1)(hl:Ii G H1 ov mm=aa tg)(ha:O6 (dD G n φ) l H1=exc c m H2):dD G (n+1) φ (.bW o mm l kn Ia) H=exc c m H2:=j9 ho (d9 hl (Dj ha))
def Hf {f:j0->Hp->Out V}(h:f e H=exc c m H1):O6 f (e::r) H=exc c m H1:=Dj h
def aCk (h:O6 (dD G n φ) l H=exc c m H1):dD G (n+1) φ (.tup l) H=exc c m H1:=Dj h
def abo (h:uH G n ⟨L,C,lk⟩ t H=ok au H1)(k:z8 (ik G n lk) bd ⟨L,C,H1⟩=yG c m σ):ik G (n+1) lk (.ite t bd od) ⟨L,C,H⟩=yG c m σ:=J6 h k
def a1t (h:z8 (ik G n lk) b σ=eO f rT):ik G (n+1) lk (.Ew b hs) σ=eO f rT:=by show(match z8 (ik G n lk) b σ with | some (.ok f,σ)=>eO f σ | some (.exc c m,σ)=>opt (hs.find? λh:DK=>decide (h.cls=kO c)) λh=>hnd lk h m σ | none=>aB)=_;rw[h]
def atk (h:z8 (ik G n lk) b σ=yG c m rT)(hf:(hs.find? λh:DK=>decide (h.cls=kO c))=aa g)(k:hnd lk g m rT=R):ik G (n+1) lk (.Ew b hs) σ=R:=by show(match z8 (ik G n lk) b σ with | some (.ok f,σ)=>eO f σ | some (.exc c m,σ)=>opt (hs.find? λh:DK=>decide (h.cls=kO c)) λh=>hnd lk h m σ | none=>aB)=_;rw[h];exact d9 hf k
noncomputable abbrev abp:aJ:="Control characters not allowed in headers"
def abq (hg:s.cps.toList.any RE.jz=au)(hz:s.length≤1000):o6 gL (n+12) lk 83 [v,.str s] ["name"] [.bool aC] H=exc "ValueError" abp H:=
 Hc rfl rfl rfl rfl
  (qX (abo (t8 (v7 (zq ax9 (d7 rfl) (ad0 rfl aF1)) (Z2 av7) Gy)) (m7 (p8 (Zh (CX rfl rfl) (Z2 asd)) o5) (qX (abo (CZ (p6 (d7 rfl) ase (mH (d7 rfl)) j4 (m9 rfl (d9 rfl (d9 rfl (m9 (M9 hz) (by rw[hg])))))) rfl) (qX rfl))))))
def ana (c:Cl lk H)(h:O2 H i j ps)(hl:bQ nm=lm)(hk:Ed lm)(hg:nm.cps.toList.any RE.jY=aC)(hn:nm.length≤1000)(hv:vl.cps.toList.any RE.jz=au)(hvz:vl.length≤1000)(zT:∀p∈ps,Rt p.1)(hz:ps.length≤450)(hj:lk.contains j=aC):
  o6 gL (n+25) lk 97 [.ref i,.str nm,.str vl] [] [] H=exc "ValueError" abp (H.set j (.list ((ps.filter λp=> !(bQ p.1==lm)).map pV))):=by
 have h1:=GC h (bB (aT7 (λp=> !(bQ p.1==lm)) hz) (by decide));exact Hc rfl rfl rfl rfl
  (m7 (a0q (d7 rfl) (d7 rfl) (d9 (af9 h) (d9 Zx (j9 (aF3 c h hl hk zT hz hj) rfl))))
   (qX (abm (abn (z7 (d7 rfl) (aa0 h1)) (U8 ak5 h1.row) (Hf (aCk (j9 (p6 (d7 rfl) (J2 h1.inst ah9) (mH (d7 rfl)) (mH j6) (ay0 hg hn)) (Dj (Hf (p6 (d7 rfl) (J2 h1.inst ah9) (mH (d7 rfl)) (mH j6) (abq hv hvz)))))))))))
end
end
section
structure Sx where
 es:List Ent
 ns:List w6
 lg:List (aJ×aJ)
 q:Nat->Bool
inductive Tn (us:Nat->fV):Sx->Sx->Prop
 | idle {s:Sx} (h:wS s.q= []):Tn us s s
 | go {s:Sx} {k:Nat} {e:Ent} (eo:J3 s.es) (no:Bq s.ns) (hr:∀c,∀J:c<7,Tx (rd s.es c)) (hk:k<4) (hq:(wS s.q).head?=aa k) (hz:(xM k (us k) s.es s.ns).length≤10) (hz2:s.lg.length<1000) (hs:s.es.find? (jx (k+3))=aa e):
   Tn us s ⟨tnE k (uK (us k) s.es) e.2 s.es,xM k (us k) s.es s.ns,lgK k (uK (us k) s.es) s.lg,tnQ k (uK (us k) s.es) e.2 (xM k (us k) s.es s.ns) s.q⟩
abbrev HX (sc:List Int)(cs:List Nat)(us:Nat->fV)(er:List aJ)(s:Sx)(T:Hp):Hp:=HM sc cs us er s.es s.ns s.lg s.q T
section
variable {sc:List Int}{cs:List Nat}{us:Nat->fV}{er:List aJ}{es:List Ent}{ns:List w6}{lg:List (aJ×aJ)}{q:Nat->Bool}{T:Hp}{lk:List Nat}{k n c kd:Nat}
def aH9 (hl:U4 lk T)(ht:xN T)(hu:M5 us)(t:Tn us s s')(v:V)(o:Option (V×Option (aJ×aJ))):
  ∃o',Z8 gL (n+80) lk (.loc "turn") as5 v ⟨Ar c kd nm rB old o, [],HX sc cs us er s T⟩=eO .next ⟨Ar c kd nm rB old (aa (v,o')), [],HX sc cs us er s' T⟩:=by
 cases t with
 | idle h=>exact Qq h o v
 | go eo no hr hk hq hz hz2 hs=>exact amz hl ht eo no hr hu hk hq hz hz2 hs o
def U4.cons {a:Nat}(h:U4 lk T)(ha:a<16+T.length)(hn:([a].contains 9 || [a].contains 12 || [a].contains 13 || [a].contains 14)=aC):U4 ([a]++lk) T:=⟨λj hj=>(bc.mp hj).elim (λq=>q▸ha) (h.lt j),by
 simp only[dI,qW,aec,jL]at hn;show((9==a || lk.contains 9) || (12==a || lk.contains 12) || (13==a || lk.contains 13) || (14==a || lk.contains 14))=aC;rw[hn.1.1.1,hn.1.1.2,hn.1.2,hn.2,h.n7,h.n10,h.n11,h.n12];rfl⟩
def a1u (hl:U4 lk T)(ht:xN T)(hu:M5 us)(t1:Tn us x0 x1)(t2:Tn us x1 x2)(t3:Tn us x2 x3)(t4:Tn us x3 x4):
  ∃o',ik gL (n+81) lk (.rA (.loc "turn") e_50 as5 []) ⟨Ar c kd nm rB old aB, [],HX sc cs us er x0 T⟩=eO .next ⟨Ar c kd nm rB old o', [],HX sc cs us er x4 T⟩:=by
 have h2:=hl.cons (a:=3) (aM (by decide) (bh 16 _)) rfl;obtain⟨o1,e1⟩:=aH9 h2 ht hu t1 (.ref 4) aB;obtain⟨o2,e2⟩:=aH9 h2 ht hu t2 (.ref 5) (aa (.ref 4,o1));obtain⟨o3,e3⟩:=aH9 h2 ht hu t3 (.ref 6) (aa (.ref 5,o2));obtain⟨o4,e4⟩:=aH9 h2 ht hu t4 (.ref 7) (aa (.ref 6,o3));exact⟨_,Gx (aH3 rfl rfl) (T4 e1 (T4 e2 (T4 e3 (T4 e4 rfl))))⟩
abbrev DY (c:Nat)(es:List Ent):List Ent:=es.filter λe=> !jx c e
def chg (kd p:Nat)(b:Bool)(es:List Ent):List Ent:=if kd=0 then DY p es else if 10<kd then es++ [((b,p),vX ((kd-1) % 10))] else if kd=10 then DY p es else Qp b p (vX ((kd-1) % 10)) es
def Hg (kd:Nat):aJ:=if kd=10 then abp else ""
abbrev aCl:t6:=a0l.body.getD 2 .bad
def abr:gL.glob "_law_text"=aa (.gl (.ref 381)):=rfl
def sub_1 (h:0<kd):V0 H .Sub (.int kd) (.int 1)=ok (.int (kd-1:Nat)) H:=by have:=Kw (H:=H) (a:=kd-1) 1;rw[aed h]at this;exact this
def abt (hk:0<kd)(h:φ.loc.lookup ("kind":aJ)=aa (.int kd)):dD gL (n+16) φ e_12 H=ok (.str (toS (vX ((kd-1) % 10)))) H:=
 Bo abr rfl (mH (o9 (o9 (d7 h) j6 (sub_1 hk)) j6 (R9 10 (show 0<10 by decide)))) aO5
def aw0 (a b:List Nat)(h:(a++b).length≤1000):V0 H .Add (.str (toS a)) (.str (toS b))=ok (.str (toS (a++b))) H:=by show opt (mkS ((toS a).append (toS b))) (λv=>ok v H)=_;rw[aq5];exact d9 (m9 (M9 (aq (cN (J1 _)) h)) rfl) rfl
def aCm {x y:Nat}(h:decide (x=y)=b):K7 H .Eq (.int x) (.int y)=aa b:=eqN.trans (congrArg aa h)
def a1w {b:Bool}(cl:Cl lk H)(h:O2 H i j (es.map eP))(eo:J3 es)(hc:c<7)(hl:lk.contains j=aC):afv gL (o8 gL (n+20)) lk (.ref i) (.str (jB b c)) H=ok () (H.set j (rC (DY c es))):=by have:=aF3 (n:=n) cl h (ac2 (b:=b) hc) (Rv hc) (am6 eo) (by rw[aF];exact aq eo.len (by decide)) hl;rw[aB6 (λb=> !b) es eo.ix]at this;exact d9 (af9 h) (d9 Zx (j9 this rfl))
def Qs {b:Bool}{t:List Nat}(cl:Cl lk H)(h:O2 H i j (es.map eP))(eo:J3 es)(hc:c<7)(hv:(toS t).cps.toList.any RE.jz=au)(hz:t.length≤1000)(hl:lk.contains j=aC):Ca gL (o8 gL (n+25)) lk (.ref i) (.str (jB b c)) (.str (toS t)) H=exc "ValueError" abp (H.set j (rC (DY c es))):=by have:=ana (n:=n) cl h (ac2 (b:=b) hc) (Rv hc) (an4 hc) (aq7 hc) hv (aq (cN (J1 t)) hz) (am6 eo) (by rw[aF];exact aq eo.len (by decide)) hl;rw[aB6 (λb=> !b) es eo.ix]at this;exact d9 (af9 h) (d9 ash (Dj this))
def a1x:RE.jz 10=au:=rfl
end
end
section
section
variable {sc:List Int}{cs:List Nat}{us:Nat->fV}{er:List aJ}{es:List Ent}{ns:List w6}{lg:List (aJ×aJ)}{q:Nat->Bool}{T:Hp}{lk:List Nat}{k n c kd p:Nat}{b:Bool}
def atl (hk:0<kd)(h:φ.loc.lookup ("kind":aJ)=aa (.int kd))(hz:kd≤10):dD gL (n+17) φ e_70 H=ok (.str (toS (vX ((kd-1) % 10)++dj (kd/10) 10))) H:=by
 have h1:kd/10≤1:=aq (Nat.div_le_div_right hz) (by decide);exact o9 (abt hk h) (o9 j6 (o9 (d7 h) j6 (ak6 10 (show 0<10 by decide) (show 10≤10000 by decide))) (av9 (aq h1 (by decide)))) (aw0 _ _ (by
  rw[az,jm];exact aq (dg ay5 h1) (by decide)))
def a1y (hl:U4 lk T)(ht:xN T)(eo:J3 es)(no:Bq ns)(hr:∀c,∀J:c<7,Tx (rd es c))(hp:p<7):
  ik gL (n+60) lk aCl ⟨Ar c kd (jB b p) "" old aB, [],HM sc cs us er es ns lg q T⟩=eO .next ⟨Ar c kd (jB b p) (Hg kd) old aB, [],HM sc cs us er (chg kd p b es) ns lg q T⟩:=by
 have cl:=Rx (sc:=sc) (cs:=cs) (us:=us) (er:=er) (es:=es) (ns:=ns) (lg:=lg) (q:=q) hl ht;have W:=ai1 (sc:=sc) (cs:=cs) (us:=us) (er:=er) (lg:=lg) (q:=q) (T:=T) eo no hr;by_cases h0:kd=0
 ·subst h0
  have ed:=a1w (n:=n+38) (b:=b) cl W.sh eo hp hl.n7;exact J6 (t8 (v7 (d7 rfl) j6 (aCm (y:=0) rfl))) (rM (a0q (d7 rfl) (d7 rfl) ed))
 have hk:=rJ h0;refine M6 (t8 (v7 (d7 rfl) j6 (aCm (decide_eq_false h0)))) (rM ?_);by_cases h1:10<kd
 ·rw[show chg kd p b es=es++ [((b,p),vX ((kd-1) % 10))] from(bk h0).trans (bN h1),show Hg kd="" from bk (pq h1)]
  have ea:=aT8 (n:=n+36) cl W.sh (an4 (b:=b) hp) (aq7 hp) (ai3 (m:=(kd-1) % 10)).vl (by rw[aF];exact aq eo.len (by decide)) hl.n7;rw[show es.map eP++ [(jB b p,toS (vX ((kd-1) % 10)))]=(es++ [((b,p),vX ((kd-1) % 10))]).map eP from by rw[bu];rfl]at ea;exact J6 (t8 (v7 (d7 rfl) j6 (gtN h1))) (rM (J5 (p6 (d7 rfl) (J2 W.sh.inst asf) (rK (d7 rfl) (abt hk rfl)) j4 ea)))
 have h2:=cV h1;refine M6 (t8 (v7 (d7 rfl) j6 (gtF h1))) (rM ?_);by_cases h3:kd=10
 ·subst h3
  have eb:=Qs (n:=n+30) (b:=b) (t:=vX ((10-1) % 10)++dj (10/10) 10) cl W.sh eo hp (jW.mpr ⟨10,fZ _ (.head _),a1x⟩) (by
   rw[az,jm];exact aq (aK ay5 _) (by decide)) hl.n7
  exact atk (qX (v6 (M8 (atl hk rfl (aN _))) (aH8 (aK6 (j9 (d7 rfl) (j9 (d7 rfl) eb)))))) rfl rfl
 ·have h4:=eV h2 h3
  rw[show chg kd p b es=Qp b p (vX ((kd-1) % 10)) es from(bk h0).trans ((bk h1).trans (bk h3)),show Hg kd="" from bk h3];have e:=atl (n:=n+39) (φ:=⟨Ar c kd (jB b p) "" old aB, [],lk⟩) (H:=HM sc cs us er es ns lg q T) hk rfl h2;rw[Nat.div_eq_of_lt h4,List.replicate_zero,bf]at e;have Ah:=aV2 (n:=n+30) (b:=b) cl W.sh eo hp (ai3 (m:=(kd-1) % 10)) hl.n7;exact a1t (rM (p8 e (a0r (d7 rfl) (d7 rfl) Ah)))
end
end
section
section
variable {sc:List Int}{cs:List Nat}{us:Nat->fV}{er:List aJ}{es:List Ent}{ns:List w6}{lg:List (aJ×aJ)}{q:Nat->Bool}{T:Hp}{lk:List Nat}{k n c kd p:Nat}{b:Bool}
def atm {m:Nat}(h:m<2):Z5 H (.str "aA") (.int m)=aa (V.str (toS [if (m==1)=au then 65 else 97])):=by
 rcases m with _ | _ | m
 ·rfl
 ·rfl
 ·exact absurd h (bZ (cL 2 m))
noncomputable abbrev pC (c:Nat):Nat:=c % 3
noncomputable abbrev sY (c:Nat):Nat:=c/3 % 20
noncomputable abbrev cpC (c:Nat):Bool:=c/60 % 2==1
abbrev Ef (c:Nat)(es:List Ent):List Ent:=chg (sY c) (pC c) (cpC c) es
abbrev qC (c:Nat)(es:List Ent)(ns:List w6)(q:Nat->Bool):Nat->Bool:=if rd (Ef c es) (pC c)=rd es (pC c) then q else Di (pC c) ns q
def aCn (hl:U4 lk T)(ht:xN T)(eo':J3 (Ef c es))(no:Bq ns)(hr:∀d,∀J:d<7,Tx (rd es d))(My:∀d,∀J:d<7,Tx (rd (Ef c es) d)):
  ik gL (n+82) lk (a0l.body.getD 3 .bad) ⟨Ar c kd nm rB (toS (rd es (pC c))) aB, [],HM sc cs us er (Ef c es) ns lg q T⟩=eO .next ⟨Ar c kd nm rB (toS (rd es (pC c))) aB, [],HM sc cs us er (Ef c es) ns lg (qC c es ns q) T⟩:=by
 have p3:pC c<3:=gA _ (by decide);have p7:pC c<7:=dG p3 (by decide);have cl:=Rx (sc:=sc) (cs:=cs) (us:=us) (er:=er) (es:=Ef c es) (ns:=ns) (lg:=lg) (q:=q) hl ht;have W:=ai1 (sc:=sc) (cs:=cs) (us:=us) (er:=er) (lg:=lg) (q:=q) (T:=T) eo' no My;have er':=aH6 (n:=n+50) cl W.sh eo' My p7;have cmp:dD gL (n+80) ⟨Ar c kd nm rB (toS (rd es (pC c))) aB, [],lk⟩ (.cmp .NotEq e_47 (.loc "old")) (HM sc cs us er (Ef c es) ns lg q T)=ok (.bool (!(toS (rd (Ef c es) (pC c))==toS (rd es (pC c))))) (HM sc cs us er (Ef c es) ns lg q T):=
  v7 (Bo aH7 rfl (rK (d7 rfl) (o9 (d7 rfl) j6 (R9 3 (by decide)))) er') (d7 rfl) (neS (My _ p7).ok (hr _ p7).ok)
 by_cases h:rd (Ef c es) (pC c)=rd es (pC c)
 ·rw[h,beq_self_eq_true]at cmp
  rw[show qC c es ns q=q from bN h];exact M6 (t8 cmp) R7
 ·rw[show(toS (rd (Ef c es) (pC c))==toS (rd es (pC c)))=aC from beq_eq_false_iff_ne.mpr λq=>h (JS q)]at cmp
  rw[show qC c es ns q=Di (pC c) ns q from bk h];have ewk:=aO2 (n:=n+37) cl W.nt no.ok rfl hl.n12 p7;exact J6 (t8 cmp) (rM (J5 (Bo abk rfl (sE3 (d7 rfl) (o9 (d7 rfl) j6 (R9 3 (by decide))) (d7 rfl)) ewk)))
def aX2 (hl:U4 lk T)(ht:xN T)(hu:M5 us)(eo:J3 es)(eo':J3 (Ef c es))(no:Bq ns)(hr:∀d,∀J:d<7,Tx (rd es d))(My:∀d,∀J:d<7,Tx (rd (Ef c es) d))
  (t1:Tn us ⟨Ef c es,ns,lg,qC c es ns q⟩ x1) (t2:Tn us x1 x2) (t3:Tn us x2 x3) (t4:Tn us x3 x4):
  o6 gL (n+83) lk 423 [.ref 10,.ref 11,.ref 3,.int c,.ref 13,.ref 14] [] [] (HM sc cs us er es ns lg q T)=ok (.str (Hg (sY c))) (HX sc cs us er x4 T):=by
 have p3:pC c<3:=gA _ (by decide);have p7:pC c<7:=dG p3 (by decide);have cl:=Rx (sc:=sc) (cs:=cs) (us:=us) (er:=er) (es:=es) (ns:=ns) (lg:=lg) (q:=q) hl ht;have W:=ai1 (sc:=sc) (cs:=cs) (us:=us) (er:=er) (lg:=lg) (q:=q) (T:=T) eo no hr;have er':=aH6 (n:=n+52) cl W.sh eo hr p7;obtain⟨o',e5⟩:=a1u hl ht hu t1 t2 t3 t4;exact w7 rfl rfl rfl rfl
  (m7 (p8 (V5 (sE3 (o9 (O1 j6 (o9 (o9 (d7 rfl) j6 (ak6 60 (by decide) (by decide))) j6 (R9 2 (by decide))) (atm (gA _ (by decide)))) (o9 (o9 (d7 rfl) j6 (R9 3 (by decide))) j6 (add_n)) (av9 (aq (jF p3) (show 3≤1000 by decide)))) (o9 (o9 (d7 rfl) j6 (ak6 3 (by decide) (by decide))) j6 (R9 20 (by decide))) j6)) (aAq o5 o5 o5))
   (m7 (p8 (Bo aH7 rfl (rK (d7 rfl) (o9 (d7 rfl) j6 (R9 3 (by decide)))) er') o5)
    (m7 (a1y hl ht eo no hr p7) (m7 (aCn hl ht eo' no hr My) (m7 e5 (M4 (R0 (d7 rfl)))))))) (H7 rfl)
end
end
section
section
variable {H H1 T:Hp}{ifs:List j0}{α:Type}{n:Nat}
def ay6:(H++o::T)[H.length]?=aa o:=by rw[dN (aN _),pA];rfl
def Kz:(H++o::T).set H.length o'=H++o'::T:=by rw[uF _ _ (aN _),pA];rfl
def ap4 (hl:lk.contains H.length=aC)(hz:acc.length<1000):Cd lk H.length v (H++ .list acc::T)=ok () (H++ .list (acc++ [v])::T):=d9 (R3 ay6) (m9 (M9 hz) (aO (V6 hl) (aO Kz rfl)))
def aX3 (f:α->V)(g:α->Option V)(gb:α->Hp)(st ct:Option α->j7):∀(vs:List α)(o:Option α)(acc:List V)(T:Hp),∀J:acc.length+vs.length≤1000,∀J:(∀a∈vs,∀(o:Option α)(acc:List V)(T:Hp),∀J:acc.length<1000,turn (o8 G n) lk H.length elt t ifs (f a) ⟨st o,ct o,H++ .list acc::T⟩=eO () ⟨st (aa a),ct (aa a),H++ .list (acc++(g a).toList)::(T++gb a)⟩),∃o',ap8 (turn (o8 G n) lk H.length elt t ifs) (vs.map f) ⟨st o,ct o,H++ .list acc::T⟩=eO () ⟨st o',ct o',H++ .list (acc++vs.filterMap g)::(T++(vs.map gb).flatten)⟩:=by
 intro zz
 induction zz with
 | nil=>
  intro o acc T _ _;exact⟨o,by refine aO wC ?_;rw[bf,show T++(List.map gb []).flatten=T from bf T];rfl⟩
 | cons a vs ih=>
  intro o acc T hz h;have hg:(acc++(g a).toList).length+vs.length≤1000:=by
   refine aO az ?_;have:(g a).toList.length≤1:=by cases g a<;>first | exact aN 1 | exact bR 1
   exact aq (aK (bG this _) _) (aq (cN (gq _ 1 _)) hz)
  have e1:=h a (.head _) o acc T (aM (kj (fO _)) hz);obtain⟨o',e⟩:=ih (aa a) (acc++(g a).toList) (T++gb a) hg λb hb=>h b (.tail _ hb);refine⟨o',(v6 e1 e).trans ?_⟩;rw[aQ,aQ];cases q:g a with
  | none=>refine aO (dq q) ?_;rfl
  | some b=>refine aO (cO q) ?_;rfl
def aI0 (f:α->V)(g:α->Option V)(gb:α->Hp)(st ct:Option α->j7){vs:List α}(h0:st aB= [])(hi:vO (o8 G n) φ it H=ok (vs.map f,Bp) H1)(hC:(φ.cX.filter λp=>uz.contains p.1)=ct aB)(hz:vs.length≤1000)
  (h:∀a∈vs,∀(o:Option α)(acc:List V)(T:Hp),∀J:acc.length<1000,turn (o8 G n) (Bp++φ.lk) H1.length elt t ifs (f a) ⟨st o,ct o,H1++ .list acc::T⟩=eO () ⟨st (aa a),ct (aa a),H1++ .list (acc++(g a).toList)::(T++gb a)⟩):
  dD G (n+1) φ (.comp elt t it ifs uz) H=ok (.ref H1.length) (H1++ .list (vs.filterMap g)::(vs.map gb).flatten):=by
 obtain⟨o',e⟩:=aX3 f g gb st ct vs aB [] [] (by simp only[qx,jd];exact hz) h;rw[h0]at e;refine j9 hi ?_;rw[←hC]at e;refine aO e ?_;rfl
def Q3 {β γ:Type}(f:β->γ):∀l:List β,l.filterMap (λx=>aa (f x))=l.map f:=by
 intro l
 induction l with
 | nil=>rfl
 | cons a l ih=>rw[cO (f:=λx=>aa (f x)) rfl,ih,cF]
end
abbrev sV (l:List Nat):V:= .str (toS l)
noncomputable abbrev gT (tx:List (List Nat))(k:Nat):List Nat:=tx.getD k []
abbrev Hh (u:fV)(tx:List (List Nat)):List Nat:=Ql u.h u.w (gT tx u.a) (gT tx (wY u (gT tx u.a)))
section
variable {K:Hp}{u:fV}{tx:List (List Nat)}{n ti ri k:Nat}{lk:List Nat}
def atn (h:k<tx.length):(tx.map sV)[k]?=aa (sV (gT tx k)):=by rw[gF];show _=aa (sV (tx.getD k []));rw[gZ,bU h];rfl
noncomputable abbrev Hi:Option (fV×Nat×Nat)->j7
 | none=> []
 | some (u,o,w)=> [("one",.int u.a),("two",.int u.b),("three",.int u.c),("width",.int u.w),("head",.int u.h),("other",.int o),("used",.int w)]
noncomputable abbrev p5E (u:fV):Option (fV×Nat×Nat)->j7
 | none=> [("one",.int u.a),("two",.int u.b),("three",.int u.c),("width",.int u.w),("head",.int u.h)]
 | some (_,o,w)=> [("one",.int u.a),("two",.int u.b),("three",.int u.c),("width",.int u.w),("head",.int u.h),("other",.int o),("used",.int w)]
abbrev zW (ti ri:Nat)(E:j7):j7:=("rules",.ref 3)::("texts",.ref ti)::("reads",.ref ri)::E
def a1z (h:K[j]?=aa (yf u))(o:Option (fV×Nat×Nat)):I6 gL (n+2) lk e_27 (.ref j) ⟨zW ti ri (Hi o),C,K⟩=eO () ⟨zW ti ri (p5E u o),C,K⟩:=by
 refine d9 (by
  show opt (listAt K (.ref j)) (λp=>aa p.2)=_;rw[R3 h];rfl) (m9 rfl ?_)
 rcases o with _ | ⟨u',o,w⟩<;>rfl
def aRe {x y:Nat}:K7 H .LtE (.int x) (.int y)=aa (decide (x≤y)):=congrArg aa (by simp only[fM])
def aRf {x y:Nat}:K7 H .Gt (.int x) (.int y)=aa (decide (y<x)):=congrArg aa (by simp only[je])
end
end
section
section
variable {K:Hp}{u:fV}{tx:List (List Nat)}{rs:List V}{n ti ri j k:Nat}{lk:List Nat}{C:j7}
def aI1 (hK:K[ti]?=aa (.list (tx.map sV)))(h1:φ.loc.lookup ("texts":aJ)=aa (.ref ti))(h2:φ.loc.lookup x=aa (.int k))(hk:k<tx.length)(hz:tx.length≤10):dD gL (n+2) φ (.sub Eb (.loc x)) K=ok (sV (gT tx k)) K:=
 O1 (d7 h1) (d7 h2) (Z3 hK (atn hk) (aq (bz hk) (aq hz (by decide))))
def aC0 (hK:K[ti]?=aa (.list (tx.map sV)))(h1:φ.loc.lookup ("texts":aJ)=aa (.ref ti))(h2:φ.loc.lookup x=aa (.int k))(hk:k<tx.length)(hz:tx.length≤10)(hl:(gT tx k).length≤400):dD gL (n+4) φ (.call V3 [(.sub Eb (.loc x))] [] []) K=ok (.int (gT tx k).length) K:=
 Q9 O4 (aI1 hK h1 h2 hk hz) (len_str (aq hl (by decide)))
abbrev Hj (u:fV)(tx:List (List Nat)):Nat:=Rw u.h u.w (gT tx u.a)
abbrev wk (u:fV)(tx:List (List Nat)):Nat:=wY u (gT tx u.a)
structure Dk (u:fV)(tx:List (List Nat)):Prop where
 a:u.a<tx.length
 b:u.b<tx.length
 c:u.c<tx.length
 z:tx.length≤10
 l:∀k,(gT tx k).length≤400
def Dk.o (h:Dk u tx):wk u tx<tx.length:=by
 delta wk wY
 split
 ·exact h.c
 ·exact h.b
def pl_1 (P:Dk u tx)(hK:K[ti]?=aa (.list (tx.map sV)))(o:Option (fV×Nat×Nat)):
  ik gL (n+20) lk (ax8.getD 0 .bad) ⟨zW ti ri (p5E u o),C,K⟩=eO .next ⟨zW ti ri (Hi (aa (u,wk u tx,u.h+(gT tx u.a).length))),C,K⟩:=by
 have hm:∀o,dD gL (n+16) ⟨zW ti ri (p5E u o),C,lk⟩ (.bin .Mod e_20 (.cst (.int 2))) K=ok (.int ((gT tx u.a).length % 2:Nat)) K:=λo=>by rcases o with _ | ⟨u',o,w⟩<;>exact o9 (aC0 hK rfl rfl P.a P.z (P.l _)) j6 (R9 2 (by decide))
 have hu:∀o,dD gL (n+18) ⟨zW ti ri (p5E u o),C,lk⟩ (.bin .Add (.loc "head") e_20) K=ok (.int (u.h+(gT tx u.a).length:Nat)) K:=λo=>by rcases o with _ | ⟨u',o,w⟩<;>exact o9 (d7 rfl) (aC0 hK rfl rfl P.a P.z (P.l _)) add_n
 have ho:∀o,dD gL (n+18) ⟨zW ti ri (p5E u o),C,lk⟩ (.ite (.bin .Mod e_20 (.cst (.int 2))) (.loc "two") (.loc "three")) K=ok (.int (wk u tx)) K:=λo=>by
  have h:=hm o;by_cases q:(gT tx u.a).length % 2=0
  ·rw[q]at h
   rw[show wk u tx=u.c from bN q];rcases o with _ | ⟨u',o,w⟩<;>exact Zh (Qm h rfl) (d7 rfl)
  ·rw[Sq.mp q]at h
   rw[show wk u tx=u.b from bk q];rcases o with _ | ⟨u',o,w⟩<;>exact am4 (Qm h rfl) (d7 rfl)
 have h1:=ho o;have h2:=hu o;rcases o with _ | ⟨u',o,w⟩<;>exact p8 (V5 (rK h1 h2)) (Z9 o5 o5)
def pl_2 (P:Dk u tx)(hK:K[ti]?=aa (.list (tx.map sV))):
  ik gL (n+20) lk (ax8.getD 1 .bad) ⟨zW ti ri (Hi (aa (u,wk u tx,u.h+(gT tx u.a).length))),C,K⟩=eO .next ⟨zW ti ri (Hi (aa (u,wk u tx,Hj u tx))),C,K⟩:=by
 have e1:dD gL (n+18) ⟨zW ti ri (Hi (aa (u,wk u tx,u.h+(gT tx u.a).length))),C,lk⟩ (.bin .Add e_1 e_20) K=ok (.int (1+(gT tx u.a).length:Nat)) K:=o9 j6 (aC0 hK rfl rfl P.a P.z (P.l _)) (add_n);have eh:uH gL (n+17) ⟨zW ti ri (Hi (aa (u,wk u tx,u.h+(gT tx u.a).length))),C,lk⟩ (.loc "head") K=ok (((u.h:Int)) !=0) K:=CX rfl rfl;have eg:uH gL (n+17) ⟨zW ti ri (Hi (aa (u,wk u tx,u.h+(gT tx u.a).length))),C,lk⟩ (.cmp .Gt (.loc "used") (.loc "width")) K=ok (decide (u.w<u.h+(gT tx u.a).length)) K:=t8 (v7 (d7 rfl) (d7 rfl) aRf);by_cases h0:u.h=0
 ·rw[show Hj u tx=u.h+(gT tx u.a).length from bk λq=>q.1 h0]
  rw[show((u.h:Int) !=0)=aC from by rw[h0];rfl]at eh;exact p8 (Zh (Zi eh rfl) (d7 rfl)) o5
 ·rw[show((u.h:Int) !=0)=au from bne_iff_ne.mpr λq=>h0 (afo.mp q)]at eh
  by_cases h1:u.w<u.h+(gT tx u.a).length
  ·rw[show Hj u tx=1+(gT tx u.a).length from bN ⟨h0,h1⟩]
   rw[gO h1]at eg;exact p8 (am4 (Zi eh eg) e1) o5
  ·rw[show Hj u tx=u.h+(gT tx u.a).length from bk λq=>h1 q.2]
   rw[decide_eq_false h1]at eg;exact p8 (Zh (Zi eh eg) (d7 rfl)) o5
end
end
section
section
variable {K:Hp}{u:fV}{tx:List (List Nat)}{rs:List V}{n ti ri j k:Nat}{lk:List Nat}{C:j7}
def a2a (f o:List Nat)(hf:f.length≤400)(ho:o.length≤400)(h1:dD gL (n+2) φ e1 K=ok (sV f) K)(h2:dD gL (n+3) φ e2 K=ok (sV o) K):dD gL (n+4) φ (.bin .Add (.bin .Add e1 PK) e2) K=ok (sV (f++32::o)) K:=by
 have a:=aw0 (H:=K) (f++ [32]) o (by
  rw[az,az];exact aq (dg (aK hf 1) ho) (show 400+1+400≤1000 by decide))
 rw[aQ]at a;exact o9 (o9 h1 j6 (aw0 f [32] (by rw[az];exact aq (aK hf 1) (show 400+1≤1000 by decide)))) h2 a
def aCr (P:Dk u tx)(hK:K[ti]?=aa (.list (tx.map sV))):
  dD gL (n+17) ⟨zW ti ri (Hi (aa (u,wk u tx,Hj u tx))),C,lk⟩ (.ite e_23 (.bin .Add (.bin .Add (.sub Eb X7) PK) (.sub Eb Gs)) (.sub Eb Gs)) K=ok (sV (Hh u tx)) K:=by
 have eg:uH gL (n+16) ⟨zW ti ri (Hi (aa (u,wk u tx,Hj u tx))),C,lk⟩ e_23 K=ok (decide (Hj u tx+1+(gT tx (wk u tx)).length≤u.w)) K:=
  t8 (v7 (o9 (o9 (d7 rfl) j6 (add_n)) (aC0 hK rfl rfl P.o P.z (P.l _)) add_n) (d7 rfl) aRe)
 by_cases h:Hj u tx+1+(gT tx (wk u tx)).length≤u.w
 ·rw[gO h]at eg
  rw[show Hh u tx=gT tx u.a++32::gT tx (wk u tx) from bN h];exact am4 eg (a2a _ _ (P.l _) (P.l _) (aI1 hK rfl rfl P.a P.z) (aI1 hK rfl rfl P.o P.z))
 ·rw[decide_eq_false h]at eg
  rw[show Hh u tx=gT tx (wk u tx) from bk h];exact Zh eg (aI1 hK rfl rfl P.o P.z)
abbrev plK (K:Hp)(ti ri:Nat)(tx:List (List Nat))(rs:List V)(u:fV):Hp:=(K.set ti (m6.list ((tx++ [Hh u tx]).map sV))++ [m6.list [V.int u.a,V.int (wk u tx)]]).set ri (m6.list (rs++ [V.ref K.length]))
def anb (P:Dk u tx)(hK:K[ti]?=aa (.list (tx.map sV)))(hR:K[ri]?=aa (.list rs))(hu:K[j]?=aa (yf u))(ht:ti≠ri)(hz:rs.length<1000)(l1:lk.contains ti=aC)(l2:lk.contains ri=aC)(o:Option (fV×Nat×Nat)):
  Z8 gL (n+20) lk e_27 ax8 (.ref j) ⟨zW ti ri (Hi o),C,K⟩=eO .next ⟨zW ti ri (Hi (aa (u,wk u tx,Hj u tx))),C,plK K ti ri tx rs u⟩:=by
 have a1:=al1 (v:=sV (Hh u tx)) (r:=o8 gL (n+18)) (j:=ti) hK (by rw[aF];exact bB P.z (by decide)) l1;have e0:tx.map sV++ [sV (Hh u tx)]=(tx++ [Hh u tx]).map sV:=by rw[bu];rfl
 rw[e0]at a1;have hR1:(K.set ti (.list ((tx++ [Hh u tx]).map sV)))[ri]?=aa (.list rs):=(gk ht).trans hR;have hR2:(K.set ti (.list ((tx++ [Hh u tx]).map sV))++ [.list [.int u.a,.int (wk u tx)]])[ri]?=aa (.list rs):=f9 hR1;have a2:=al1 (v:= .ref K.length) (r:=o8 gL (n+18)) (j:=ri) hR2 hz l2;have el:dD gL (n+18) ⟨zW ti ri (Hi (aa (u,wk u tx,Hj u tx))),C,lk⟩ (.lst [X7,Gs]) (K.set ti (.list ((tx++ [Hh u tx]).map sV)))=ok (.ref K.length) (K.set ti (.list ((tx++ [Hh u tx]).map sV))++ [.list [.int u.a,.int (wk u tx)]]):=by have:=Q8 (G:=gL) (n:=n+17) (φ:=⟨zW ti ri (Hi (aa (u,wk u tx,Hj u tx))),C,lk⟩) (H:=K.set ti (.list ((tx++ [Hh u tx]).map sV))) (l:= [X7,Gs]) (rK (d7 rfl) (d7 rfl));rw[cY]at this;exact this
 exact Y6 (a1z hu o) (m7 (pl_1 P hK o) (qN3 (pl_2 P hK) (J5 (p6 (d7 rfl) (U8 ak5 hK) (mH (aCr P hK)) j4 a1)) (J5 (p6 (d7 rfl) (U8 ak5 hR1) (mH el) j4 a2))))
end
end
section
section
variable {H K T:Hp}{es:List Ent}{n oi k:Nat}{lk:List Nat}
def KC (h:∀j∈lk,j<H.length)(hm:H.length≤m):lk.contains m=aC:=eF.mpr λq=>absurd (h _ (cJ.mp q)) (bZ hm)
abbrev ntE:Option Ent->j7
 | none=> []
 | some e=> [("name",.str (jB e.1.1 e.1.2)),("text",sV e.2)]
def ap5 (o:Option Ent)(e:Ent):I6 gL (n+2) lk e_8 (pV (eP e)) ⟨ntE o,C,K⟩=eO () ⟨ntE (aa e),C,K⟩:=by cases o<;>exact Z9 o5 o5
def abu:∀es:List Ent,(es.filterMap λe=>if jx k e=au then aa (sV e.2) else aB)=(lF es k).map sV:=by
 intro zz
 induction zz with
 | nil=>rfl
 | cons e es ih=>
  unfold lF;cases h:jx k e with
  | true=>rw[cO (by rw[h];rfl),bD h,ih];rfl
  | false=>rw[dq (by rw[h];rfl),bw (by rw[h];exact aR),ih];rfl
def eqk:K7 H .Eq (.int (a+1:Nat)) (.int (k+1:Nat))=aa (a==k):=by
 refine eqN.trans (congrArg aa ?_);by_cases h:a=k
 ·rw[h,beq_self_eq_true];exact gO rfl
 ·rw[beq_eq_false_iff_ne.mpr h];exact decide_eq_false λq=>h (nQ q)
def abv (hK:K[oi]?=aa (rC es))(eo:J3 es)(ju:∀j∈lk,j<K.length)(hφ:φ.lk=lk)(hc:(φ.cX.filter λp=>(["k"]:List aJ).contains p.1)=([("k",.int k)]:j7))(ho:φ.cX.lookup ("order":aJ)=aa (.ref oi)):
  dD gL (n+12) φ (.comp Z7 e_8 (.cX "order") [(.cmp .Eq e_4 (.bin .Add (.cX "k") e_1))] ["k"]) K=ok (.ref K.length) (K++ [.list ((lF es k).map sV)]):=by
 subst hφ;have hoi:=(aL.mp hK).1;rw[←abu];refine JV (λe:Ent=>pV (eP e)) (λe=>if jx k e=au then aa (sV e.2) else aB) ntE rfl (j9 (Q4 ho) (d9 (d9 hK rfl) (by rw[bF];rfl))) hc (aq eo.len (by decide)) λe he o acc ha=> ?_;have sH:dD gL (n+10) ⟨ntE (aa e), [("k",.int k)], [oi]++φ.lk⟩ (.cmp .Eq e_4 (.bin .Add (.cX "k") e_1)) (K++ [.list acc])=ok (.bool (jx k e)) (K++ [.list acc]):=
  v7 (Q9 O4 (d7 rfl) (ai2 (eo.ix e he))) (o9 (Q4 rfl) j6 (add_n)) eqk
 cases q:jx k e with
 | true=>
  rw[q]at sH;exact aO (bN rfl) (nU (ap5 o e) (ao9 (t8 sH)) (d7 rfl) (R1 (aa4 (cW hoi) (KC ju (aN _))) ha))
 | false=>
  rw[q]at sH;refine aO (bk aR) ?_;refine(wX (ap5 o e) (ap0 (t8 sH))).trans ?_;show _=eO () ⟨_,_,K++ [.list (acc++ [])]⟩;rw[bf]
noncomputable abbrev orC (oi:Nat):Option Nat->j7
 | none=> [("order",.ref oi)]
 | some k=> [("order",.ref oi),("k",.int k)]
def a2c (hK:K[oi]?=aa (rC es))(eo:J3 es)(hr:Tx (rd es k))(ju:∀j∈lk,j<K.length):
  dD gL (n+16) ⟨[],orC oi (aa k),lk⟩ e_17 K=ok (sV (rd es k)) (K++ [.list ((lF es k).map sV)]):=by
 have hx:(K++ [m6.list ((lF es k).map sV)])[K.length]?=aa (.list (((lF es k).map toS).map V.str)):=by rw[bF];exact n8
 have jn:=λr=>as8 (r:=r) (lk:=lk) (ov:= .str " ") hx (by
  rw[bF,aF];refine aq (dg (ai0 (m:=400) _ λt ht=> ?_) (aN _)) ?_
  ·show(toS t).length≤400
   exact aO (J1 t) (GP eo t ht).len
  ·refine aO (show(" ":aJ).length=1 from rfl) ?_
   exact aq (dg (dh _ (an5 eo)) (dh _ (an5 eo))) (by decide))
 have jr:qj (" ":aJ) ((lF es k).map toS)=toS (rowsOf 32 (lF es k)):=join_rows 32 _;rw[jr]at jn;have hle:=abe hr.len;refine rOr (p6 j6 (R2 as7) (mH (abv hK eo ju rfl rfl rfl)) j4 (jn _)) (Ko (aO (J1 _) hle)) ?_;rw[J1];show _=ok (sV (Qe (rowsOf 32 (lF es k)))) _;cases q:rowsOf 32 (lF es k) with
 | nil=>exact j6
 | cons x r=>rfl
abbrev rd3 (es:List Ent):List (List Nat):= [rd es 0,rd es 1,rd es 2]
def abw (hK:K[oi]?=aa (rC es))(eo:J3 es)(hr:∀c,∀J:c<7,Tx (rd es c))(ju:∀j∈lk,j<K.length){L:j7}:
  dD gL (n+18) ⟨L, [("order",.ref oi)],lk⟩ (.comp e_17 (.cX "k") (.Bh [e_3]) [] ["order"]) K=
   ok (.ref K.length) (K++ [.list ((rd3 es).map sV),.list ((lF es 0).map sV),.list ((lF es 1).map sV),.list ((lF es 2).map sV)]):=by
 have:=aI0 (n:=n+17) (φ:=⟨L, [("order",.ref oi)],lk⟩) (t:= .cX "k") (it:= .Bh [e_3]) (uz:= ["order"])
  nV (λk=>aa (sV (rd es k))) (λk=> [.list ((lF es k).map sV)]) (λU=> []) (orC oi) (vs:= [0,1,2]) rfl rfl rfl (by decide) (λk hk o acc T ha=>by
   have k7:k<7:=dG (cP.mp (show k∈dm 3 from hk)) (by decide);have hK':(K++ .list acc::T)[oi]?=aa (rC es):=f9 hK;have aRi:∀j∈lk,j<(K++ .list acc::T).length:=λj hj=>aM (ju j hj) (by rw[az];exact bh _ _);have e:=a2c (n:=n+1) hK' eo (hr k k7) aRi;rw[aQ]at e;exact nU (by cases o<;>exact yE) S9 e (ap4 (KC ju (aN _)) ha))
 exact this
end
end
section
noncomputable def ie (us:Nat->fV)(es:List Ent):Nat->List (List Nat)
 | 0=>rd3 es
 | k+1=>ie us es k++ [Hh (us k) (ie us es k)]
abbrev yU (us:Nat->fV)(es:List Ent)(k:Nat):Nat:=wk (us k) (ie us es k)
abbrev prO (us:Nat->fV)(es:List Ent)(k:Nat):m6:= .list [.int (us k).a,.int (yU us es k)]
abbrev Qt (us:Nat->fV)(es:List Ent)(L:Nat):Hp:= [.list ((ie us es 4).map sV),.list ((lF es 0).map sV),.list ((lF es 1).map sV),.list ((lF es 2).map sV),.list [.ref (L+5),.ref (L+6),.ref (L+7),.ref (L+8)],prO us es 0,prO us es 1,prO us es 2,prO us es 3]
section
variable {H P:Hp}{us:Nat->fV}{es:List Ent}{tx:List (List Nat)}{rs:List V}{n oi k:Nat}{lk:List Nat}{u:fV}
def a2d (h:∀t∈tx,Tx t)(k:Nat):(gT tx k).length≤400:=by
 show(tx.getD k []).length≤400;rw[gZ];cases e:tx[k]? with
 | none=>exact bR _
 | some t=>exact(h t (rz _ e)).len
def abx (h:∀t∈tx,Tx t)(hk:k<tx.length):Tx (gT tx k):=by show Tx (tx.getD k []);rw[gZ,bU hk];exact h _ (List.getElem_mem hk)
def aI2 (hr:∀c,∀J:c<7,Tx (rd es c))(hu:M5 us):∀k,∀J:k≤4,(ie us es k).length=k+3∧(∀t∈ie us es k,Tx t):=by
 intro k
 induction k with
 | zero=>
  intro _;refine⟨rfl,λt ht=> ?_⟩;rcases bc.mp ht with rfl | ht
  ·exact hr 0 (by decide)
  ·rcases bc.mp ht with rfl | ht
   ·exact hr 1 (by decide)
   ·rw[aH.mp ht];exact hr 2 (by decide)
 | succ k ih=>
  intro hk;obtain⟨e1,e2⟩:=ih (dB hk);have ru:=hu.ok k hk;have ho:wk (us k) (ie us es k)<(ie us es k).length:=by rw[e1];exact ap3 ru
  refine⟨by show(ie us es k++ [_]).length=_;rw[az,e1];rfl,af4 e2 (atf (abx e2 (by rw[e1];exact ru.a)) (abx e2 ho) ru.w)⟩
def Dl (hr:∀c,∀J:c<7,Tx (rd es c))(hu:M5 us)(hk:k<4):Dk (us k) (ie us es k):=by obtain⟨e1,e2⟩:=aI2 hr hu k (bz hk);have ru:=hu.ok k hk;exact⟨by rw[e1];exact ru.a,by rw[e1];exact ru.b,by rw[e1];exact ru.c,by rw[e1];exact aq (aK (bz hk) 3) (by decide),a2d e2⟩
def a2e:plK (H++(m6.list (tx.map sV)::g0::g1::g2::m6.list rs::P)) H.length (H.length+4) tx rs u=H++(m6.list ((tx++ [Hh u tx]).map sV)::g0::g1::g2::m6.list (rs++ [V.ref (H.length+(5+P.length))])::(P++ [m6.list [V.int u.a,V.int (wk u tx)]])):=by delta plK;rw[Kz,aQ,aay,az];show H++_=_;rw[show(m6.list (tx.map sV)::g0::g1::g2::m6.list rs::P).length=5+P.length from dH P.length 5];rfl
def aC1 {g0 g1 g2:m6}(P0:Dk u tx)(hu:H[j]?=aa (yf u))(hz:rs.length<1000)(ju:∀j∈lk,j<H.length)(o:Option (fV×Nat×Nat)){C:j7}:
  Z8 gL (n+20) lk e_27 ax8 (.ref j) ⟨zW H.length (H.length+4) (Hi o),C,H++(m6.list (tx.map sV)::g0::g1::g2::m6.list rs::P)⟩=eO .next ⟨zW H.length (H.length+4) (Hi (aa (u,wk u tx,Hj u tx))),C,H++(m6.list ((tx++ [Hh u tx]).map sV)::g0::g1::g2::m6.list (rs++ [V.ref (H.length+(5+P.length))])::(P++ [m6.list [V.int u.a,V.int (wk u tx)]]))⟩:=by
 have e:=anb (n:=n) (ri:=H.length+4) (K:=H++(m6.list (tx.map sV)::g0::g1::g2::m6.list rs::P)) (C:=C) P0 ay6 (by
  rw[dN (bh _ _),iV];rfl) (f9 hu) (λq=>absurd (nG (m:=0) q) (by decide)) hz (KC ju (aN _)) (KC ju (bh _ _)) o
 rw[a2e]at e;exact e
def aw1 (ho:H[oi]?=aa (rC es))(h2:H[3]?=aa (.list [.ref 4,.ref 5,.ref 6,.ref 7]))(hu4:∀k,∀J:k<4,H[4+k]?=aa (yf (us k)))(eo:J3 es)(hr:∀c,∀J:c<7,Tx (rd es c))(hu:M5 us)(ju:∀j∈lk,j<H.length):
  o6 gL (n+40) lk 428 [.ref oi,.ref 3] [] [] H=ok (.tup [.ref H.length,.ref (H.length+4)]) (H++Qt us es H.length):=by
 have anf:∀j∈ [3]++lk,j<H.length:=λj hj=>(bc.mp hj).elim (λq=>q▸(aL.mp h2).1) (ju j);have e0:=abw (n:=n+19) (L:= [("rules",.ref 3)]) ho eo hr ju;have s1:=λC=>aC1 (n:=n+18) (lk:= [3]++lk) (C:=C) (g0:= .list ((lF es 0).map sV)) (g1:= .list ((lF es 1).map sV)) (g2:= .list ((lF es 2).map sV)) (rs:= []) (P:= []) (Dl hr hu (by decide)) (hu4 0 (by decide)) (by decide) anf aB;have s2:=λC=>aC1 (n:=n+18) (lk:= [3]++lk) (C:=C) (g0:= .list ((lF es 0).map sV)) (g1:= .list ((lF es 1).map sV)) (g2:= .list ((lF es 2).map sV)) (rs:= [.ref (H.length+5)]) (P:= [prO us es 0]) (Dl hr hu (by decide)) (hu4 1 (by decide)) (show 1<1000 by decide) anf (aa (us 0,yU us es 0,Hj (us 0) (ie us es 0)));have s3:=λC=>aC1 (n:=n+18) (lk:= [3]++lk) (C:=C) (g0:= .list ((lF es 0).map sV)) (g1:= .list ((lF es 1).map sV)) (g2:= .list ((lF es 2).map sV)) (rs:= [.ref (H.length+5),.ref (H.length+6)]) (P:= [prO us es 0,prO us es 1]) (Dl hr hu (by decide)) (hu4 2 (by decide)) (show 2<1000 by decide) anf (aa (us 1,yU us es 1,Hj (us 1) (ie us es 1)));have s4:=λC=>aC1 (n:=n+18) (C:=C) (g0:= .list ((lF es 0).map sV)) (g1:= .list ((lF es 1).map sV)) (g2:= .list ((lF es 2).map sV)) (rs:= [.ref (H.length+5),.ref (H.length+6),.ref (H.length+7)]) (P:= [prO us es 0,prO us es 1,prO us es 2]) (Dl hr hu (by decide)) (hu4 3 (by decide)) (show 3<1000 by decide) anf (aa (us 2,yU us es 2,Hj (us 2) (ie us es 2)));have el:dD gL (n+37) ⟨[("rules",.ref 3)], [("order",.ref oi)],lk⟩ (.lst []) (H++ [.list ((rd3 es).map sV),.list ((lF es 0).map sV),.list ((lF es 1).map sV),.list ((lF es 2).map sV)])=ok (.ref (H.length+4)) (H++ [.list ((rd3 es).map sV),.list ((lF es 0).map sV),.list ((lF es 1).map sV),.list ((lF es 2).map sV),.list []]):=by have:=Q8 (G:=gL) (n:=n+36) (φ:=⟨[("rules",.ref 3)], [("order",.ref oi)],lk⟩) (H:=H++ [m6.list ((rd3 es).map sV),.list ((lF es 0).map sV),.list ((lF es 1).map sV),.list ((lF es 2).map sV)]) j4;rw[az,aQ]at this;exact this
 exact w7 rfl rfl rfl rfl
  (m7 (p8 (V5 (rK e0 el)) (Z9 o5 o5))
   (m7 (Gx (aH3 rfl (f9 h2)) (T4 (s1 _) (T4 (s2 _) (T4 (s3 _) (T4 (s4 _) rfl))))) (M4 (R0 (V5 (rK (d7 rfl) (d7 rfl))))))) (aj7 (by
    show((V.ref H.length).lt H.length&&_)=aC;rw[aj8];rfl))
end
end
section
structure Gr (H K:Hp):Prop where
 ex:∃T,K=H++T∧H9 K.length T=au
section
variable {H K:Hp}{n i j si:Nat}{lk:List Nat}
def Gr.refl:Gr H H:=⟨[],(bf H).symm,rfl⟩
def Gr.add (g:Gr H K)(h:H9 (K.length+T.length) T=au):Gr H (K++T):=by obtain⟨T0,rfl,h0⟩:=g.ex;refine⟨T0++T,aQ .., ?_⟩;rw[GZ,az,aK4 (bh _ _) T0 h0,h];rfl
def Gr.at (g:Gr H K)(h:H[i]?=aa o):K[i]?=aa o:=by obtain⟨T0,rfl,h0⟩:=g.ex;exact f9 h
def Gr.le (g:Gr H K):H.length≤K.length:=by obtain⟨T0,rfl,h0⟩:=g.ex;rw[az];exact bh _ _
def Gr.Bp (g:Gr H K)(h:∀j∈lk,j<H.length):∀j∈lk,j<K.length:=λj hj=>aM (h j hj) g.le
abbrev prE {β:Type}(f:β->aJ×aJ):Option β->j7
 | none=> []
 | some x=> [("pair",pV (f x))]
def ay7 {β:Type}(f:β->aJ×aJ)(p:β->Bool)(gb:Hp){xs:List β}{φ:Fm}{C:j7}{src:aJ}{cond:j0}{uz:List aJ}(hK:K[si]?=aa (.list (xs.map λx=>pV (f x))))(hs:φ.loc.lookup src=aa (.ref si))(hC:(φ.cX.filter λp=>uz.contains p.1)=C)(hz:xs.length≤100)(ju:∀j∈φ.lk,j<K.length)
  (hc:∀x∈xs,∀acc T,uH gL (n+2) ⟨[("pair",pV (f x))],C, [si]++φ.lk⟩ cond (K++ .list acc::T)=ok (p x) (K++ .list acc::(T++gb))):
  dD gL (n+3) φ (.comp PJ PJ (.loc src) [cond] uz) K=ok (.ref K.length) (K++ .list ((xs.filter p).map λx=>pV (f x))::(xs.map λ_=>gb).flatten):=by
 have hsi:=(aL.mp hK).1;have:=aI0 (n:=n+2) (elt:= .loc "pair") (it:= .loc src) (Bp:= [si]) (λx=>pV (f x)) (λx=>if p x=au then aa (pV (f x)) else aB) (λ_=>gb) (prE f) (λ_=>C) rfl (j9 (d7 hs) (d9 (d9 hK rfl) rfl)) hC (aq hz (by decide)) (λx hx o acc T ha=>by
  have ht:I6 gL (n+2) ([si]++φ.lk) PJ (pV (f x)) ⟨prE f o,C,K++ .list acc::T⟩=eO () ⟨prE f (aa x),C,K++ .list acc::T⟩:=by cases o<;>exact o5
  have hcx:=hc x hx acc T;cases q:p x with
  | true=>
   rw[q]at hcx;exact aO (bN rfl) (nU ht (ao9 hcx) (d7 rfl) (ap4 (aa4 (cW hsi) (KC ju (aN _))) ha))
  | false=>
   rw[q]at hcx;refine aO (bk aR) ?_;refine(wX ht (ap0 hcx)).trans ?_;show _=eO () ⟨_,_,K++ .list (acc++ [])::(T++gb)⟩;rw[bf])
 rw[this];have e:∀xs:List β,(xs.filterMap λx=>if p x=au then aa (pV (f x)) else aB)=(xs.filter p).map λx=>pV (f x):=by
  intro l
  induction l with
  | nil=>rfl
  | cons x l ih=>
   cases h:p x with
   | true=>rw[cO (by rw[h];rfl),bD h,ih];rfl
   | false=>rw[dq (by rw[h];rfl),bw (by rw[h];exact aR),ih]
 rw[e]
def ang (n:Nat):∀xs:List Nat,(xs.map nV).mapM (R4 H (n+1))=aa (xs.map λ(k:Nat)=>yZ k):=by
 intro zz
 induction zz with
 | nil=>rfl
 | cons x xs ih=>
  rw[cF,oM,ih];rfl
def aK7 {xs:List Nat}(hi:H[i]?=aa (.list (xs.map nV)))(n:Nat):R4 H (n+2) (.ref i)=aa (.list (xs.map λ(k:Nat)=>yZ k)):=
 d9 hi (d9 rfl (by rw[ang n xs];rfl))
def ne_nil {xs:List Nat}(hi:H[i]?=aa (.list (xs.map nV)))(hj:H[j]?=aa (.list [])):K7 H .NotEq (.ref i) (.ref j)=aa (!xs.isEmpty):=by
 show(opt (R4 H 8 (.ref i)) λx=>opt (R4 H 8 (.ref j)) λy=>aa (km x y)).map (!·)=_;rw[aK7 hi 6,aK7 (xs:= []) hj 6];cases xs with
 | nil=>rfl
 | cons x xs=>rfl
def anh (a:Nat):∀xs:List Nat,((xs.map λ(k:Nat)=>yZ k).any λy=>km y (.int a))=xs.contains a:=by
 intro zz
 induction zz with
 | nil=>rfl
 | cons x xs ih=>
  rw[cF,Bv,ih,qW]
  congr 1
  show((x:Int)==(a:Int))=(a==x);by_cases h:x=a
  ·rw[h,beq_self_eq_true,beq_self_eq_true]
  ·exact(beq_eq_false_iff_ne.mpr λq:(x:Int)=(a:Int)=>h (Sg q)).trans (beq_eq_false_iff_ne.mpr (Ne.symm h)).symm
def KD {xs:List Nat}{a:Nat}(hi:H[i]?=aa (.list (xs.map nV))):K7 H .NotIn (.int a) (.ref i)=aa (!(xs.contains a)):=by show(opt (R4 H 8 (.ref i)) λy=>opt (Sw y) λds=>opt (R4 H 8 (.int a)) λd=>aa (!(ds.any λy=>km y d)))=_;rw[aK7 hi 6];show aa (!((xs.map λ(k:Nat)=>yZ k).any λy=>km y (.int a)))=_;rw[anh]
end
end
section
section
variable {H K:Hp}{us:Nat->fV}{es:List Ent}{n oi ni c kd p:Nat}{b:Bool}{lk:List Nat}{C:j7}
def neN {x y:Nat}:K7 H .NotEq (.int x) (.int y)=aa (!decide (x=y)):=by show(K7 H .Eq (.int x) (.int y)).map (!·)=_;rw[eqN];rfl
def nek:K7 H .NotEq (.int (a+1:Nat)) (.int (k+1:Nat))=aa (!(a==k)):=by show(K7 H .Eq (.int (a+1:Nat)) (.int (k+1:Nat))).map (!·)=_;rw[eqk];rfl
noncomputable abbrev Eg (oi ni c kd:Nat):j7:= [("order",.ref oi),("noted",.ref ni),("rules",.ref 3),("cell",.int c),("kind",.int kd)]
def aV3 {β:Type}:∀xs:List β,(xs.map λ_=>([]:Hp)).flatten= []:=by
 intro xs
 induction xs with
 | nil=>rfl
 | cons x xs ih=>exact ih
def aby (hK:K[oi]?=aa (rC es))(eo:J3 es)(hC:(C.filter λp=>(["place"]:List aJ).contains p.1)=([("place",.int p)]:j7))(ju:∀j∈lk,j<K.length):
  dD gL (n+12) ⟨Eg oi ni c kd,C,lk⟩ e_64 K=ok (.ref K.length) (K++ [rC (DY p es)]):=by
 have:=ay7 (n:=n+9) (φ:=⟨Eg oi ni c kd,C,lk⟩) eP (λe=> !jx p e) [] (src:="order") (cond:= .cmp .NotEq e_26 (.bin .Add (.cX "place") e_1)) (hK.trans (by show aa (m6.list ((es.map eP).map pV))=_;rw[bF];rfl)) rfl hC (aq eo.len (by decide)) ju (λe he acc T=>by
  rw[bf];exact t8 (v7 (Q9 O4 (O1 (d7 rfl) j6 rfl) (ai2 (eo.ix e he))) (o9 (Q4 rfl) j6 (add_n)) nek))
 rw[aV3]at this;rw[this];show _=ok (V.ref K.length) (K++ [m6.list (((es.filter λe=> !jx p e).map eP).map pV)]);rw[bF];rfl
def af6 (h1:K[i]?=aa (.list l1))(h2:K[j]?=aa (.list l2))(hz:l1.length+l2.length≤1000):V0 K .Add (.ref i) (.ref j)=ok (.ref K.length) (K++ [.list (l1++l2)]):=
 d9 (R3 h1) (d9 (R3 h2) (m9 (M9 hz) rfl))
def ato (m:Nat)(es:List Ent):O3 m (rC es)=au:=S7 _
abbrev d3:t6:=a0m.body.getD 2 .bad
abbrev d4:t6:=a0m.body.getD 3 .bad
def due_3 (hK:K[oi]?=aa (rC es))(eo:J3 es)(hC:(C.filter λp=>(["place"]:List aJ).contains p.1)=([("place",.int p)]:j7))(ju:∀j∈lk,j<K.length):
  ∃oi' K',ik gL (n+20) lk d3 ⟨Eg oi ni c kd,C,K⟩=eO .next ⟨Eg oi' ni c kd,C,K'⟩∧Gr K K'∧K'[oi']?=aa (rC (if 10<kd then es else DY p es)):=by
 by_cases h:10<kd
 ·refine⟨oi,K,p8 (am4 (t8 (v7 (d7 rfl) j6 (gtN h))) (d7 rfl)) o5,.refl, ?_⟩
  rw[bN h];exact hK
 ·refine⟨K.length,K++ [rC (DY p es)],p8 (Zh (t8 (v7 (d7 rfl) j6 (gtF h))) (aby hK eo hC ju)) o5,Gr.refl.add (by show(O3 _ (rC (DY p es))&&au)=au;rw[ato];rfl), ?_⟩
  rw[bk h];exact n8
def due_4 (hK:K[oi]?=aa (rC es))(hz:es.length≤10)(hp:C.lookup ("place":aJ)=aa (.int (c % 3:Nat))):
  ∃oi' K',ik gL (n+30) lk d4 ⟨Eg oi ni c kd,C,K⟩=eO .next ⟨Eg oi' ni c kd,C,K'⟩∧Gr K K'∧K'[oi']?=aa (rC (if kd % 10=0 then es else es++ [((cpC c,c % 3),vX ((kd-1) % 10))])):=by
 have hm:dD gL (n+27) ⟨Eg oi ni c kd,C,lk⟩ (.bin .Mod e_53 e_51) K=ok (.int (kd % 10:Nat)) K:=o9 (d7 rfl) j6 (R9 10 (by decide));by_cases h:kd % 10=0
 ·rw[h]at hm
  refine⟨oi,K,p8 (Zh (Qm hm rfl) (d7 rfl)) o5,.refl, ?_⟩;rw[bN h];exact hK
 ·have hk:0<kd:=rJ λq=>h (by rw[q])
  have p3:c % 3<3:=gA _ (by decide);have hb:=Qm hm (congrArg aa (bne_iff_ne.mpr λq=>h (afo.mp q)));have hn:(K++ [m6.list [pV (eP ((cpC c,c % 3),vX ((kd-1) % 10)))]])[K.length]?=aa (.list [pV (eP ((cpC c,c % 3),vX ((kd-1) % 10)))]):=n8;have ha:=af6 (f9 hK) hn (by rw[aF,aF];exact aq (aK hz 1) (by decide));refine⟨_,_,p8 (am4 hb (o9 (d7 rfl) (Q8 (mH (V5 (rK (o9 (O1 j6 (o9 (o9 (d7 rfl) j6 (ak6 60 (by decide) (by decide))) j6 (R9 2 (by decide))) (atm (gA _ (by decide)))) (o9 (Q4 hp) j6 (add_n)) (av9 (aq (jF p3) (show 3≤1000 by decide)))) (abt hk rfl))))) ha)) o5, ?_, ?_⟩
  ·exact(Gr.refl.add (by
    show(V.jN _ ([eP ((cpC c,c % 3),vX ((kd-1) % 10))].map pV)&&au)=au;rw[S7];rfl)).add (by
    show(V.jN _ ((es.map eP).map pV++ [eP ((cpC c,c % 3),vX ((kd-1) % 10))].map pV)&&au)=au;rw[←bu,S7];rfl)
  ·rw[bk h,n8]
   show _=aa (m6.list (((es++_).map eP).map pV));rw[bu,bu];rfl
end
end
section
structure Ry (K:Hp)(ti ri:Nat)(tx:List (List Nat))(rf:Nat->Nat)(pr:Nat->Nat×Nat):Prop where
 tx:K[ti]?=aa (.list (tx.map sV))
 rd:K[ri]?=aa (.list [.ref (rf 0),.ref (rf 1),.ref (rf 2),.ref (rf 3)])
 pr:∀k,∀J:k<4,K[rf k]?=aa (.list [.int (pr k).1,.int (pr k).2])
structure Rz (tx:List (List Nat)):Prop where
 len:tx.length=7
 tx:∀t∈tx,Tx t
abbrev dfB (tO tN:List (List Nat))(c:Nat):Bool:= !(gT tO c==gT tN c)
noncomputable abbrev rdL (pr:Nat->Nat×Nat)(k:Nat):List Nat:= [(pr k).1,(pr k).2]
abbrev mdB (tO tN:List (List Nat))(pr:Nat->Nat×Nat)(k:Nat):Bool:= !((rdL pr k).filter (dfB tO tN)).isEmpty
abbrev msL (tO tN:List (List Nat))(pr:Nat->Nat×Nat):List Nat:= [0,1,2,3].filter (mdB tO tN pr)
abbrev mgB (tO tN:List (List Nat))(pr:Nat->Nat×Nat)(k:Nat):Hp:= [.list (((rdL pr k).filter (dfB tO tN)).map nV),.list []]
section
variable {H K T:Hp}{ti ri tn n k:Nat}{tO tN:List (List Nat)}{rf:Nat->Nat}{pr:Nat->Nat×Nat}{lk:List Nat}{C:j7}
def Ry.app (h:Ry K ti ri tO rf pr):Ry (K++T) ti ri tO rf pr:=⟨f9 h.tx,f9 h.rd,λk J=>f9 (h.pr k J)⟩
def Ry.gr (h:Ry K ti ri tO rf pr)(g:Gr K H):Ry H ti ri tO rf pr:=⟨g.at h.tx,g.at h.rd,λk J=>g.at (h.pr k J)⟩
def atq (a b:List Nat):(toS a==toS b)=(a==b):=by
 by_cases h:a=b
 ·rw[h,beq_self_eq_true,beq_self_eq_true]
 ·rw[beq_eq_false_iff_ne.mpr h,beq_eq_false_iff_ne.mpr λq=>h (JS q)]
def abz (h:Ry K ti ri tO rf pr)(hk:k<4):Z5 K (.ref ri) (.int k)=aa (.ref (rf k)):=by
 refine Z3 h.rd ?_ (aq (bz hk) (by decide));rcases k with _ | _ | _ | _ | k
 ·rfl
 ·rfl
 ·rfl
 ·rfl
 ·exact absurd hk (bZ (cL 4 k))
def Hk {c:Nat}(h:K[ti]?=aa (.list (tO.map sV)))(o:Rz tO)(hc:c<7):Z5 K (.ref ti) (.int c)=aa (sV (gT tO c)):=Z3 h (atn (by rw[o.len];exact hc)) (aq (bz hc) (by decide))
def Rz.at (o:Rz tO)(hc:c<7):Tx (gT tO c):=abx o.tx (by rw[o.len];exact hc)
noncomputable abbrev Av {β:Type}(x:aJ)(f:β->V):Option β->j7
 | none=> []
 | some k=> [(x,f k)]
def at6 {β:Type}{x:aJ}{f:β->V}(o:Option β)(b:β):I6 gL (n+1) lk (.loc x) (f b) ⟨Av x f o,C,K⟩=eO () ⟨Av x f (aa b),C,K⟩:=by
 cases o with
 | none=>exact o5
 | some a=>exact o5.trans (by rw[show upd (Av x f (aa a)) x (f b)=Av x f (aa b) from bN rfl])
def atr {p:Nat->Bool}:∀xs:List Nat,(xs.filterMap λx=>if p x=au then aa (nV x) else aB)=(xs.filter p).map nV:=by
 intro l
 induction l with
 | nil=>rfl
 | cons x l ih=>
  cases h:p x with
  | true=>rw[cO (by rw[h];rfl),bD h,ih];rfl
  | false=>rw[dq (by rw[h];rfl),bw (by rw[h];exact aR),ih]
abbrev C3 (ti ri tn:Nat):j7:= [("old",.ref ti),("reads",.ref ri),("new",.ref tn)]
abbrev C2 (ti tn:Nat):j7:= [("old",.ref ti),("new",.ref tn)]
def a2g:vO r φ (.sub a b) H=jf (r.e φ (.sub a b) H) λv H=>opt (Ra H v) λl=>ok (l,ag1 v) H:=rfl
def aca (h:Ry K ti ri tO rf pr)(hn:K[tn]?=aa (.list (tN.map sV)))(o1:Rz tO)(o2:Rz tN)(hp:(pr k).1<7∧(pr k).2<7)(hk:k<4)(ju:∀j∈lk,j<K.length):
  dD gL (n+12) ⟨Av "k" nV (aa k),C3 ti ri tn,lk⟩ e_9 K=ok (.ref K.length) (K++ [.list (((rdL pr k).filter (dfB tO tN)).map nV)]):=by
 have hri:=(aL.mp (h.pr k hk)).1;have hs:dD gL (n+11) ⟨Av "k" nV (aa k),C3 ti ri tn,lk⟩ (.sub (.cX "reads") (.loc "k")) K=ok (.ref (rf k)) K:=by have h1:dD gL (n+10) ⟨Av "k" nV (aa k),C3 ti ri tn,lk⟩ (.loc "k") K=ok (nV k) K:=d7 rfl;have h2:dD gL (n+10) ⟨Av "k" nV (aa k),C3 ti ri tn,lk⟩ (.cX "reads") K=ok (.ref ri) K:=Q4 rfl;have h3:=abz h hk;exact O1 h2 h1 h3
 have hq:Ra K (.ref (rf k))=aa ((rdL pr k).map nV):=d9 (h.pr k hk) rfl;have hi:vO (o8 gL (n+11)) ⟨Av "k" nV (aa k),C3 ti ri tn,lk⟩ (.sub (.cX "reads") (.loc "k")) K=ok ((rdL pr k).map nV, [rf k]) K:=by rw[a2g];exact j9 hs (d9 hq rfl)
 rw[←atr];refine JV nV (λc=>if dfB tO tN c=au then aa (nV c) else aB) (Av "c" nV) rfl hi (C:=C2 ti tn) rfl (show 2≤1000 by decide) λc hc o acc ha=> ?_;have c7:c<7:=by
  rcases bc.mp hc with rfl | hc
  ·exact hp.1
  ·rw[aH.mp hc];exact hp.2
 have sH:dD gL (n+10) ⟨Av "c" nV (aa c),C2 ti tn, [rf k]++lk⟩ (.cmp .NotEq (.sub (.cX "old") (.loc "c")) (.sub (.cX "new") (.loc "c"))) (K++ [.list acc])=ok (.bool (dfB tO tN c)) (K++ [.list acc]):=by have:=v7 (n:=n+9) (G:=gL) (φ:=⟨Av "c" nV (aa c),C2 ti tn, [rf k]++lk⟩) (a:= .sub (.cX "old") (.loc "c")) (b:= .sub (.cX "new") (.loc "c")) (O1 (Q4 rfl) (d7 rfl) (Hk (f9 (T:= [.list acc]) h.tx) o1 c7)) (O1 (Q4 rfl) (d7 rfl) (Hk (f9 hn) o2 c7)) (neS (o1.at c7).ok (o2.at c7).ok);rw[atq]at this;exact this
 cases q:dfB tO tN c with
 | true=>
  rw[q]at sH;exact aO (bN rfl) (nU (at6 o c) (ao9 (t8 sH)) (d7 rfl) (R1 (aa4 (cW hri) (KC ju (aN _))) ha))
 | false=>
  rw[q]at sH;refine aO (bk aR) ?_;refine(wX (at6 o c) (ap0 (t8 sH))).trans ?_;show _=eO () ⟨_,_,K++ [.list (acc++ [])]⟩;rw[bf]
def ani (h:Ry K ti ri tO rf pr)(hn:K[tn]?=aa (.list (tN.map sV)))(o1:Rz tO)(o2:Rz tN)(hp:∀k,∀J:k<4,(pr k).1<7∧(pr k).2<7)(ju:∀j∈lk,j<K.length){L:j7}(hC:(C.filter λp=>(["new","old","reads"]:List aJ).contains p.1)=C3 ti ri tn):
  dD gL (n+18) ⟨L,C,lk⟩ e_52 K=
   ok (.ref K.length) (K++ .list ((msL tO tN pr).map nV)::(([0,1,2,3]:List Nat).map (mgB tO tN pr)).flatten):=by
 have:=aI0 (n:=n+17) (φ:=⟨L,C,lk⟩) (elt:= .loc "k") (it:= .Bh [e_69])
  nV (λk=>if mdB tO tN pr k=au then aa (nV k) else aB) (mgB tO tN pr) (Av "k" nV) (λU=>C3 ti ri tn) (vs:= [0,1,2,3]) rfl rfl hC (by decide) (λk hk o acc T ha=>by
   have k4:k<4:=cP.mp (show k∈dm 4 from hk);have e:=aca (n:=n+3) (K:=K++ .list acc::T) h.app (f9 hn) o1 o2 (hp k k4) k4 (λj hj=>aM (ju j hj) (by rw[az];exact bh _ _));have sH:dD gL (n+16) ⟨Av "k" nV (aa k),C3 ti ri tn,lk⟩ (.cmp .NotEq e_9 (.lst [])) (K++ .list acc::T)=ok (.bool (mdB tO tN pr k)) (K++ .list acc::(T++mgB tO tN pr k)):=by have:=v7 e (Q8 j4) (ne_nil (f9 n8) n8);rw[aQ,aQ]at this;exact this
   cases q:mdB tO tN pr k with
   | true=>
    rw[q]at sH;exact aO (bN rfl) (nU (at6 o k) (ao9 (t8 sH)) (d7 rfl) (ap4 (KC ju (aN _)) ha))
   | false=>
    rw[q]at sH;refine aO (bk aR) ?_;refine(wX (at6 o k) (ap0 (t8 sH))).trans ?_;show _=eO () ⟨_,_,K++ .list (acc++ [])::(T++mgB tO tN pr k)⟩;rw[bf])
 rw[atr]at this;exact this
end
end
section
section
variable {H K T:Hp}{ti ri tn n k mi fi oi ni c kd:Nat}{tO tN:List (List Nat)}{rf:Nat->Nat}{pr:Nat->Nat×Nat}{lk:List Nat}{C D L:j7}{ms:List Nat}{es:List Ent}{ns:List w6}
def aCw {p:Nat->Bool}{g:Nat->V}:∀xs:List Nat,(xs.filterMap λx=>if p x=au then aa (g x) else aB)=(xs.filter p).map g:=by
 intro l
 induction l with
 | nil=>rfl
 | cons x l ih=>
  cases h:p x with
  | true=>rw[cO (by rw[h];rfl),bD h,ih];rfl
  | false=>rw[dq (by rw[h];rfl),bw (by rw[h];exact aR),ih]
def a2h {f:j0->Hp->Out Bool}(h:f e H=ok b K):allB f [e] H=ok b K:=j9 h (by cases b<;>rfl)
def acb:vO r φ (.cX x) H=jf (r.e φ (.cX x) H) λv H=>opt (Ra H v) λl=>ok (l,ag1 v) H:=rfl
def ay8 (p:Nat->Bool)(g:Nat->V){ifs:List j0}(hK:K[mi]?=aa (.list (ms.map nV)))(hm:C.lookup ("made":aJ)=aa (.ref mi))(hC:(C.filter λp=>uz.contains p.1)=D)(hz:ms.length≤4)(ju:∀j∈lk,j<K.length)
  (hc:∀k∈ms,∀acc:List V,allB (uH gL (n+2) ⟨[("k",nV k)],D, [mi]++lk⟩) ifs (K++ [.list acc])=ok (p k) (K++ [.list acc])) (he:∀k∈ms,∀acc:List V,dD gL (n+2) ⟨[("k",nV k)],D, [mi]++lk⟩ elt (K++ [.list acc])=ok (g k) (K++ [.list acc])):
  dD gL (n+3) ⟨L,C,lk⟩ (.comp elt (.loc "k") (.cX "made") ifs uz) K=ok (.ref K.length) (K++ [.list ((ms.filter p).map g)]):=by
 have hmi:=(aL.mp hK).1;have hs:dD gL (n+2) ⟨L,C,lk⟩ (.cX "made") K=ok (.ref mi) K:=Q4 hm;have hq:Ra K (.ref mi)=aa (ms.map nV):=d9 hK rfl;have hi:vO (o8 gL (n+2)) ⟨L,C,lk⟩ (.cX "made") K=ok (ms.map nV, [mi]) K:=by rw[acb];exact j9 hs (d9 hq rfl)
 rw[←aCw];refine JV nV (λk=>if p k=au then aa (g k) else aB) (Av "k" nV) rfl hi hC (aq hz (by decide)) λk hk o acc ha=> ?_;have h1:=hc k hk acc;cases q:p k with
 | true=>
  rw[q]at h1;exact aO (bN rfl) (nU (at6 o k) h1 (he k hk acc) (R1 (aa4 (cW hmi) (KC ju (aN _))) ha))
 | false=>
  rw[q]at h1;refine aO (bk aR) ?_;refine(wX (at6 o k) h1).trans ?_;show _=eO () ⟨_,_,K++ [.list (acc++ [])]⟩;rw[bf]
def ay9 (hk:k<4)(h:φ.loc.lookup ("k":aJ)=aa (nV k)):dD gL (n+4) φ e_2 H=ok (.str (jB au (k+3))) H:=
 o9 j6 (o9 (d7 h) j6 (add_n)) (av9 (aq (bz (bA hk 4)) (by decide)))
def aI3 {x:aJ}(hk:k<4)(h:φ.loc.lookup ("k":aJ)=aa (nV k))(h1:φ.cX.lookup x=aa (.ref tn))(hn:H[tn]?=aa (.list (tN.map sV)))(o2:Rz tN):dD gL (n+4) φ (.sub (.cX x) Rq) H=ok (sV (gT tN (k+3))) H:=
 O1 (Q4 h1) (o9 (d7 h) j6 (add_n)) (Hk hn o2 (bA hk 3))
abbrev frB (tO tN:List (List Nat))(k:Nat):Bool:=dfB tO tN (k+3)
abbrev vJ (tN:List (List Nat))(k:Nat):Ent:=((au,k+3),gT tN (k+3))
def acd (hK:K[mi]?=aa (.list (ms.map nV)))(hm:C.lookup ("made":aJ)=aa (.ref mi))(hC:(C.filter λp=>(["new","old"]:List aJ).contains p.1)=C2 ti tn)(hz:ms.length≤4)(h4:∀k∈ms,k<4)(ju:∀j∈lk,j<K.length)(ho:K[ti]?=aa (.list (tO.map sV)))(hn:K[tn]?=aa (.list (tN.map sV)))(o1:Rz tO)(o2:Rz tN):
  dD gL (n+10) ⟨L,C,lk⟩ e_38 K=ok (.ref K.length) (K++ [.list ((ms.filter (frB tO tN)).map λk=>pV (eP (vJ tN k)))]):=
 ay8 (frB tO tN) (λk=>pV (eP (vJ tN k))) hK hm hC hz ju (λk hk acc=>by
  have:=v7 (n:=n+7) (φ:=⟨[("k",nV k)],C2 ti tn, [mi]++lk⟩) (aI3 (x:="old") (h4 k hk) rfl rfl (f9 (T:= [.list acc]) ho) o1) (aI3 (x:="new") (h4 k hk) rfl rfl (f9 hn) o2) (neS (o1.at (bA (h4 k hk) 3)).ok (o2.at (bA (h4 k hk) 3)).ok);rw[atq]at this;exact a2h (t8 this)) λk hk acc=>V5 (rK (ay9 (h4 k hk) rfl) (aI3 (h4 k hk) rfl rfl (f9 hn) o2))
def anj (hK:K[mi]?=aa (.list (ms.map nV)))(hm:C.lookup ("made":aJ)=aa (.ref mi))(hC:(C.filter λp=>(["new"]:List aJ).contains p.1)=([("new",.ref tn)]:j7))(hz:ms.length≤4)(h4:∀k∈ms,k<4)(ju:∀j∈lk,j<K.length)(hn:K[tn]?=aa (.list (tN.map sV)))(o2:Rz tN):
  dD gL (n+10) ⟨L,C,lk⟩ e_66 K=ok (.ref K.length) (K++ [.list (ms.map λk=>pV (eP (vJ tN k)))]):=by
 have:=ay8 (n:=n+7) (L:=L) (λ_=>au) (λk=>pV (eP (vJ tN k))) hK hm hC hz ju (λk hk acc=>S9) (elt:= .tup [e_2,(.sub (.cX "new") Rq)]) λk hk acc=>V5 (rK (ay9 (h4 k hk) rfl) (aI3 (h4 k hk) rfl rfl (f9 hn) o2));rw[jU.mpr λ_ _=>rfl]at this;exact this
end
end
section
section
variable {H K T:Hp}{ti ri tn n k mi fi oi ni c kd:Nat}{tO tN:List (List Nat)}{lk:List Nat}{C D L:j7}{fs:List Nat}{es:List Ent}{ns:List w6}
noncomputable abbrev l4 (fs:List Nat):List Nat:=fs.map (·+4)
def ace (hK:K[fi]?=aa (.list (fs.map λk=>pV (eP (vJ tN k)))))(h4:∀k∈fs,k<4)(hz:fs.length≤4)(ju:∀j∈lk,j<K.length){x:j7}:
  dD gL (n+8) ⟨x, [("fresh",.ref fi)],lk⟩ (.comp e_4 e_8 (.cX "fresh") [] []) K=ok (.ref K.length) (K++ [.list ((l4 fs).map nV)]):=by
 have hfi:=(aL.mp hK).1;have hs:dD gL (n+7) ⟨x, [("fresh",.ref fi)],lk⟩ (.cX "fresh") K=ok (.ref fi) K:=Q4 rfl;have hq:Ra K (.ref fi)=aa (fs.map λk=>pV (eP (vJ tN k))):=d9 hK rfl;have hi:vO (o8 gL (n+7)) ⟨x, [("fresh",.ref fi)],lk⟩ (.cX "fresh") K=ok (fs.map λk=>pV (eP (vJ tN k)), [fi]) K:=by rw[acb];exact j9 hs (d9 hq rfl)
 have:=JV (elt:= .call V3 [CW] [] []) (uz:= []) (λk=>pV (eP (vJ tN k))) (λk=>aa (nV (k+4))) (λo=>ntE (o.map (vJ tN))) rfl hi rfl (aq hz (by decide)) λk hk o acc ha=>
  nU (ap5 (o.map (vJ tN)) (vJ tN k)) S9 (Q9 O4 (d7 rfl) (ai2 (bA (h4 k hk) 3))) (R1 (aa4 (cW hfi) (KC ju (aN _))) ha)
 rw[Q3,show(fs.map λk=>nV (k+4))=(l4 fs).map nV from by rw[bF];rfl]at this;exact this
abbrev RB (fs:List Nat)(e:Ent):Bool:= !((l4 fs).contains (e.1.2+1))
noncomputable abbrev KH (ms:List Nat)(e:w6):Bool:= !(ms.contains e.1)
abbrev duG (fs:List Nat)(es:List Ent):Hp:=(es.map λ_=> [m6.list ((l4 fs).map nV)]).flatten
def acf (hK:K[oi]?=aa (rC es))(eo:J3 es)(hf:K[fi]?=aa (.list (fs.map λk=>pV (eP (vJ tN k)))))(h4:∀k∈fs,k<4)(hz:fs.length≤4)(hC:(C.filter λp=>(["fresh"]:List aJ).contains p.1)=([("fresh",.ref fi)]:j7))(hc:C.lookup ("fresh":aJ)=aa (.ref fi))(ju:∀j∈lk,j<K.length):
  ∃K',dD gL (n+16) ⟨Eg oi ni c kd,C,lk⟩ e_48 K=ok (.ref K'.length) (K'++ [rC (es.filter (RB fs)++fs.map (vJ tN))])∧Gr K K':=by
 have hoi:=(aL.mp hK).1;have e1:=ay7 (φ:=⟨Eg oi ni c kd,C,lk⟩) eP (RB fs) [.list ((l4 fs).map nV)] (src:="order") (hK.trans (by show aa (m6.list ((es.map eP).map pV))=_;rw[bF];rfl)) rfl hC (aq eo.len (by decide)) ju (λe he acc T=>by
  have el:=ace (n:=n+4) (x:= [("pair",pV (eP e))]) (f9 (T:= .list acc::T) hf) h4 hz (λj hj=>by
   rw[az];exact aM ((bc.mp hj).elim (λq=>q▸hoi) (ju j)) (bh _ _))
  have:=v7 (n:=n+12) (a:= .call V3 [(.sub PJ W2)] [] []) (Q9 O4 (O1 (d7 rfl) j6 rfl) (ai2 (eo.ix e he))) el (KD n8);rw[aQ]at this;exact t8 this)
 have h0:(K++ .list ((es.filter (RB fs)).map λx=>pV (eP x))::duG fs es)[K.length]?=aa (.list ((es.filter (RB fs)).map λx=>pV (eP x))):=ay6;have ha:=af6 h0 (f9 hf) (by
  rw[aF,aF];exact aq (dg (aq (dO _ _) eo.len) hz) (by decide))
 have hl:∀(m:Nat)(xs:List Ent),V.jN m (xs.map λx=>pV (eP x))=au:=λm xs=>O5 (λU=>rfl) xs;have hd:∀m xs,H9 m (duG fs xs)=au:=λm xs=>by
  induction xs with
  | nil=>rfl
  | cons x xs ih=>
   show(V.jN m ((l4 fs).map nV)&&H9 m (duG fs xs))=au;rw[ih,show V.jN m ((l4 fs).map nV)=au from O5 (λU=>rfl) _];rfl
 have e2:((es.filter (RB fs)).map λx=>pV (eP x))++(fs.map λk=>pV (eP (vJ tN k)))=((es.filter (RB fs)++fs.map (vJ tN)).map eP).map pV:=by rw[bF,bu,bF];rfl
 rw[e2]at ha;refine⟨K++m6.list ((es.filter (RB fs)).map λx=>pV (eP x))::duG fs es,o9 e1 (Q4 hc) ha,Gr.refl.add ?_⟩;show(V.jN _ ((es.filter (RB fs)).map λx=>pV (eP x))&&H9 _ (duG fs es))=au;rw[hl,hd];rfl
end
end
section
section
variable {H K T:Hp}{tn rn n k mi oi ni c kd:Nat}{tN:List (List Nat)}{rf:Nat->Nat}{pr:Nat->Nat×Nat}{lk:List Nat}{C D L:j7}{ms:List Nat}{es:List Ent}{ns:List w6}
noncomputable abbrev Dm (pr:Nat->Nat×Nat)(k:Nat):w6:=(k,(pr k).1,(pr k).2)
def a2i {φ:Fm}(h:Ry H tn rn tN rf pr)(hk:k<4)(h1:φ.loc.lookup ("k":aJ)=aa (nV k))(h2:φ.cX.lookup ("now":aJ)=aa (.ref rn)):
  dD gL (n+3) φ (.sub (.sub (.cX "now") (.loc "k")) W2) H=ok (.int (pr k).1) H∧dD gL (n+3) φ (.sub (.sub (.cX "now") (.loc "k")) e_1) H=ok (.int (pr k).2) H:=
 ⟨O1 (O1 (Q4 h2) (d7 h1) (abz h hk)) j6 (Z3 (h.pr k hk) rfl (by decide)),O1 (O1 (Q4 h2) (d7 h1) (abz h hk)) j6 (Z3 (h.pr k hk) rfl (by decide))⟩
def acg (hK:K[ni]?=aa (zU ns))(no:Bq ns)(hm:K[mi]?=aa (.list (ms.map nV)))(h:Ry K tn rn tN rf pr)(hp:∀k,∀J:k<4,(pr k).1<7∧(pr k).2<7)(h4:∀k∈ms,k<4)(hz:ms.length≤4)
  (hC:(C.filter λp=>(["made"]:List aJ).contains p.1)=([("made",.ref mi)]:j7)) (hC2:(C.filter λp=>(["now"]:List aJ).contains p.1)=([("now",.ref rn)]:j7)) (hc:C.lookup ("made":aJ)=aa (.ref mi)) (ju:∀j∈lk,j<K.length):
  ∃K',dD gL (n+20) ⟨Eg oi ni c kd,C,lk⟩ e_7 K=ok (.ref K'.length) (K'++ [zU (ns.filter (KH ms)++ms.map (Dm pr))])∧Gr K K':=by
 have e1:=ay7 (n:=n+16) (φ:=⟨Eg oi ni c kd,C,lk⟩) nP (KH ms) [] (src:="noted") (cond:= .cmp .NotIn (.bin .Sub e_26 e_69) (.cX "made")) (hK.trans (by show aa (m6.list ((ns.map nP).map pV))=_;rw[bF];rfl)) rfl hC (aq no.len (by decide)) ju (λe he acc T=>by
  rw[bf];exact t8 (v7 (o9 (Q9 O4 (O1 (d7 rfl) j6 rfl) (ai2 (bA (no.ok e he).k 3))) j6 (Kw 4)) (Q4 rfl) (KD (f9 hm))))
 rw[aV3]at e1;have e2:=ay8 (n:=n+16) (K:=K++ [.list ((ns.filter (KH ms)).map λx=>pV (nP x))]) (L:=Eg oi ni c kd) (λ_=>au) (λk=>pV (nP (Dm pr k))) (f9 hm) hc hC2 hz (λj hj=>aM (ju j hj) (by rw[az];exact bh _ _)) (λk hk acc=>S9) λk hk acc=>by have hw:=a2i (n:=n+11) (φ:=⟨[("k",nV k)], [("now",.ref rn)], [mi]++lk⟩) (H:=K++ [.list ((ns.filter (KH ms)).map λx=>pV (nP x))]++ [.list acc]) h.app.app (h4 k hk) rfl rfl;exact V5 (rK (ay9 (h4 k hk) rfl) (o9 (ap2 (hp k (h4 k hk)).1 (hw.1)) (ap2 (hp k (h4 k hk)).2 (hw.2)) (aK5 _ _)))
 rw[jU.mpr λ_ _=>rfl]at e2;have hl:∀(m:Nat)(xs:List w6),V.jN m (xs.map λx=>pV (nP x))=au:=λm xs=>O5 (λU=>rfl) xs;have hl2:∀(m:Nat)(xs:List Nat),V.jN m (xs.map λk=>pV (nP (Dm pr k)))=au:=λm xs=>O5 (λU=>rfl) xs;have ha:=af6 (f9 (T:= [.list (ms.map λk=>pV (nP (Dm pr k)))]) (n8 (H:=K) (o:= .list ((ns.filter (KH ms)).map λx=>pV (nP x))))) n8 (by
  rw[aF,aF];exact aq (dg (aq (dO _ _) no.len) hz) (by decide))
 have e3:((ns.filter (KH ms)).map λx=>pV (nP x))++(ms.map λk=>pV (nP (Dm pr k)))=((ns.filter (KH ms)++ms.map (Dm pr)).map nP).map pV:=by rw[bF,bu,bF];rfl
 rw[e3]at ha;refine⟨_,o9 e1 e2 ha,(Gr.refl.add ?_).add ?_⟩
 ·show(V.jN _ _&&au)=au
  rw[hl];rfl
 ·show(V.jN _ _&&au)=au
  rw[hl2];rfl
end
end
section
section
variable {H K T:Hp}{us:Nat->fV}{es:List Ent}{ns:List w6}{n oi ni c k:Nat}{lk:List Nat}
def ank:(H++T)[H.length+k]?=T[k]?:=by rw[dN (bh _ _),iV]
abbrev xO (us:Nat->fV)(es:List Ent)(k:Nat):Nat×Nat:=((us k).a,yU us es k)
def atu:Ry (H++Qt us es H.length) H.length (H.length+4) (ie us es 4) (λk=>H.length+(5+k)) (xO us es) where
 tx:=ank (k:=0)
 rd:=ank
 pr:=λk hk=>by
  refine ank.trans ?_;rcases k with _ | _ | _ | _ | k
  ·rfl
  ·rfl
  ·rfl
  ·rfl
  ·exact absurd hk (bZ (cL 4 k))
def atv:Gr H (H++Qt us es H.length):=Gr.refl.add (by
 have r:∀i,∀J:i<9,(V.ref (H.length+i)).lt (H.length+9)=au:=λi hi=>gO (fc hi _);have s:∀(m:Nat)(l:List (List Nat)),V.jN m (l.map sV)=au:=λm l=>O5 (λU=>rfl) l;show(V.jN (H.length+9) ((ie us es 4).map sV)&&(V.jN (H.length+9) ((lF es 0).map sV)&&(V.jN (H.length+9) ((lF es 1).map sV)&&(V.jN (H.length+9) ((lF es 2).map sV)&&(((V.ref (H.length+5)).lt (H.length+9)&&((V.ref (H.length+6)).lt (H.length+9)&&((V.ref (H.length+7)).lt (H.length+9)&&((V.ref (H.length+8)).lt (H.length+9)&&au))))&&au)))))=au;rw[s,s,s,s,r 5 (by decide),r 6 (by decide),r 7 (by decide),r 8 (by decide)];rfl)
def ap6 (hr:∀c,∀J:c<7,Tx (rd es c))(hu:M5 us):Rz (ie us es 4):=⟨(aI2 hr hu 4 (aN _)).1,(aI2 hr hu 4 (aN _)).2⟩
def Hl (hr:∀c,∀J:c<7,Tx (rd es c))(hu:M5 us)(hk:k<4):(xO us es k).1<7∧(xO us es k).2<7:=by have P:=Dl hr hu hk;have e:=(aI2 hr hu k (bz hk)).1;have l:=aK (bz hk) 3;exact⟨aM (hu.ok k hk).a l,aM (e▸P.o) l⟩
def Dn {pr:Nat->Nat×Nat}:∀k∈msL tO tN pr,k<4:=λk hk=>cP.mp (show k∈dm 4 from(cG.mp hk).1)
def az0 {pr:Nat->Nat×Nat}:(msL tO tN pr).length≤4:=dO _ _
abbrev uL (c:Nat)(es:List Ent):List Ent:=if sY c % 10=0 then(if 10<sY c then es else DY (pC c) es) else(if 10<sY c then es else DY (pC c) es)++ [((cpC c,c % 3),vX ((sY c-1) % 10))]
def aK8:gL.glob "_law_plain"=aa (.gl (.ref 428)):=rfl
end
end
section
section
variable {H K T:Hp}{us:Nat->fV}{es:List Ent}{ns:List w6}{n oi ni c k:Nat}{lk:List Nat}
abbrev Qu (us:Nat->fV)(c:Nat)(es:List Ent):List Nat:=msL (ie us es 4) (ie us (uL c es) 4) (xO us es)
abbrev dFs (us:Nat->fV)(c:Nat)(es:List Ent):List Nat:=(Qu us c es).filter (frB (ie us es 4) (ie us (uL c es) 4))
abbrev dEs (us:Nat->fV)(c:Nat)(es:List Ent):List Ent:=(uL c es).filter (RB (dFs us c es))++(dFs us c es).map (vJ (ie us (uL c es) 4))
abbrev dNs (us:Nat->fV)(c:Nat)(es:List Ent)(ns:List w6):List w6:=ns.filter (KH (Qu us c es))++(Qu us c es).map (Dm (xO us (uL c es)))
noncomputable abbrev cD (c h k:Nat)(r:j7):j7:=("place",.int (c % 3:Nat))::("old",.ref h)::("reads",.ref (h+4))::("new",.ref k)::("now",.ref (k+4))::r
def aDb {pr:Nat->Nat×Nat}{xs:List Nat}:H9 m (.list (xs.map nV)::(([0,1,2,3]:List Nat).map (mgB tO tN pr)).flatten)=au:=by have i:∀xs:List Nat,V.jN m (xs.map nV)=au:=λxs=>O5 (λU=>rfl) xs;show(V.jN m _&&(V.jN m _&&(au&&(V.jN m _&&(au&&(V.jN m _&&(au&&(V.jN m _&&(au&&au)))))))))=au;rw[i,i,i,i,i];rfl
def ach (ho:H[oi]?=aa (rC es))(hni:H[ni]?=aa (zU ns))(h2:H[3]?=aa (.list [.ref 4,.ref 5,.ref 6,.ref 7]))(hu4:∀k,∀J:k<4,H[4+k]?=aa (yf (us k)))(eo:J3 es)(eo1:J3 (uL c es))(no:Bq ns)(hr:∀c,∀J:c<7,Tx (rd es c))(hr1:∀d,∀J:d<7,Tx (rd (uL c es) d))(hu:M5 us)(ju:∀j∈lk,j<H.length):
  ∃K o' n' m',o6 gL (n+60) lk 433 [.ref oi,.ref ni,.ref 3,.int c] [] [] H=ok (.tup [.ref o',.ref n',.ref m',.str (Hg (sY c))]) K∧Gr H K∧K[o']?=aa (rC (dEs us c es))∧K[n']?=aa (zU (dNs us c es ns))∧K[m']?=aa (.list ((Qu us c es).map λk=>pV (eP (vJ (ie us (uL c es) 4) k))))∧H.length≤o'∧H.length≤n'∧H.length≤m':=by
 have e2:=aw1 (n:=n+17) ho h2 hu4 eo hr hu ju;have g1:=atv (H:=H) (us:=us) (es:=es);obtain⟨o3,K3,e3,g3,h3⟩:=due_3 (C:= [("place",.int (c % 3:Nat)),("old",.ref H.length),("reads",.ref (H.length+4))]) (g1.at ho) eo rfl (g1.Bp ju);have l3:(if 10<sY c then es else DY (pC c) es).length≤10:=by
  by_cases q:10<sY c
  ·rw[bN q];exact eo.len
  ·rw[bk q];exact aq (dO _ _) eo.len
 obtain⟨o4,K4,e4,g4,h4⟩:=due_4 (C:= [("place",.int (c % 3:Nat)),("old",.ref H.length),("reads",.ref (H.length+4))]) h3 l3 rfl;have gr:∀{A B C:Hp},∀J:Gr A B,∀J:Gr B C,Gr A C:=λ{A B C} a b=>by obtain⟨T,rfl,hT⟩:=b.ex;refine a.add ?_;rw[az]at hT;exact hT
 have gH4:=gr g1 (gr g3 g4);have P0:=(((atu).gr g3).gr g4);have e5:=aw1 (n:=n+17) h4 (gH4.at h2) (λk hk=>gH4.at (hu4 k hk)) eo1 hr1 hu (gH4.Bp ju);have g5:=atv (H:=K4) (us:=us) (es:=uL c es);have P1:=P0.gr g5;have Pn:=atu (H:=K4) (us:=us) (es:=uL c es);have gH5:=gr gH4 g5;have e6:=ani (n:=n+40) (L:=Eg o4 ni c (sY c)) (C:=(cD c H.length K4.length [])) P1 Pn.tx (ap6 hr hu) (ap6 hr1 hu) (λk hk=>Hl hr hu hk) (gH5.Bp ju) rfl;obtain⟨K6,q6⟩:∃K6,K6=K4++Qt us (uL c es) K4.length++ .list ((Qu us c es).map nV)::(([0,1,2,3]:List Nat).map (mgB (ie us es 4) (ie us (uL c es) 4) (xO us es))).flatten:=⟨_,rfl⟩;rw[←q6]at e6;have g6:=q6▸Gr.refl.add aDb;have gH6:=gr gH5 g6;have hm6:=q6▸ay6;have e7:=acd (n:=n+48) (L:=Eg o4 ni c (sY c)) (C:=(cD c H.length K4.length [("made",.ref (K4++Qt us (uL c es) K4.length).length)])) hm6 rfl rfl az0 Dn (gH6.Bp ju) (P1.gr g6).tx (Pn.gr g6).tx (ap6 hr hu) (ap6 hr1 hu);have g7:Gr K6 (K6++ [.list ((dFs us c es).map λk=>pV (eP (vJ (ie us (uL c es) 4) k)))]):=Gr.refl.add (by
  show(V.jN _ _&&au)=au;rw[O5 (λU=>rfl)];rfl)
 have g57:=gr g5 (gr g6 g7);have f4:∀k∈dFs us c es,k<4:=λk hk=>Dn k (cG.mp hk).1;obtain⟨K8,e8,g8⟩:=acf (C:=(cD c H.length K4.length [("made",.ref (K4++Qt us (uL c es) K4.length).length),("fresh",.ref K6.length)])) (g57.at h4) eo1 n8 f4 (aq (dO _ _) az0) rfl rfl ((gr gH6 g7).Bp ju);have g8':Gr K8 (K8++ [rC (dEs us c es)]):=Gr.refl.add (by
  show(O3 _ (rC (dEs us c es))&&au)=au;rw[ato];rfl)
 have gH8:=gr (gr gH6 g7) (gr g8 g8');obtain⟨K9,e9,g9⟩:=acg (C:=(cD c H.length K4.length [("made",.ref (K4++Qt us (uL c es) K4.length).length),("fresh",.ref K6.length)])) (gH8.at hni) no ((gr g7 (gr g8 g8')).at hm6) (Pn.gr (gr g6 (gr g7 (gr g8 g8')))) (λk hk=>Hl hr1 hu hk) Dn az0 rfl rfl rfl (gH8.Bp ju);have g9':Gr K9 (K9++ [zU (dNs us c es ns)]):=Gr.refl.add (by
  show(V.jN _ _&&au)=au;rw[S7];rfl)
 have gH9:=gr gH8 (gr g9 g9');have e10:=anj (n:=n+47) (L:=Eg K8.length K9.length c (sY c)) (C:=(cD c H.length K4.length [("made",.ref (K4++Qt us (uL c es) K4.length).length),("fresh",.ref K6.length)])) ((gr (gr g7 (gr g8 g8')) (gr g9 g9')).at hm6) rfl rfl az0 Dn (gH9.Bp ju) (Pn.gr (gr g6 (gr (gr g7 (gr g8 g8')) (gr g9 g9')))).tx (ap6 hr1 hu);have g10:Gr (K9++ [zU (dNs us c es ns)]) (K9++ [zU (dNs us c es ns)]++ [.list ((Qu us c es).map λk=>pV (eP (vJ (ie us (uL c es) 4) k)))]):=Gr.refl.add (by
  show(V.jN _ _&&au)=au;rw[O5 (λU=>rfl)];rfl)
 have rB:∀K,dD gL (n+57) ⟨Eg K8.length K9.length c (sY c),(cD c H.length K4.length [("made",.ref (K4++Qt us (uL c es) K4.length).length),("fresh",.ref K6.length)]),lk⟩ (.ite (.cmp .NotEq e_53 e_51) Rr (.cst (.str "Control characters not allowed in headers"))) K=ok (.str (Hg (sY c))) K:=λK=>by
  have hb:K7 K .NotEq (.int (sY c)) (.int 10)=aa (!decide (sY c=10)):=neN;by_cases q:sY c=10
  ·rw[gO q]at hb
   rw[show Hg (sY c)=abp from bN q];exact Zh (t8 (v7 (d7 rfl) j6 hb)) j6
  ·rw[decide_eq_false q]at hb
   rw[show Hg (sY c)="" from bk q];exact am4 (t8 (v7 (d7 rfl) j6 hb)) j6
 refine⟨_,K8.length,K9.length,(K9++ [zU (dNs us c es ns)]).length, ?_,gr gH9 g10,(gr (gr g9 g9') g10).at n8,g10.at n8,n8,(gr (gr gH6 g7) g8).le,(gr (gr (gr gH6 g7) g8) (gr g8' g9)).le,gH9.le⟩;exact w7 rfl rfl rfl rfl
  (m7 (p8 (V5 (rK (o9 (d7 rfl) j6 (R9 3 (by decide))) (o9 (o9 (d7 rfl) j6 (ak6 3 (by decide) (by decide))) j6 (R9 20 (by decide))))) (Z9 yE o5))
   (m7 (p8 (Bo aK8 rfl (rK (d7 rfl) (d7 rfl)) e2) (Z9 yE yE))
    (m7 e3 (m7 e4 (m7 (p8 (Bo aK8 rfl (rK (d7 rfl) (d7 rfl)) e5) (Z9 yE yE))
     (m7 (p8 e6 yE) (m7 (p8 e7 yE) (m7 (p8 e8 o5) (m7 (p8 e9 o5)
      (M4 (R0 (V5 (Zg (d7 rfl) (d7 rfl) e10 (rB _))))))))))))))
  (aj7 (by
   show((V.ref K8.length).lt H.length&&_)=aC;rw[show(V.ref K8.length).lt H.length=aC from decide_eq_false (bZ (gr (gr gH6 g7) g8).le)];rfl))
end
end
section
def atw:gL.glob "sum"=aa (.gl (.builtin "sum")):=rfl
abbrev Eh (l:List Nat):m6:= .list (l.map nV)
def fresh {H:Hp}{lk:List Nat}(h:∀j∈lk,j<H.length)(hm:H.length≤m):lk.contains m=aC:=KC h hm
section
variable {l:List Nat}
def aci:∀l:List Nat,(l.map λ(n:Nat)=>(n:Int)).sum=(l.sum:Nat):=by
 intro zz
 induction zz with
 | nil=>
  exact rfl
 | cons a l ih=>
  simp only[cF,nH,nH,ih,lA]
def atx (h:H[i]?=aa (.list (l.map nV)))(hz:l.length≤1000)(hm:∀x∈l,x≤1000000):O7 H "sum" (.ref i)=ok (.int (l.sum:Nat)) H:=by delta O7;refine aO (bk (by decide+kernel)) (aO (bN rfl) ?_);delta Ex;refine aO (R3 h) ?_;refine d9 (aAu l) (m9 ?_ (by rw[aci]));rw[aF,gO hz,rY,List.all_map,bj];intro x hx;have:=hm x hx;show(decide (-1000000000000000≤(x:Int))&&decide ((x:Int)≤1000000000000000))=au;refine aO (gO (yP _)) (aO (gO (dF (fM.mpr this) (by decide))) ?_);rfl
end
def kcV:Option (Nat×Nat)->j7
 | none=> []
 | some p=> [("k",.int p.2),("cell",.int p.1)]
def kcP (p:Nat×Nat):V:= .tup [.int p.2,.int p.1]
def nuV (o:Option Int):j7:=Av "number" V.int o
noncomputable def zx (x:Int):Nat:=(x.fmod 1000000).toNat
noncomputable def yH:List Nat:= [3,1,8,1143,843,1739,6035,71,3,32]
def part (ns:List Int)(k:Nat):List Int:=jM ns (aa k) (aa 60) (aa 10)
def KJ (ns:List Int)(p:Nat×Nat):Nat:=p.1+((part ns p.2).map zx).sum
def KN (ns:List Int):List Nat:=yH.zipIdx.map (KJ ns)
section
def aw2 {α β:Type}{f:α->β}{l:List α}{lo hi st:Option Int}:jM (l.map f) lo hi st=(jM l lo hi st).map f:=by delta jM;simp only[aF,List.map_filterMap];refine congrFun (congrArg List.filterMap (funext λk=> ?_)) _;exact gF
def aV4:(part ns k).length≤7:=by
 refine aq (Bx _ _) ?_;delta picks;have e:eU (aa (k:Int)) (aa 60) (aa 10) ns.length=(max 0 (min (k:Int) ns.length),max 0 (min 60 (ns.length:Int)),10):=by show(max 0 (min (if (k:Int)<0 then(k:Int)+ns.length else k) (ns.length:Int)),max 0 (min 60 (ns.length:Int)),(10:Int))=_;exact aO (bk (ig.mpr (cA k))) rfl
 refine aO e ?_;delta Hw;rw[aF,lH];dsimp only;rw[bN (show(10:Int)>0 by decide)];by_cases q:max 0 (min (k:Int) ns.length)<max 0 (min 60 (ns.length:Int))
 ·rw[bN q];exact uv.mpr (dF (Int.ediv_le_ediv (by decide) (Int.sub_le_sub_right (Int.add_le_add_right (dF (Int.sub_le_self _ (aut _ _)) (Int.max_le.mpr ⟨by decide,Int.min_le_left _ _⟩)) 10) 1)) (by decide))
 ·rw[bk q];exact bR _
def aDd (x:Int):V0 H .Mod (.int x) (.int 1000000)=ok (nV (zx x)) H:=by show ok (V.int (x.fmod 1000000)) H=_;rw[nV,zx,qK (Int.fmod_nonneg_of_pos _ (by decide))]
def anl (x:Int):zx x≤1000000:=uv.mpr (xQ (Int.fmod_lt_of_pos x (by decide)))
def a2k (o:Option Int)(x:Int):I6 gL (n+1) lk' (.loc "number") (.int x) ⟨nuV o,C,H⟩=eO () ⟨nuV (aa x),C,H⟩:=by cases o<;>exact o5
def Hm (o:Option (Nat×Nat))(p:Nat×Nat):I6 gL (n+2) lk' e_62 (kcP p) ⟨kcV o,C,H⟩=eO () ⟨kcV (aa p),C,H⟩:=by cases o<;>exact Z9 o5 o5
def a2l (h:Q[0]?=aa (.list (ns.map .int)))(hL:L.lookup ("k":aJ)=aa (.int k))(c:∀j∈lk,j<Q.length):
  dD gL (n+8) ⟨L, [("script",.ref 0)],lk⟩ e_14 Q=ok (.int (((part ns k).map zx).sum:Nat)) (Q++ [.list ((part ns k).map .int),.list (((part ns k).map zx).map nV)]):=by
 have ec:=aj9 h (x:= .int k) (y:= .int 60) (z:= .int 10) rfl rfl rfl (by decide);rw[aw2]at ec;have e:=JV (elt:= .bin .Mod (.loc "number") (.cst (.int 1000000))) (uz:= []) (λx:Int=>V.int x) (λx=>aa (nV (zx x))) nuV rfl (show vO (o8 gL (n+6)) ⟨L, [("script",.ref 0)],lk⟩ (.vC (.cX "script") (.loc "k") (.cst (.int 60)) e_51) Q=ok ((part ns k).map .int, [Q.length]) (Q++ [.list ((part ns k).map .int)]) from j9 (Ao (Q4 rfl) (d7 hL) j6 j6 ec) (d9 (d9 n8 rfl) rfl)) rfl (aq aV4 (by decide)) (λx hx o acc ha=>
  nU (a2k o x) S9 (o9 (d7 rfl) j6 (aDd x)) (R1 (fresh (λj hj=>by
   refine aO az ?_;exact(bc.mp hj).elim (λq=>q▸eE _) λq=>jG (c j q)) (aN _)) ha))
 simp only[Q3,aQ,show((part ns k).map λx=>nV (zx x))=((part ns k).map zx).map nV from by rw[bF];rfl]at e;refine Q9 atw e (atx (by rw[←aQ];exact n8) (by rw[aF];exact aq aV4 (by decide)) λx hx=> ?_);obtain⟨y,_,rfl⟩:=cC.mp hx;exact anl y
noncomputable abbrev scO (ns:List Int):m6:= .list (ns.map .int)
def aDe:vO (o8 gL (n+3)) φ e_36 H=ok (yH.zipIdx.map kcP, []) H:=rfl
abbrev s0G (ns:List Int)(p:Nat×Nat):Hp:= [.list ((part ns p.2).map .int),.list (((part ns p.2).map zx).map nV)]
def st_0:ik gL (n+12) [0] s0 ⟨[], [("script",.ref 0)], [scO ns]⟩=eO .next ⟨[("cells",.ref 1)], [("script",.ref 0)], [scO ns,Eh (KN ns)]++(yH.zipIdx.map (s0G ns)).flatten⟩:=by
 have e:=aI0 (uz:= ["script"]) (n:=n+10) (φ:=⟨[], [("script",.ref 0)], [0]⟩) (elt:= .bin .Add U7 e_14) kcP (λp=>aa (nV (KJ ns p))) (s0G ns) kcV (λU=> [("script",.ref 0)]) rfl aDe rfl (show 10≤1000 by decide) (λp hp o acc T ha=>by
   have c0:∀{X:Hp},∀j∈([]++ [0]:List Nat),j<([scO ns]++X).length:=λ{X} j hj=>by rw[aH.mp hj];exact fO _
   have e1:=a2l (n:=n+1) (Q:= [scO ns]++ .list acc::T) (L:=kcV (aa p)) rfl rfl c0;rw[aQ]at e1;exact nU (Hm o p) S9 (o9 (d7 rfl) e1 add_n) (ap4 (fresh (c0) (aN _)) ha))
 rw[Q3,show(yH.zipIdx.map λp=>nV (KJ ns p))=(KN ns).map nV from by delta KN;simp only[bF];rfl]at e;exact p8 e o5
end
end
section
noncomputable def ruC (k c:Nat):fV:=⟨c % (k+3),c/7 % (k+3),c/49 % (k+3),3+c/343 % 6,c/2058 % 8⟩
def pD (c:Nat->Nat)(k:Nat):fV:=ruC k (c (k+3))
noncomputable abbrev Ei (c:Nat->Nat):List Nat:= [c 0,c 1,c 2,c 3,c 4,c 5,c 6,c 7,c 8,c 9]
section
variable {c:Nat->Nat}{H T:Hp}{lk:List Nat}{acc:List V}{k m n:Nat}
def V9:M5 (pD c):=⟨λk hk=>⟨gA _ (fO _),gA _ (fO _),gA _ (fO _),bG (cZ (gA _ (show 0<6 by decide))) 3,bz (gA _ (show 0<8 by decide))⟩⟩
def anm (ns:List Int):∃c,KN ns=Ei c:=⟨λk=>KJ ns (yH.getD k 0,k),rfl⟩
def aI4 {l:List V}(he:dD G n φ e H=ok (.ref j) H1)(h:H1[j]?=aa (.list l)):vO (o8 G n) φ (.za e) H=ok (zb l, [j]) H1:=j9 he (d9 (d9 h rfl) rfl)
def a2m {ifs:List j0}(hi:vO (o8 G n) φ it H=ok (vs,Bp) H1)(h:ap8 (turn (o8 G n) (Bp++φ.lk) H1.length elt t ifs) vs ⟨[],φ.cX.filter λp=>uz.contains p.1,H1++ [.list []]⟩=eO () σ):dD G (n+1) φ (.comp elt t it ifs uz) H=ok (.ref H1.length) σ.hp:=j9 hi (by refine aO h ?_;rfl)
abbrev ruE:j0:= .lst [(.bin .Mod U7 Rq),(.bin .Mod (.bin .FloorDiv U7 (.cst (.int 7))) Rq),(.bin .Mod (.bin .FloorDiv U7 (.cst (.int 49))) Rq),e_65,(.bin .Mod (.bin .FloorDiv U7 (.cst (.int 2058))) (.cst (.int 8)))]
def aDf:dD gL (n+5) ⟨kcV (aa (m,k)), [],lk⟩ ruE H=ok (.ref H.length) (H++ [yf (ruC k m)]):=
 Q8 (Q0 (o9 (d7 rfl) (o9 (d7 rfl) j6 (add_n (b:=3))) (R9 (k+3) (fO _)))
  (Q0 (o9 (o9 (d7 rfl) j6 (ak6 7 (by decide) (by decide))) (o9 (d7 rfl) j6 (add_n (b:=3))) (R9 (k+3) (fO _)))
  (Q0 (o9 (o9 (d7 rfl) j6 (ak6 49 (by decide) (by decide))) (o9 (d7 rfl) j6 (add_n (b:=3))) (R9 (k+3) (fO _)))
  (Q0 (o9 j6 (o9 (o9 (d7 rfl) j6 (ak6 343 (by decide) (by decide))) j6 (R9 6 (by decide))) (add_n))
  (mH (o9 (o9 (d7 rfl) j6 (ak6 2058 (by decide) (by decide))) j6 (R9 8 (by decide))))))))
def aC2 (hl:lk.contains H.length=aC)(hz:acc.length<1000)(o:Option (Nat×Nat)):
  turn (o8 gL (n+5)) lk H.length ruE e_62 [] (kcP (m,k)) ⟨kcV o, [],H++ .list acc::T⟩=eO () ⟨kcV (aa (m,k)), [],H++ .list (acc++ [.ref (H++ .list acc::T).length])::(T++ [yf (ruC k m)])⟩:=by
 have e:=aDf (n:=n) (k:=k) (m:=m) (lk:=lk) (H:=H++ .list acc::T);rw[aQ]at e;exact nU (Hm o (m,k)) S9 e (ap4 hl hz)
abbrev L1:j7:= [("cells",.ref 1)]
abbrev L2:j7:= [("cells",.ref 1),("rules",.ref 3)]
abbrev C0:j7:= [("script",.ref 0)]
abbrev HA (sc:List Int)(c:Nat->Nat):Hp:= [scO sc,Eh (Ei c)]
abbrev HB (sc:List Int)(c:Nat->Nat):Hp:= [scO sc,Eh (Ei c),Eh [c 3,c 4,c 5,c 6],.list [.ref 4,.ref 5,.ref 6,.ref 7],yf (pD c 0),yf (pD c 1),yf (pD c 2),yf (pD c 3)]
variable {sc:List Int}
def st_1:ik gL (n+8) [0] s1 ⟨L1,C0,HA sc c⟩=eO .next ⟨L2,C0,HB sc c⟩:=by
 have ec:=aj9 (H:=HA sc c) (k:=1) rfl (x:= .int 3) (y:= .int 7) (z:= .none) rfl rfl rfl (λq=>iz q);have ep:jM ((Ei c).map nV) (aa 3) (aa 7) aB= [c 3,c 4,c 5,c 6].map nV:=by refine aO aw2 (aO (ap1 rfl (by decide) (show 7≤10 by decide)) ?_);rfl
 rw[ep]at ec;have hi:vO (o8 gL (n+6)) ⟨L1,C0, [0]⟩ (.za (.vC (.loc "cells") e_3 (.cst (.int 7)) e_6)) (HA sc c)=ok ([kcP (c 3,0),kcP (c 4,1),kcP (c 5,2),kcP (c 6,3)], [2]) (HA sc c++ [Eh [c 3,c 4,c 5,c 6]]):=aI4 (Ao (d7 rfl) j6 j6 j6 ec) n8;exact p8 (a2m hi (v6 (aC2 rfl (by decide) aB)
  (v6 (aC2 (acc:= [.ref 4]) rfl (show 1<1000 by decide) _) (v6 (aC2 (n:=n+1) (H:=HA sc c++ [Eh [c 3,c 4,c 5,c 6]]) (acc:= [.ref 4,.ref 5]) rfl (show 2<1000 by decide) _) (v6 (aC2 (acc:= [.ref 4,.ref 5,.ref 6]) rfl (show 3<1000 by decide) _) rfl))))) o5
abbrev jJ (c:Nat->Nat):List Ent:= [((aC,0),vX (c 0)),((aC,1),vX (c 1)),((aC,2),vX (c 2))]
abbrev L3:j7:= [("cells",.ref 1),("rules",.ref 3),("pairs",.ref 9)]
abbrev HC (sc:List Int)(c:Nat->Nat):Hp:=HB sc c++ [Eh [c 0,c 1,c 2],rC (jJ c)]
def st_2:ik gL (n+22) [0] s2 ⟨L2,C0,HB sc c⟩=eO .next ⟨L3,C0,HC sc c⟩:=by
 have ec:=aj9 (H:=HB sc c) (k:=1) rfl (x:= .none) (y:= .int 3) (z:= .none) rfl rfl rfl (λq=>iz q);have ep:jM ((Ei c).map nV) aB (aa 3) aB= [c 0,c 1,c 2].map nV:=by refine aO aw2 (aO (ap1 rfl (by decide) (show 3≤10 by decide)) ?_);rfl
 rw[ep]at ec;have hi:vO (o8 gL (n+20)) ⟨L2,C0, [0]⟩ (.za (.vC (.loc "cells") e_6 e_3 e_6)) (HB sc c)=ok (([(c 0,0),(c 1,1),(c 2,2)]:List (Nat×Nat)).map kcP, [8]) (HB sc c++ [Eh [c 0,c 1,c 2]]):=aI4 (Ao (d7 rfl) j6 j6 j6 ec) n8;have e:=JV (elt:= .tup [e_31,(.call (.jq "_law_text") [U7] [] [])]) (uz:= []) kcP (λp=>aa (pV (eP ((aC,p.2),vX p.1)))) kcV rfl hi rfl (show 3≤1000 by decide) (λp hp o acc ha=>by
  have p7:p.2<7:=by
   rcases bc.mp hp with rfl | hp
   ·exact show 0<7 by decide
   ·rcases bc.mp hp with rfl | hp
    ·exact show 1<7 by decide
    ·rw[aH.mp hp];exact show 2<7 by decide
  exact nU (Hm o p) S9 (V5 (rK (aai (b:=aC) p7 (d7 rfl)) (Bo abr rfl (mH (d7 rfl)) aO5))) (R1 rfl ha))
 exact p8 e o5
end
end
section
section
variable {c:Nat->Nat}{sc:List Int}{n:Nat}
noncomputable abbrev L4:j7:= [("cells",.ref 1),("rules",.ref 3),("pairs",.ref 9),("sheet",.ref 10),("notes",.ref 11),("log",.ref 13),("errors",.ref 15)]
abbrev C4:j7:= [("script",.ref 0),("waits",.ref 14)]
noncomputable abbrev q0:Nat->Bool:=λ_=>aC
def a2n:∀p∈(jJ c).map eP,Ed p.1∧zr p.2:=λp hp=>by
 obtain⟨e,he,rfl⟩:=cC.mp hp;rcases bc.mp he with rfl | he
 ·exact⟨Rv (show 0<7 by decide),ai3.vl⟩
 ·rcases bc.mp he with rfl | he
  ·exact⟨Rv (show 1<7 by decide),ai3.vl⟩
  ·rw[aH.mp he];exact⟨Rv (show 2<7 by decide),ai3.vl⟩
def st_3:ik gL (n+25) [0] s3 ⟨L3,C0,HC sc c⟩=eO .next ⟨L4,C4,HM sc (Ei c) (pD c) [] (jJ c) [] [] q0 []⟩:=by refine p8 (V5 (sE5 (aad (d7 rfl) rfl a2n rfl) (aac rfl) (aA1 j6 rfl) (Q8 j4) (Q8 j4))) ?_;kernel_rfl
end
end
section
abbrev mkX (u:fV)(X:Nat->List Nat):List Nat:=Ql u.h u.w (X u.a) (X (wY u (X u.a)))
section
variable {us:Nat->fV}{es:List Ent}{k c m:Nat}{X Y:Nat->List Nat}
def at7 (ru:aaz u k)(h:∀c,∀J:c<k+3,X c=Y c):mkX u X=mkX u Y:=by show Ql u.h u.w (X u.a) (X (wY u (X u.a)))=Ql u.h u.w (Y u.a) (Y (wY u (Y u.a)));rw[h _ ru.a,h _ (ap3 ru)]
def a2p (h:c<l.length):gT (l++ [x]) c=gT l c:=by show(l++ [x]).getD c []=l.getD c [];rw[gZ,gZ,gC h]
def a2q (h:c=l.length):gT (l++ [x]) c=x:=by show(l++ [x]).getD c []=x;rw[gZ,h,dN (aN _),pA];rfl
def acj:∀k,(ie us es k).length=k+3:=by
 intro k
 induction k with
 | zero=>rfl
 | succ k ih=>exact az.trans (congrArg (·+1) ih)
def aDg (h:c<k+3):∀d,gT (ie us es (k+d)) c=gT (ie us es k) c:=by
 intro d
 induction d with
 | zero=>rfl
 | succ d ih=>exact(a2p (by rw[acj];exact aM h (aK (bh _ _) 3))).trans ih
def pl_4 (h:c<k+3)(hk:k≤4):gT (ie us es k) c=gT (ie us es 4) c:=by obtain⟨d,hd⟩:=oA hk;have:=aDg (us:=us) (es:=es) h d;rw[←hd]at this;exact this.symm
def am7 (h:c<3):gT (ie us es 4) c=rd es c:=by
 refine(pl_4 h (bR _)).symm.trans ?_;rcases c with _ | _ | _ | c
 ·rfl
 ·rfl
 ·rfl
 ·exact absurd h (bZ (cL 3 c))
def am8 (hu:M5 us)(hk:k<4):gT (ie us es 4) (k+3)=mkX (us k) (gT (ie us es 4)):=by refine(pl_4 (eE _) hk).symm.trans ((a2q (acj k).symm).trans ?_);exact at7 (hu.ok k hk) λc hc=>pl_4 hc (bz hk)
def Cs (us:Nat->fV)(es:List Ent):Prop:=∀k,∀J:k<4,rd es (k+3)=mkX (us k) (rd es)
def atz (h:c<7):c<3∨∃k,k<4∧c=k+3:=by
 by_cases q:c<3
 ·exact .inl q
 ·obtain⟨d,hd⟩:=oA (cV q)
  rw[dH]at hd;exact .inr ⟨d,Nat.lt_of_add_lt_add_right (hd▸h),hd⟩
def ack (hu:M5 us)(h0:∀c,∀J:c<3,X c=Y c)(hX:∀k,∀J:k<4,X (k+3)=mkX (us k) X)(hY:∀k,∀J:k<4,Y (k+3)=mkX (us k) Y):∀k,∀J:k≤4,∀c,∀J:c<k+3,X c=Y c:=by
 intro k
 induction k with
 | zero=>exact λ_=>h0
 | succ k ih=>
  intro hk c hc;by_cases q:c=k+3
  ·rw[q,hX k hk,hY k hk]
   exact at7 (hu.ok k hk) (ih (bz hk))
  ·exact ih (bz hk) c (eV (cZ hc) q)
def acn (hu:M5 us)(h:Cs us es)(hc:c<7):gT (ie us es 4) c=rd es c:=ack hu (λc h=>am7 h) (λk hk=>am8 hu hk) h 4 (aN _) c hc
def KQ (hu:M5 us)(h0:∀c,∀J:c<3,(X c).length≤40)(hX:∀k,∀J:k<4,X (k+3)=mkX (us k) X):∀k,∀J:k≤4,∀c,∀J:c<k+3,(X c).length≤40:=by
 intro k
 induction k with
 | zero=>exact λ_=>h0
 | succ k ih=>
  intro hk c hc;by_cases q:c=k+3
  ·rw[q,hX k hk]
   exact amn (hu.ok k hk).w (by decide) (ih (bz hk) _ (ap3 (hu.ok k hk)))
  ·exact ih (bz hk) c (eV (cZ hc) q)
theorem KR:∀ls:List (List Nat),∀J:ls≠ [],∀J:(∀t∈ls,Tx t),∀J:(rowsOf 32 ls).length≤400,Tx (rowsOf 32 ls)
 | [],h,_,_=>absurd rfl h
 | [a],_,h,_=>h a (.head _)
 | a::b::r,_,h,hz=>by rw[aG9,az,dZ]at hz;rw[aG9];exact(h a (.head _)).join (KR (b::r) (λq=>nxD q) (λt ht=>h t (.tail _ ht)) (aq (aq (eY _) (cL _ _)) hz)) (aq (cN ((iH _ 1 _).trans (congrArg (a.length+·) (dH 1 _)))) hz)
def a2r:Tx [111]:=⟨λc h=> .inr (.inl (aH.mp h)),show 1≤400 by decide,⟨111, [],rfl,by decide⟩,⟨111, [],rfl,by decide⟩⟩
def aDh (h:∀t∈ls,Tx t)(hz:(rowsOf 32 ls).length≤40):Tx (Qe (rowsOf 32 ls))∧(Qe (rowsOf 32 ls)).length≤40:=by
 by_cases q:rowsOf 32 ls= []
 ·rw[show Qe (rowsOf 32 ls)= [111] from bN q]
  exact⟨a2r,show 1≤40 by decide⟩
 ·rw[show Qe (rowsOf 32 ls)=rowsOf 32 ls from bk q]
  exact⟨KR ls (λz=>q (by rw[z];rfl)) h (aq hz (by decide)),hz⟩
def ap7 {e:Ent}(h:es.filter (jx c)= [e])(t:Tx e.2):rd es c=e.2:=by show Qe (rowsOf 32 ((es.filter (jx c)).map (·.2)))=_;rw[h];exact bk t.ne
def KY (h:es.filter (jx c)= []):rd es c= [111]:=by show Qe (rowsOf 32 ((es.filter (jx c)).map (·.2)))=_;rw[h];rfl
def aK9 (h:Ah.filter (jx c)=es.filter (jx c)):rd Ah c=rd es c:=by show Qe (rowsOf 32 ((Ah.filter (jx c)).map (·.2)))=Qe (rowsOf 32 ((es.filter (jx c)).map (·.2)));rw[h]
end
end
section
structure Sh (m:Nat)(es:List Ent):Prop where
 ix:∀e∈es,e.1.2<7
 tx:∀e∈es,Tx e.2
 g:∀e∈es,∀J:e.1.2<3,e.2.length≤3
 one:∀j,∀J:j<4,∃e,es.filter (jx (j+3))= [e]∧e.2.length≤40
 len:es.length≤m
section
variable {us:Nat->fV}{es:List Ent}{j k c m:Nat}{b:Bool}{t:List Nat}
def aco (h:c<3):c≠j+3:=λq=>absurd h (bZ (aq (cL 3 j) (cN q.symm)))
def Sh.ok (h:Sh m es)(hm:m≤10):J3 es:=⟨h.ix,h.tx,aq h.len hm⟩
def aZ7 (h:∀t∈ls,∀J:True,t.length≤3)(hz:ls.length≤10):(rowsOf 32 ls).length≤40:=
 aq (aF6 ls) (aq (ai0 ls λt ht=>dK (h t ht ⟨⟩)) (dh 4 hz))
def acp (ht:t∈lF es c):∃e∈es,e.1.2=c∧e.2=t:=by obtain⟨e,he,q⟩:=cC.mp ht;exact⟨e,(cG.mp he).1,gM (cG.mp he).2,q⟩
theorem Sh.rd (h:Sh m es)(hm:m≤10)(hc:c<7):Tx (rd es c)∧(rd es c).length≤40:=by
 rcases atz hc with q | ⟨k,hk,rfl⟩
 ·refine aDh (λt ht=> ?_) (aZ7 (λt ht U=> ?_) (an5 (h.ok hm)))
  ·obtain⟨e,he,_,rfl⟩:=acp ht
   exact h.tx e he
  ·obtain⟨e,he,z,rfl⟩:=acp ht
   exact h.g e he (z▸q)
 ·obtain⟨e,he,hz⟩:=h.one k hk
  have te:=h.tx e (cG.mp (he▸DG e:e∈es.filter (jx (k+3)))).1;rw[ap7 he te];exact⟨te,hz⟩
def a2t (h:jx c e=au)(hk:c≠k):(!jx k e)=au:=by rw[show jx k e=aC from beq_eq_false_iff_ne.mpr λq=>hk ((gM h).symm.trans q)];rfl
def az1 (hk:c≠k):(es.filter λe=> !jx k e).filter (jx c)=es.filter (jx c):=by
 rw[wF];refine xG λe he=> ?_;cases q:jx c e with
 | false=>rfl
 | true=>rw[a2t q hk];rfl
def aua (hk:c≠k):(Qp b k t es).filter (jx c)=es.filter (jx c):=by
 show((es.filter λe=> !jx k e)++ [((b,k),t)]).filter (jx c)=_;rw[fJ,az1 hk,bw (by
  show¬(k==c)=au;rw[beq_eq_false_iff_ne.mpr (Ne.symm hk)];exact aR),iW,bf]
def Qv:(es.filter λe=> !jx k e).filter (jx k)= []:=by rw[wF];refine oU.mpr λe he=> ?_;cases jx k e<;>exact aR
def aub:(Qp b k t es).filter (jx k)= [((b,k),t)]:=by show((es.filter λe=> !jx k e)++ [((b,k),t)]).filter (jx k)=_;rw[fJ,Qv,bD (show jx k ((b,k),t)=au from beq_self_eq_true k),iW,iU]
def acq {α:Type}(p:α->Bool):∀l:List α,(l.filter p).length+(l.filter λe=> !p e).length=l.length:=by
 intro l
 induction l with
 | nil=>rfl
 | cons a l ih=>
  cases q:p a with
  | true=>
   rw[bD q,bw (by rw[q];exact aR),dZ,dZ,gq,ih]
  | false=>
   rw[bw (by rw[q];exact aR),bD (by rw[q];rfl),dZ,dZ,←iH,ih]
def Sh.store (h:Sh m es)(hk:k<4)(tt:Tx t)(tz:t.length≤40):Sh m (Qp b (k+3) t es) where
 ix:=λe he=>by
  rcases bI.mp he with he | he
  ·exact h.ix e (cG.mp he).1
  ·rw[aH.mp he];exact bA hk 3
 tx:=λe he=>by
  rcases bI.mp he with he | he
  ·exact h.tx e (cG.mp he).1
  ·rw[aH.mp he];exact tt
 g:=λe he q=>by
  rcases bI.mp he with he | he
  ·exact h.g e (cG.mp he).1 q
  ·rw[aH.mp he]at q;exact absurd q (bZ (cL 3 k))
 one:=λj hj=>by
  by_cases q:j=k
  ·subst q
   exact⟨_,aub,tz⟩
  ·rw[aua λz=>q (mF z)]
   exact h.one j hj
 len:=by obtain⟨e,he,_⟩:=h.one k hk;have:=acq (jx (k+3)) es;rw[he]at this;show((es.filter λe=> !jx (k+3) e)++ [_]).length≤m;rw[az,dH];exact aq (cN this) h.len
def Sh.more (h:Sh m es)(hc:c<3)(tt:Tx t)(tz:t.length≤3):Sh (m+1) (es++ [((b,c),t)]) where
 ix:=λe he=>by
  rcases bI.mp he with he | he
  ·exact h.ix e he
  ·rw[aH.mp he];exact dG hc (by decide)
 tx:=λe he=>by
  rcases bI.mp he with he | he
  ·exact h.tx e he
  ·rw[aH.mp he];exact tt
 g:=λe he q=>by
  rcases bI.mp he with he | he
  ·exact h.g e he q
  ·rw[aH.mp he];exact tz
 one:=λj hj=>by
  obtain⟨e,he,hz⟩:=h.one j hj;refine⟨e, ?_,hz⟩;rw[fJ,he,bw (by
   show¬(c==j+3)=au;rw[beq_eq_false_iff_ne.mpr (aco hc)];exact aR)]
  rfl
 len:=by rw[az];exact aK h.len 1
def Sh.clear (h:Sh m es)(hc:c<3):Sh m (DY c es) where
 ix:=λe he=>h.ix e (cG.mp he).1
 tx:=λe he=>h.tx e (cG.mp he).1
 g:=λe he q=>h.g e (cG.mp he).1 q
 one:=λj hj=>by show∃e,(es.filter λe=> !jx c e).filter (jx (j+3))= [e]∧e.2.length≤40;rw[az1 (aco hc).symm];exact h.one j hj
 len:=aq (dO _ _) h.len
def Sh.mono (h:Sh m es)(hm:m≤m'):Sh m' es:=⟨h.ix,h.tx,h.g,h.one,aq h.len hm⟩
end
structure RC (pr:Nat->Nat×Nat)(k:Nat)(ns:List w6):Prop where
 ok:∀e∈ns,e.1<4∧e.2.1<e.1+3∧e.2.2<e.1+3
 pr:∀e∈ns,∀J:k≤e.1,e.2=pr e.1
 ex:∀j,∀J:k≤j,∀J:j<4,∃e∈ns,e.1=j
 len:ns.length≤4+k
section
variable {pr:Nat->Nat×Nat}{ns:List w6}{q:Nat->Bool}{j k c:Nat}
def RC.nok (h:RC pr k ns)(hk:k≤4):Bq ns:=⟨λe he=>by
 have o:=h.ok e he;have l:=aK (bz o.1) 3;exact⟨o.1,aM o.2.1 l,aM o.2.2 l⟩,aq h.len (aq (bG hk 4) (by decide))⟩
def RC.skip (h:RC pr k ns):RC pr (k+1) ns:=⟨h.ok,λe he J=>h.pr e he (dB J),λj J=>h.ex j (dB J),iT h.len⟩
def RC.note (h:RC pr k ns)(hk:k<4)(ha:a<k+3)(ho:o<k+3):RC pr (k+1) (Qn k a o ns) where
 ok:=λe he=>by
  rcases bI.mp he with he | he
  ·exact h.ok e (cG.mp he).1
  ·rw[aH.mp he];exact⟨hk,ha,ho⟩
 pr:=λe he J=>by
  rcases bI.mp he with he | he
  ·exact h.pr e (cG.mp he).1 (dB J)
  ·rw[aH.mp he]at J;exact absurd J (vA k)
 ex:=λj J hj=>by obtain⟨e,he,z⟩:=h.ex j (dB J) hj;refine⟨e,qe _ (cG.mpr ⟨he, ?_⟩),z⟩;show(!(e.1==k))=au;rw[z,beq_eq_false_iff_ne.mpr (pq J)];rfl
 len:=by show((ns.filter _)++ [_]).length≤_;rw[az];exact dK (aq (dO _ _) h.len)
def auc:∀ns q,Di c ns q j=(q j || ns.any λe=>hit c e&&j==e.1):=by
 intro ns
 induction ns with
 | nil=>intro q;exact(jL _).symm
 | cons e ns ih=>
  intro q;show Di c ns (wk1 c e q) j=_;rw[ih,Bv,←Bool.or_assoc]
  congr 1
  show(if hit c e=au then pls q e.1 else q) j=_;cases h:hit c e with
  | true=>rfl
  | false=>exact(jL _).symm
def aud (h:RC pr k ns)(hk:k≤j)(hj:j<4):Di c ns q j=(q j || (c==(pr j).1 || c==(pr j).2)):=by
 rw[auc]
 congr 1
 cases z:(c==(pr j).1 || c==(pr j).2) with
 | true=>
  obtain⟨e,he,rfl⟩:=h.ex j hk hj;refine jW.mpr ⟨e,he, ?_⟩;rw[beq_self_eq_true,qb];show(c==e.2.1 || c==e.2.2)=au;rw[h.pr e he hk];exact z
 | false=>
  refine eF.mpr λw=> ?_;obtain⟨e,he,w⟩:=jW.mp w;have w:=j8 w;have w2:=gM w.2;subst w2;have w1:(c==e.2.1 || c==e.2.2)=au:=w.1;rw[h.pr e he hk,z]at w1;exact qI w1
def aDi (h:RC pr k ns)(hc:j+3≤c):Di c ns q j=q j:=by
 rw[auc,show(ns.any λe=>hit c e&&j==e.1)=aC from eF.mpr λw=>by
  obtain⟨e,he,w⟩:=jW.mp w;have w:=j8 w;have w2:=gM w.2;subst w2;have o:=(h.ok e he).2;have w1:(c==e.2.1 || c==e.2.2)=au:=w.1;rw[beq_eq_false_iff_ne.mpr (Ne.symm (cW (aM o.1 hc))),beq_eq_false_iff_ne.mpr (Ne.symm (cW (aM o.2 hc)))]at w1;exact qI w1,jL]
def anq (hk:k<4)(h0:∀j,∀J:j<k,q j=aC)(h1:q k=au):(wS q).head?=aa k:=by
 show(W4 (q 0) (q 1) (q 2) (q 3)).head?=aa k;rcases k with _ | _ | _ | _ | k
 ·rw[h1];rfl
 ·rw[h0 0 (by decide),h1];rfl
 ·rw[h0 0 (by decide),h0 1 (by decide),h1];rfl
 ·rw[h0 0 (by decide),h0 1 (by decide),h0 2 (by decide),h1];rfl
 ·exact absurd hk (bZ (cL 4 k))
def an2 (h:∀j,∀J:j<4,q j=aC):wS q= []:=by show W4 (q 0) (q 1) (q 2) (q 3)= [];rw[h 0 (by decide),h 1 (by decide),h 2 (by decide),h 3 (by decide)];rfl
end
end
section
section
variable {us:Nat->fV}{es e1:List Ent}{ns:List w6}{k j c:Nat}{s:Sx}
def anr {p:Nat->Bool}:(!([x,y].filter p).isEmpty)=(p x || p y):=by
 cases h:p x with
 | true=>rw[bD h];rfl
 | false=>
  rw[bw (by rw[h];exact aR)];cases h2:p y with
  | true=>rw[bD h2];rfl
  | false=>rw[bw (by rw[h2];exact aR),iW];rfl
abbrev df (us:Nat->fV)(es e1:List Ent)(c:Nat):Bool:=dfB (ie us es 4) (ie us e1 4) c
abbrev mB (us:Nat->fV)(es e1:List Ent)(k:Nat):Bool:=mdB (ie us es 4) (ie us e1 4) (xO us es) k
def ant:mB us es e1 k=(df us es e1 (us k).a || df us es e1 (yU us es k)):=anr
def acr (h:df us es e1 c=aC):gT (ie us es 4) c=gT (ie us e1 4) c:=by have h:=h;rw[Bool.not_eq_false']at h;exact gM h
def Dp (h:gT (ie us e1 4) c=gT (ie us es 4) c):df us es e1 c=aC:=by show(!(gT (ie us es 4) c==gT (ie us e1 4) c))=aC;rw[h,beq_self_eq_true];rfl
def aue (h:gT (ie us e1 4) c≠gT (ie us es 4) c):df us es e1 c=au:=by show(!(gT (ie us es 4) c==gT (ie us e1 4) c))=au;rw[beq_eq_false_iff_ne.mpr (Ne.symm h)];rfl
def am9 (hu:M5 us)(hk:k<4):yU us es k=wY (us k) (gT (ie us es 4) (us k).a):=congrArg (wY (us k)) (pl_4 (hu.ok k hk).a (bz hk))
def az2 (hu:M5 us)(hk:k<4):yU us es k<k+3:=ap3 (hu.ok k hk)
def anv (hu:M5 us)(hk:k<4)(h:mB us es e1 k=aC):gT (ie us e1 4) (k+3)=gT (ie us es 4) (k+3):=by rw[ant]at h;have h:=dI.mp h;have ea:=acr h.1;have eo:=acr h.2;rw[am9 hu hk]at eo;rw[am8 hu hk,am8 hu hk];show Ql _ _ (gT (ie us e1 4) (us k).a) (gT (ie us e1 4) (wY (us k) (gT (ie us e1 4) (us k).a)))=_;rw[←ea,←eo]
def anw (hu:M5 us)(hk:k<4)(h:mB us es e1 k=aC):xO us e1 k=xO us es k:=by rw[ant]at h;show((us k).a,yU us e1 k)=((us k).a,yU us es k);rw[am9 hu hk,am9 hu hk,acr (dI.mp h).1]
abbrev wB (us:Nat->fV)(es e1:List Ent)(k c:Nat):Bool:=decide (c<k+3)&&df us es e1 c
def aw3 (h:c<k+3):wB us es e1 k c=df us es e1 c:=by show(decide (c<k+3)&&_)=_;rw[gO h];rfl
def Hn (h:c≠k+3):decide (c<k+1+3)=decide (c<k+3):=by
 by_cases q:c<k+3
 ·rw[gO q,gO (jG q)]
 ·rw[decide_eq_false q,decide_eq_false λz=>q (eV (cZ z) h)]
def KZ (h:df us es e1 (k+3)=aC):wB us es e1 (k+1) c=wB us es e1 k c:=by
 by_cases q:c=k+3
 ·subst q
  show(_&&df us es e1 (k+3))=(_&&df us es e1 (k+3));rw[h,gY,gY]
 ·show(decide (c<k+1+3)&&_)=_
  rw[Hn q]
def acs (h:df us es e1 (k+3)=au):wB us es e1 (k+1) c=(wB us es e1 k c || k+3==c):=by
 by_cases q:c=k+3
 ·subst q
  rw[aw3 (eE _),h,beq_self_eq_true,Bool.or_true]
 ·show(decide (c<k+1+3)&&_)=_
  rw[Hn q,beq_eq_false_iff_ne.mpr (Ne.symm q),jL]
abbrev Ej (us:Nat->fV)(es e1:List Ent)(k:Nat):List Nat:=(dm k).filter (mB us es e1)
abbrev frs (us:Nat->fV)(es e1:List Ent)(k:Nat):List Nat:=(Ej us es e1 k).filter (frB (ie us es 4) (ie us e1 4))
def a2v (h:mB us es e1 k=aC):Ej us es e1 (k+1)=Ej us es e1 k:=by show(dm (k+1)).filter _=_;rw[ux,fJ,bw (by rw[h];exact aR),iW,bf]
def aC3 (h:mB us es e1 k=au):Ej us es e1 (k+1)=Ej us es e1 k++ [k]:=by show(dm (k+1)).filter _=_;rw[ux,fJ,bD h,iW]
def Ho:∀x∈Ej us es e1 k,x<k:=λx hx=>cP.mp (cG.mp hx).1
def a2w (h:mB us es e1 k=au)(hd:df us es e1 (k+3)=aC):frs us es e1 (k+1)=frs us es e1 k:=by show(Ej us es e1 (k+1)).filter _=_;rw[aC3 h,fJ,bw (by show¬df us es e1 (k+3)=au;rw[hd];exact aR),iW,bf]
def anx (h:mB us es e1 k=au)(hd:df us es e1 (k+3)=au):frs us es e1 (k+1)=frs us es e1 k++ [k]:=by show(Ej us es e1 (k+1)).filter _=_;rw[aC3 h,fJ,bD (show frB (ie us es 4) (ie us e1 4) k=au from hd),iW]
def a2x:(a+1==b+1)=(a==b):=by
 by_cases h:a=b
 ·rw[h,beq_self_eq_true,beq_self_eq_true]
 ·rw[beq_eq_false_iff_ne.mpr h,beq_eq_false_iff_ne.mpr λq=>h (nQ q)]
def La (a b:Bool):(!(a || (b || aC)))=(!b&& !a):=by cases a<;>cases b<;>rfl
def aV5 {α:Type}{p q r:α->Bool}{l m:List α}{x:α}(hm:∀e∈m,q e=au)(h:∀e,(q e&&p e)=r e):(l.filter p++m).filter q++ [x]=l.filter r++(m++ [x]):=by have h2:=jU.mpr hm;rw[fJ,wF,h2,aQ,xG λe _=>h e]
def aZ8 {pr:Nat->Nat×Nat}(h:∀x∈ms,x<k):Qn k (pr k).1 (pr k).2 (ns.filter (KH ms)++ms.map (Dm pr))=ns.filter (KH (ms++ [k]))++(ms++ [k]).map (Dm pr):=by
 rw[bu];refine aV5 (λe he=> ?_) λe=> ?_
 ·obtain⟨x,hx,rfl⟩:=cC.mp he
  show(!(x==k))=au;rw[beq_eq_false_iff_ne.mpr (cW (h x hx))];rfl
 ·show(!(e.1==k)&& !(ms.contains e.1))= !((ms++ [k]).contains e.1)
  rw[Lr];exact(La _ _).symm
def aZ9 (h:∀x∈fs,x<k):Qp au (k+3) (gT tN (k+3)) (es.filter (RB fs)++fs.map (vJ tN))=es.filter (RB (fs++ [k]))++(fs++ [k]).map (vJ tN):=by
 rw[bu];refine aV5 (λe he=> ?_) λe=> ?_
 ·obtain⟨x,hx,rfl⟩:=cC.mp he
  show(!(x+3==k+3))=au;rw[beq_eq_false_iff_ne.mpr λq=>cW (h x hx) (mF q)];rfl
 ·show(!(e.1.2==k+3)&& !((l4 fs).contains (e.1.2+1)))= !((l4 (fs++ [k])).contains (e.1.2+1))
  rw[show l4 (fs++ [k])=l4 fs++ [k+4] from bu,Lr];show _= !((l4 fs).contains (e.1.2+1) || (e.1.2+1==k+3+1 || aC));rw[a2x];exact(La ((l4 fs).contains (e.1.2+1)) (e.1.2==k+3)).symm
end
end
section
structure Stg (us:Nat->fV)(es e1:List Ent)(ns:List w6)(mm k:Nat)(s:Sx):Prop where
 e:s.es=e1.filter (RB (frs us es e1 k))++(frs us es e1 k).map (vJ (ie us e1 4))
 n:s.ns=ns.filter (KH (Ej us es e1 k))++(Ej us es e1 k).map (Dm (xO us e1))
 l:s.lg=(Ej us es e1 k).map λk=>eP (vJ (ie us e1 4) k)
 q:∀j,∀J:j<4,s.q j=(decide (k≤j)&&(wB us es e1 k (xO us es j).1 || wB us es e1 k (xO us es j).2))
 N:RC (xO us es) k s.ns
 r:∀c,∀J:c<7,rd s.es c=if c<k+3 then gT (ie us e1 4) c else gT (ie us es 4) c
 sh:Sh mm s.es
section
variable {us:Nat->fV}{es e1:List Ent}{ns:List w6}{mm k j c:Nat}{s:Sx}
def Aw (h:j<k):(decide (k≤j)&&a)=aC:=by rw[decide_eq_false (tR h)];rfl
def Ax (h:k≤j):(decide (k≤j)&&a)=a:=by rw[gO h];rfl
def acv (hd:gT (ie us e1 4) (k+3)=gT (ie us es 4) (k+3)):(if c<k+3 then gT (ie us e1 4) c else gT (ie us es 4) c)=if c<k+1+3 then gT (ie us e1 4) c else gT (ie us es 4) c:=by
 by_cases q:c=k+3
 ·rw[q,bk (dW _),bN (eE _),hd]
 ·have:=Hn q
  by_cases z:c<k+3
  ·rw[bN z,bN (jG z)]
  ·rw[bk z,bk λw=>z (eV (cZ w) q)]
def a2y (hu:M5 us)(S:Stg us es e1 ns mm k s)(hk:k<4)(h:mB us es e1 k=aC):Stg us es e1 ns mm (k+1) s:=by
 have hs:=anv hu hk h;have hd:=Dp hs;have em:=a2v h;have ef:frs us es e1 (k+1)=frs us es e1 k:=congrArg (List.filter _) em;refine⟨by rw[ef];exact S.e,by rw[em];exact S.n,by rw[em];exact S.l,λj hj=> ?_,S.N.skip,λc hc=>(S.r c hc).trans (acv hs),S.sh⟩;rw[S.q j hj,KZ hd,KZ hd];by_cases q:k+1≤j
 ·rw[Ax q,Ax (dB q)]
 ·rw[Aw (gR q)]
  by_cases z:k=j
  ·subst z
   rw[Ax (aN _)];show(wB us es e1 k (us k).a || wB us es e1 k (yU us es k))=aC;rw[aw3 (hu.ok k hk).a,aw3 (az2 hu hk),←ant,h]
  ·exact Aw (eV (cZ (gR q)) (Ne.symm z))
def anz (hm:mm≤10)(hu:M5 us)(hN:∀c,∀J:c<7,Tx (gT (ie us e1 4) c)∧(gT (ie us e1 4) c).length≤40)(S:Stg us es e1 ns mm k s)(hk:k<4)(h:mB us es e1 k=au):∃s',Tn us s s'∧Stg us es e1 ns mm (k+1) s':=by
 have k7:=bA hk 3;have ha:=(hu.ok k hk).a;have hX:∀c,∀J:c<k+3,rd s.es c=gT (ie us e1 4) c:=λc hc=>(S.r c (dG hc k7)).trans (bN hc);have ht:uK (us k) s.es=gT (ie us e1 4) (k+3):=(at7 (hu.ok k hk) hX).trans (am8 hu hk).symm;have ho:=(congrArg (wY (us k)) (hX _ ha)).trans (am9 hu hk).symm;have hn:xM k (us k) s.es s.ns=Qn k (us k).a (yU us e1 k) s.ns:=congrArg (λo=>Qn k (us k).a o s.ns) ho;obtain⟨e,he,hz⟩:=S.sh.one k hk;have te:=S.sh.tx e (cG.mp (he▸DG e:e∈s.es.filter (jx (k+3)))).1;have hs:s.es.find? (jx (k+3))=aa e:=by rw[←aee,he];rfl
 have h2:=(ap7 he te).symm.trans ((S.r (k+3) k7).trans (bk (dW _)));have hq:=anq hk (λj J=>(S.q j (dG J hk)).trans (Aw J)) ((S.q k hk).trans ((Ax (aN _)).trans (by
  show(wB us es e1 k (us k).a || wB us es e1 k (yU us es k))=au;rw[aw3 ha,aw3 (az2 hu hk),←ant,h])))
 have N1:=S.N.note hk ha (az2 (es:=e1) hu hk);have hr:∀c,∀J:c<7,Tx (rd s.es c):=λc hc=>(S.sh.rd hm hc).1;have hlz:s.lg.length<1000:=by rw[S.l,aF];exact bB (dO _ _) (by rw[lH];exact dG hk (by decide))
 have hnz:(xM k (us k) s.es s.ns).length≤10:=by rw[hn];exact(N1.nok hk).len
 refine⟨_,.go (S.sh.ok hm) (S.N.nok (bz hk)) hr hk hq hnz hlz hs, ?_⟩;rw[hn,ht,h2];have en:Qn k (us k).a (yU us e1 k) s.ns=ns.filter (KH (Ej us es e1 (k+1)))++(Ej us es e1 (k+1)).map (Dm (xO us e1)):=by rw[S.n,aC3 h];exact aZ8 Ho
 have el:lgK k (gT (ie us e1 4) (k+3)) s.lg=(Ej us es e1 (k+1)).map λk=>eP (vJ (ie us e1 4) k):=by rw[S.l,aC3 h,bu];rfl
 by_cases hd:gT (ie us e1 4) (k+3)=gT (ie us es 4) (k+3)
 ·have ef:=a2w h (Dp hd)
  rw[show tnE k (gT (ie us e1 4) (k+3)) (gT (ie us es 4) (k+3)) s.es=s.es from bN hd,show tnQ k (gT (ie us e1 4) (k+3)) (gT (ie us es 4) (k+3)) (Qn k (us k).a (yU us e1 k) s.ns) s.q=zV s.q k from bN hd];refine⟨by rw[ef];exact S.e,en,el,λj hj=> ?_,N1,λc hc=>(S.r c hc).trans (acv hd),S.sh⟩;show(s.q j&&j !=k)=_;rw[S.q j hj,KZ (Dp hd),KZ (Dp hd)];by_cases q:k+1≤j
  ·rw[Ax q,Ax (dB q),show(j !=k)=au from bne_iff_ne.mpr (pq q),qb]
  ·rw[Aw (gR q)]
   by_cases z:k=j
   ·subst z
    rw[show(k !=k)=aC from bne_self_eq_false k,gY]
   ·rw[Aw (eV (cZ (gR q)) (Ne.symm z)),vd]
 ·have zf:=aue hd
  have ef:=anx h zf;rw[show tnE k (gT (ie us e1 4) (k+3)) (gT (ie us es 4) (k+3)) s.es=Qp au (k+3) (gT (ie us e1 4) (k+3)) s.es from bk hd,show tnQ k (gT (ie us e1 4) (k+3)) (gT (ie us es 4) (k+3)) (Qn k (us k).a (yU us e1 k) s.ns) s.q=Di (k+3) (Qn k (us k).a (yU us e1 k) s.ns) (zV s.q k) from bk hd];refine⟨?_,en,el,λj hj=> ?_,N1,λc hc=> ?_,S.sh.store hk (hN _ k7).1 (hN _ k7).2⟩
  ·rw[ef,S.e]
   exact aZ9 λx hx=>Ho x (cG.mp hx).1
  ·show Di (k+3) (Qn k (us k).a (yU us e1 k) s.ns) (zV s.q k) j=_
   by_cases q:k+1≤j
   ·rw[Ax q,aud N1 q hj,acs zf,acs zf]
    show((s.q j&&j !=k) || _)=_;rw[S.q j hj,Ax (dB q),show(j !=k)=au from bne_iff_ne.mpr (pq q),qb];have:∀a b c d:Bool,((a || b) || (c || d))=((a || c) || (b || d)):=by decide
    exact this _ _ _ _
   ·rw[Aw (gR q),aDi N1 (aK (cZ (gR q)) 3)]
    show(s.q j&&j !=k)=aC;by_cases z:k=j
    ·subst z
     rw[show(k !=k)=aC from bne_self_eq_false k,gY]
    ·rw[S.q j hj,Aw (eV (cZ (gR q)) (Ne.symm z)),vd]
  ·show rd (Qp au (k+3) (gT (ie us e1 4) (k+3)) s.es) c=_
   by_cases q:c=k+3
   ·rw[q,bN (eE _)]
    exact ap7 aub (hN _ k7).1
   ·rw[aK9 (aua q),S.r c hc]
    by_cases z:c<k+3
    ·rw[bN z,bN (jG z)]
    ·rw[bk z,bk λw=>z (eV (cZ w) q)]
inductive Tns (us:Nat->fV)(s:Sx):Nat->Sx->Prop
 | nil:Tns us s 0 s
 | snoc {m:Nat} {x y:Sx} (h:Tns us s m x) (t:Tn us x y):Tns us s (m+1) y
def Tns.pad (h:Tns us s m x)(q:wS x.q= []):∀d,Tns us s (m+d) x:=by
 intro d
 induction d with
 | zero=>exact h
 | succ d ih=>exact .snoc ih (.idle q)
def aoa (hm:mm≤10)(hu:M5 us)(hN:∀c,∀J:c<7,Tx (gT (ie us e1 4) c)∧(gT (ie us e1 4) c).length≤40)(S:Stg us es e1 ns mm 0 s):∀k,∀J:k≤4,∃m x,m≤k∧Tns us s m x∧Stg us es e1 ns mm k x:=by
 intro k
 induction k with
 | zero=>exact λ_=>⟨0,s,aN 0,.nil,S⟩
 | succ k ih=>
  intro hk;obtain⟨m,x,hl,t,Sx⟩:=ih (dB hk);cases h:mB us es e1 k with
  | false=>exact⟨m,x,iT hl,t,a2y hu Sx hk h⟩
  | true=>
   obtain⟨y,ty,Sy⟩:=anz hm hu hN Sx hk h;exact⟨m+1,y,dK hl,.snoc t ty,Sy⟩
def stg_4 (hm:mm≤10)(hu:M5 us)(hN:∀c,∀J:c<7,Tx (gT (ie us e1 4) c)∧(gT (ie us e1 4) c).length≤40)(S:Stg us es e1 ns mm 0 s):∃x,Tns us s 4 x∧Stg us es e1 ns mm 4 x:=by obtain⟨m,x,hl,t,S4⟩:=aoa hm hu hN S 4 (aN 4);have hq:=an2 λj hj=>(S4.q j hj).trans (Aw hj);obtain⟨d,hd⟩:=oA hl;have:=t.pad hq d;rw[←hd]at this;exact⟨x,this,S4⟩
def Tns.four (h:Tns us s 4 x):∃x1 x2 x3,Tn us s x1∧Tn us x1 x2∧Tn us x2 x3∧Tn us x3 x:=by
 cases h with
 | snoc h t4=>cases h with
  | snoc h t3=>cases h with
   | snoc h t2=>cases h with
    | snoc h t1=>cases h with
     | nil=>exact⟨_,_,_,t1,t2,t3,t4⟩
end
end
section
structure Inv (us:Nat->fV)(m:Nat)(es:List Ent)(ns:List w6):Prop where
 sh:Sh m es
 cs:Cs us es
 pm:(ns.map (·.1)).Perm [0,1,2,3]
 pr:∀e∈ns,e.2=xO us es e.1
section
variable {us:Nat->fV}{es e1:List Ent}{ns:List w6}{m k j c p:Nat}{s:Sx}{q:Nat->Bool}
def four (h:k∈([0,1,2,3]:List Nat)):k<4:=cP.mp h
def aDk (h:k<4):k∈([0,1,2,3]:List Nat):=show k∈dm 4 from cP.mpr h
def Inv.lt (I:Inv us m es ns)(he:e∈ns):e.1<4:=four (I.pm.mem_iff.mp (cC.mpr ⟨e,he,rfl⟩))
def Inv.nt (hu:M5 us)(I:Inv us m es ns):RC (xO us es) 0 ns where
 ok:=λe he=>⟨I.lt he,by rw[I.pr e he];exact(hu.ok _ (I.lt he)).a,by rw[I.pr e he];exact az2 hu (I.lt he)⟩
 pr:=λe he U=>I.pr e he
 ex:=λj U hj=>by obtain⟨e,he,z⟩:=cC.mp (I.pm.mem_iff.mpr (aDk hj));exact⟨e,he,z⟩
 len:=by have:=I.pm.length_eq;rw[aF]at this;exact cN this
def Qw {P:Nat->Bool}:∀l:List Nat,((l.filter λk=> !P k)++l.filter P).Perm l:=by
 intro l
 induction l with
 | nil=>exact .refl _
 | cons a l ih=>
  cases h:P a with
  | true=>
   rw[bw (by rw[h];exact aR),bD h];exact List.perm_middle.trans (ih.cons a)
  | false=>
   rw[bD (by rw[h];rfl),bw (by rw[h];exact aR)];exact ih.cons a
def Lb {P:Nat->Bool}{l:List Nat}(h:k∈l):(l.filter P).contains k=P k:=by
 cases q:P k with
 | true=>exact cJ.mpr (cG.mpr ⟨h,q⟩)
 | false=>
  refine eF.mpr λz=> ?_;have:=(cG.mp (cJ.mp z)).2;rw[q]at this;exact qI this
def Qx {P:Nat->Bool}{pr:Nat->Nat×Nat}(h:(ns.map (·.1)).Perm [0,1,2,3]):((ns.filter (KH (([0,1,2,3]:List Nat).filter P))++(([0,1,2,3]:List Nat).filter P).map (Dm pr)).map (·.1)).Perm [0,1,2,3]:=by
 have e1:(ns.filter (KH (([0,1,2,3]:List Nat).filter P))).map (·.1)=(ns.map (·.1)).filter λk=> !((([0,1,2,3]:List Nat).filter P).contains k):=by rw[List.filter_map];rfl
 have e2:((([0,1,2,3]:List Nat).filter P).map (Dm pr)).map (·.1)=([0,1,2,3]:List Nat).filter P:=by rw[bF];exact List.map_id _
 rw[bu,e1,e2];refine((h.filter _).append_right _).trans ?_;rw[show(([0,1,2,3]:List Nat).filter λk=> !((([0,1,2,3]:List Nat).filter P).contains k))=([0,1,2,3]:List Nat).filter λk=> !P k from xG λk hk=>congrArg (!·) (Lb hk)];exact Qw _
def Stg.inv (hu:M5 us)(I:Inv us m' es ns)(S:Stg us es e1 ns m 4 x):Inv us m x.es x.ns:=by
 have hr:∀c,∀J:c<7,rd x.es c=gT (ie us e1 4) c:=λc hc=>(S.r c hc).trans (bN hc);have l7:∀{k},∀J:k<4,k+3<7:=λh=>bA h 3;have cs:Cs us x.es:=λk hk=>by rw[hr _ (l7 hk),am8 hu hk];exact at7 (hu.ok k hk) λc hc=>(hr c (dG hc (l7 hk))).symm
 have hp:∀k,∀J:k<4,xO us x.es k=xO us e1 k:=λk hk=>by have a7:=dG (hu.ok k hk).a (l7 hk);show((us k).a,yU us x.es k)=((us k).a,yU us e1 k);rw[am9 hu hk,am9 hu hk,acn hu cs a7,hr _ a7]
 refine⟨S.sh,cs,by rw[S.n];exact Qx I.pm,λe he=> ?_⟩;rw[S.n]at he;rcases bI.mp he with he | he
 ·have hf:=cG.mp he
  have k4:=I.lt hf.1;have hm:mB us es e1 e.1=aC:=by have hk:(!((Ej us es e1 4).contains e.1))=au:=hf.2;rw[show(Ej us es e1 4).contains e.1=mB us es e1 e.1 from Lb (cP.mpr k4)]at hk;rw[xF]at hk;exact hk
  rw[I.pr e hf.1,hp _ k4];exact(anw hu k4 hm).symm
 ·obtain⟨k,hk,rfl⟩:=cC.mp he
  exact(hp k (Ho k hk)).symm
def stg_0 (hu:M5 us)(I:Inv us m' es ns)(hp:p<3)(sm:∀c,∀J:c≠p,e1.filter (jx c)=es.filter (jx c))(sh:Sh m e1)(hq:∀j,∀J:j<4,q j=aC):
  Stg us es e1 ns m 0 ⟨e1,ns, [],if rd e1 p=rd es p then q else Di p ns q⟩:=by
 have N:=I.nt hu;have h3:∀c,∀J:c≠p,rd e1 c=rd es c:=λc hc=>aK9 (sm c hc);refine⟨?_, ?_,rfl,λj hj=> ?_,N,λc hc=> ?_,sh⟩
 ·exact((bf _).trans (jU.mpr λ_ _=>rfl)).symm
 ·exact((bf _).trans (jU.mpr λ_ _=>rfl)).symm
 ·rw[Ax (bR j)]
  have w0:∀c,∀J:rd e1 c=rd es c,wB us es e1 0 c=aC:=λc h=>by
   by_cases z:c<3
   ·rw[aw3 z]
    exact Dp ((am7 z).trans (h.trans (am7 z).symm))
   ·show(decide (c<0+3)&&_)=aC
    rw[decide_eq_false z];rfl
  by_cases h:rd e1 p=rd es p
  ·have w:∀c,wB us es e1 0 c=aC:=λc=>w0 c (by
    by_cases z:c=p
    ·rw[z];exact h
    ·exact h3 c z)
   rw[w,w];show(if rd e1 p=rd es p then q else Di p ns q) j=aC;rw[bN h];exact hq j hj
  ·have w:∀c,wB us es e1 0 c=(p==c):=λc=>by
    by_cases z:c=p
    ·subst z
     rw[aw3 hp,beq_self_eq_true];exact aue λw=>h ((am7 hp).symm.trans (w.trans (am7 hp)))
    ·rw[w0 c (h3 c z),beq_eq_false_iff_ne.mpr (Ne.symm z)]
   rw[w,w];show(if rd e1 p=rd es p then q else Di p ns q) j=_;rw[bk h,aud N (bR j) hj,hq j hj,Bool.false_or]
 ·show rd e1 c=_
  by_cases z:c<3
  ·rw[bN z];exact(am7 z).symm
  ·rw[bk z,acn hu I.cs hc]
   exact h3 c λw=>z (w▸hp)
def Dq:uL c es=Ef c es:=by
 show(if sY c % 10=0 then(if 10<sY c then es else DY (pC c) es) else(if 10<sY c then es else DY (pC c) es)++ [((cpC c,c % 3),vX ((sY c-1) % 10))])=chg (sY c) (pC c) (cpC c) es;have hk:sY c<20:=gA _ (by decide);generalize sY c=kd at hk;delta chg;by_cases h0:kd=0
 ·subst h0;rfl
 rw[bk h0];by_cases h1:10<kd
 ·rw[bN h1,bN h1,bk λz=> ?_]
  have h2:=(aed (bz h1)).symm;rw[h2,Nat.add_mod_right,apb (Nat.sub_lt_left_of_lt_add (bz h1) hk)]at z;exact dW _ (aM h1 (uN z))
 ·rw[bk h1,bk h1]
  by_cases h2:kd=10
  ·subst h2;rfl
  ·rw[bk h2,apb (eV (cV h1) h2),bk h0]
abbrev esX (c:Nat)(es:List Ent):List Ent:=if 10<sY c then es else DY (pC c) es
def auh:uL c es=if sY c % 10=0 then esX c es else esX c es++ [((cpC c,c % 3),vX ((sY c-1) % 10))]:=rfl
def Hq (h:Sh m es):Sh (m+1) (uL c es):=by
 have p3:c % 3<3:=gA _ (by decide);have h1:Sh m (esX c es):=by
  delta esX;by_cases q:10<sY c
  ·rw[bN q];exact h
  ·rw[bk q];exact h.clear p3
 rw[auh];by_cases q:sY c % 10=0
 ·rw[bN q];exact h1.mono (eY m)
 ·rw[bk q];exact h1.more p3 ai3 ay5
def a2z (h:d≠pC c):(uL c es).filter (jx d)=es.filter (jx d):=by
 have h1:(esX c es).filter (jx d)=es.filter (jx d):=by
  delta esX;by_cases q:10<sY c
  ·rw[bN q]
  ·rw[bk q];exact az1 h
 rw[auh];by_cases q:sY c % 10=0
 ·rw[bN q];exact h1
 ·rw[bk q,fJ,h1,bw (by
   show¬(c % 3==d)=au;rw[beq_eq_false_iff_ne.mpr (Ne.symm h)];exact aR),iW,bf]
def rdN (hu:M5 us)(h:Sh m es)(hm:m≤10)(hc:c<7):Tx (gT (ie us es 4) c)∧(gT (ie us es 4) c).length≤40:=by have hr:∀c,∀J:c<7,Tx (rd es c):=λc hc=>(h.rd hm hc).1;refine⟨(ap6 hr hu).at hc,KQ hu (λc hc=> ?_) (λk hk=>am8 hu hk) 4 (aN _) c hc⟩;rw[am7 hc];exact(h.rd hm (dG hc (by decide))).2
def Qy (hu:M5 us)(I:Inv us m es ns)(hm:m+1≤10)(hq:∀j,∀J:j<4,q j=aC):
  ∃x1 x2 x3 x4,(Tn us ⟨Ef c es,ns, [],qC c es ns q⟩ x1∧Tn us x1 x2∧Tn us x2 x3∧Tn us x3 x4)∧(x4.es=dEs us c es∧x4.ns=dNs us c es ns∧x4.lg=(Qu us c es).map λk=>eP (vJ (ie us (uL c es) 4) k))∧(∀j,∀J:j<4,x4.q j=aC)∧Inv us (m+1) x4.es x4.ns:=by
 have S0:=stg_0 hu I (gA c (show 0<3 by decide)) (λd hd=>a2z hd) (Hq I.sh) hq;rw[Dq]at S0;obtain⟨x,t,S⟩:=stg_4 hm hu (λd hd=>by rw[←Dq];exact rdN hu (Hq I.sh) hm hd) S0;obtain⟨x1,x2,x3,t1,t2,t3,t4⟩:=t.four;have I':=S.inv hu I;rw[←Dq]at S;exact⟨x1,x2,x3,x,⟨t1,t2,t3,t4⟩,⟨S.e,S.n,S.l⟩,λj hj=>(S.q j hj).trans (Aw hj),I'⟩
end
end
section
abbrev bE (tN:List (List Nat))(k:Nat):Ent:=((aC,k+3),gT tN (k+3))
abbrev uM (us:Nat->fV)(es:List Ent)(j:Nat):List Ent:=es++(dm j).map (bE (ie us es 4))
abbrev Ld (us:Nat->fV)(es:List Ent)(j:Nat):List w6:=(dm j).map (Dm (xO us es))
section
variable {us:Nat->fV}{es:List Ent}{c:Nat->Nat}{j k d:Nat}
def rd0 (h:d<3):rd (jJ c) d=vX (c d):=by
 rcases d with _ | _ | _ | d
 ·exact ap7 (e:=((aC,0),vX (c 0))) rfl ai3
 ·exact ap7 (e:=((aC,1),vX (c 1))) rfl ai3
 ·exact ap7 (e:=((aC,2),vX (c 2))) rfl ai3
 ·exact absurd h (bZ (cL 3 d))
def in0 (h:e∈jJ c):∃i,i<3∧e=((aC,i),vX (c i)):=by
 rcases bc.mp h with rfl | h
 ·exact⟨0,by decide,rfl⟩
 ·rcases bc.mp h with rfl | h
  ·exact⟨1,by decide,rfl⟩
  ·exact⟨2,by decide,aH.mp h⟩
def no0 (h:3≤d):(jJ c).filter (jx d)= []:=by refine oU.mpr λe he q=> ?_;obtain⟨i,hi,rfl⟩:=in0 he;exact cW (aM hi h) (gM q)
def tx0 (d:Nat):Tx (rd (jJ c) d):=by
 by_cases h:d<3
 ·rw[rd0 h];exact ai3
 ·rw[KY (no0 (cV h))];exact a2r
def N0 (hu:M5 us)(h:d<7):Tx (gT (ie us (jJ c) 4) d)∧(gT (ie us (jJ c) 4) d).length≤40:=by refine⟨(ap6 (λc _=>tx0 c) hu).at h,KQ hu (λd hd=> ?_) (λk hk=>am8 hu hk) 4 (aN _) d h⟩;rw[am7 hd,rd0 hd];exact aq ay5 (by decide)
structure Bd (us:Nat->fV)(c:Nat->Nat)(j:Nat):Prop where
 ix:∀e∈uM us (jJ c) j,e.1.2<7
 tx:∀e∈uM us (jJ c) j,Tx e.2
 g:∀e∈uM us (jJ c) j,∀J:e.1.2<3,e.2.length≤3
 len:(uM us (jJ c) j).length≤3+j
 r:∀d,∀J:d<j+3,rd (uM us (jJ c) j) d=gT (ie us (jJ c) 4) d
 no:∀d,∀J:j+3≤d,(uM us (jJ c) j).filter (jx d)= []
 one:∀k,∀J:k<j,(uM us (jJ c) j).filter (jx (k+3))= [bE (ie us (jJ c) 4) k]
def aw4:uM us es (j+1)=uM us es j++ [bE (ie us es 4) j]:=by show es++(dm (j+1)).map _=(es++_)++_;rw[ux,bu,aQ];rfl
def aDm:Ld us es (j+1)=Ld us es j++ [Dm (xO us es) j]:=by show(dm (j+1)).map _=_;rw[ux,bu];rfl
def Hr (hu:M5 us):∀j,∀J:j≤4,Bd us c j:=by
 intro j
 induction j with
 | zero=>
  intro _;have e:uM us (jJ c) 0=jJ c:=bf _;refine⟨λe he=> ?_,λe he=> ?_,λe he _=> ?_,aN 3,λd h=>(am7 h).symm,λd h=>no0 h,λk h=>nxL h⟩
  ·obtain⟨i,hi,rfl⟩:=in0 he
   exact dG hi (by decide)
  ·obtain⟨i,hi,rfl⟩:=in0 he
   exact ai3
  ·obtain⟨i,hi,rfl⟩:=in0 he
   exact ay5
 | succ j ih=>
  intro hj;have B:=ih (bz hj);have h7:=bA hj 3;have n:=N0 (c:=c) hu h7;have ne:∀d,∀J:d≠j+3,(uM us (jJ c) (j+1)).filter (jx d)=(uM us (jJ c) j).filter (jx d):=λd hd=>by
   rw[aw4,fJ,bw (by
    show¬(j+3==d)=au;rw[beq_eq_false_iff_ne.mpr (Ne.symm hd)];exact aR),iW,bf]
  have eq:(uM us (jJ c) (j+1)).filter (jx (j+3))= [bE (ie us (jJ c) 4) j]:=by rw[aw4,fJ,B.no _ (aN _),bD (show jx (j+3) (bE (ie us (jJ c) 4) j)=au from beq_self_eq_true (j+3))];rfl
  refine⟨λe he=> ?_,λe he=> ?_,λe he q=> ?_, ?_,λd h=> ?_,λd h=> ?_,λk h=> ?_⟩
  ·rw[aw4]at he
   rcases bI.mp he with he | he
   ·exact B.ix e he
   ·rw[aH.mp he];exact h7
  ·rw[aw4]at he
   rcases bI.mp he with he | he
   ·exact B.tx e he
   ·rw[aH.mp he];exact n.1
  ·rw[aw4]at he
   rcases bI.mp he with he | he
   ·exact B.g e he q
   ·rw[aH.mp he]at q;exact absurd q (bZ (cL 3 j))
  ·rw[aw4,az];exact dK B.len
  ·by_cases q:d=j+3
   ·subst q
    exact ap7 eq n.1
   ·rw[aK9 (ne d q)]
    exact B.r d (eV (cZ h) q)
  ·rw[ne d (pq h)];exact B.no d (dB h)
  ·by_cases q:k=j
   ·subst q;exact eq
   ·rw[ne _ λz=>q (mF z)]
    exact B.one k (eV (cZ h) q)
def Bd.ok (B:Bd us c j)(hj:j≤4):J3 (uM us (jJ c) j):=⟨B.ix,B.tx,aq B.len (aq (bG hj 3) (by decide))⟩
def Bd.rdx (hu:M5 us)(B:Bd us c j):∀d,∀J:d<7,Tx (rd (uM us (jJ c) j) d):=λd hd=>by
 by_cases q:d<j+3
 ·rw[B.r d q];exact(N0 hu hd).1
 ·rw[KY (B.no d (cV q))];exact a2r
def acw (hu:M5 us)(hj:j≤4):Bq (Ld us es j):=⟨λe he=>by
 obtain⟨k,hk,rfl⟩:=cC.mp he;have k4:=aM (cP.mp hk) hj;have l:=aK (bz k4) 3;exact⟨k4,aM (hu.ok k k4).a l,aM (az2 hu k4) l⟩,by rw[aF,lH];exact aq hj (by decide)⟩
def inv_0 (hu:M5 us):Inv us 7 (uM us (jJ c) 4) (Ld us (jJ c) 4):=by
 have B:=Hr (c:=c) hu 4 (aN _);have l7:∀{k},∀J:k<4,k+3<7:=λh=>bA h 3;have cs:Cs us (uM us (jJ c) 4):=λk hk=>by rw[B.r _ (l7 hk),am8 hu hk];exact at7 (hu.ok k hk) λd hd=>(B.r d (dG hd (l7 hk))).symm
 refine⟨⟨B.ix,B.tx,B.g,λk hk=>⟨_,B.one k hk,(N0 hu (l7 hk)).2⟩,B.len⟩,cs,.refl _,λe he=> ?_⟩;obtain⟨k,hk,rfl⟩:=cC.mp he;have k4:=cP.mp hk;have a7:=dG (hu.ok k k4).a (l7 k4);show((us k).a,yU us (jJ c) k)=((us k).a,yU us (uM us (jJ c) 4) k);rw[am9 hu k4,am9 hu k4,acn hu cs a7,B.r _ a7]
def aob (hu:M5 us)(B:Bd us c j)(hj:j<4):uK (us j) (uM us (jJ c) j)=gT (ie us (jJ c) 4) (j+3)∧xM j (us j) (uM us (jJ c) j) (Ld us (jJ c) j)=Ld us (jJ c) (j+1):=by
 have hX:=B.r;refine⟨(at7 (hu.ok j hj) hX).trans (am8 hu hj).symm, ?_⟩;rw[aDm];show((Ld us (jJ c) j).filter λe=> !isK j e)++ [(j,(us j).a,wY (us j) (rd (uM us (jJ c) j) (us j).a))]=_;rw[hX _ (hu.ok j hj).a,←am9 hu hj,jU.mpr λe he=>by
  obtain⟨k,hk,rfl⟩:=cC.mp he;show(!(k==j))=au;rw[beq_eq_false_iff_ne.mpr (cW (cP.mp hk))];rfl]
def ord_0:((ie us (jJ c) 4).zipIdx.map λp=>(((aC,p.2),p.1):Ent))=uM us (jJ c) 4:=by show[((aC,0),rd (jJ c) 0),((aC,1),rd (jJ c) 1),((aC,2),rd (jJ c) 2),_,_,_,_]=_;rw[rd0 (show 0<3 by decide),rd0 (show 1<3 by decide),rd0 (show 2<3 by decide)];rfl
end
end
section
section
variable {c:Nat->Nat}{sc:List Int}{n j:Nat}{T:Hp}
noncomputable abbrev L5:j7:= [("cells",.ref 1),("rules",.ref 3),("pairs",.ref 9),("sheet",.ref 10),("notes",.ref 11),("log",.ref 13),("errors",.ref 15),("texts",.ref 16),("reads",.ref 20)]
def Zz:U4 [0] T:=⟨λj hj=>by rw[aH.mp hj];exact aM (show 0<16 by decide) (bh _ _),rfl⟩
abbrev H5 (sc:List Int)(c:Nat->Nat)(j:Nat)(T:Hp):Hp:=HM sc (Ei c) (pD c) [] (uM (pD c) (jJ c) j) (Ld (pD c) (jJ c) j) [] q0 T
def st_4:ik gL (n+44) [0] s4 ⟨L4,C4,HM sc (Ei c) (pD c) [] (jJ c) [] [] q0 []⟩=eO .next ⟨L5,C4,H5 sc c 0 (Qt (pD c) (jJ c) 16)⟩:=by have e:=aw1 (n:=n+2) (H:=HM sc (Ei c) (pD c) [] (jJ c) [] [] q0 []) (oi:=9) rfl rfl (λk hk=>Ku hk) (Bd.ok (us:=pD c) (Hr V9 0 (bR _)) (bR _)) (λd _=>tx0 d) V9 (λj hj=>by rw[aH.mp hj];exact show 0<16 by decide);exact p8 (Bo aK8 rfl (rK (d7 rfl) (d7 rfl)) e) (Z9 o5 o5)
def acx:xN (Qt (pD c) (jJ c) 16):=by have r:∀i,∀J:i<25,(V.ref i).lt 25=au:=λi hi=>gO hi;have s:∀(m:Nat)(l:List (List Nat)),V.jN m (l.map sV)=au:=λm l=>O5 (λU=>rfl) l;show(V.jN 25 ((ie (pD c) (jJ c) 4).map sV)&&(V.jN 25 ((lF (jJ c) 0).map sV)&&(V.jN 25 ((lF (jJ c) 1).map sV)&&(V.jN 25 ((lF (jJ c) 2).map sV)&&(((V.ref 21).lt 25&&((V.ref 22).lt 25&&((V.ref 23).lt 25&&((V.ref 24).lt 25&&au))))&&au)))))=au;rw[s,s,s,s];rfl
abbrev LK (o:Option Nat):j7:=("cells",.ref 1)::("rules",.ref 3)::("pairs",.ref 9)::("sheet",.ref 10)::("notes",.ref 11)::("log",.ref 13)::("errors",.ref 15)::("texts",.ref 16)::("reads",.ref 20)::Av "k" nV o
def a3b (o:Option Nat)(j:Nat):I6 gL (n+1) lk (.loc "k") (nV j) ⟨LK o,C,H⟩=eO () ⟨LK (aa j),C,H⟩:=by cases o<;>exact o5
def aC4 (ht:xN T)(hj:j<4)(o:Option Nat):Z8 gL (n+80) [0] (.loc "k") art (nV j) ⟨LK o,C4,H5 sc c j T⟩=eO .next ⟨LK (aa j),C4,H5 sc c (j+1) T⟩:=by have B:=Hr (c:=c) (us:=pD c) V9 j (bz hj);have k7:=bA hj 3;have n1:=acw (es:=jJ c) (us:=pD c) V9 (bz hj);have n2:=acw (es:=jJ c) (us:=pD c) V9 hj;have bm:=aob V9 B hj;have em:=aO3 (n:=n+8) (Rx (sc:=sc) (cs:=Ei c) (us:=pD c) (er:= []) (es:=uM (pD c) (jJ c) j) (lg:= []) (q:=q0) Zz ht) (ai1 (B.ok (bz hj)) n1 (B.rdx V9)) (Ku hj) (λz=>absurd (z▸fc hj 4:12<4+4) (by decide)) (V9.ok j hj) hj (by rw[bm.2];exact n2.len) rfl;rw[bm.1,bm.2]at em;have W:=ai1 (sc:=sc) (cs:=Ei c) (us:=pD c) (er:= []) (lg:= []) (q:=q0) (T:=T) (B.ok (bz hj)) n2 (B.rdx V9);have ea:=aT8 (n:=n+58) (Rx Zz ht) W.sh (an4 (b:=aC) k7) (aq7 k7) (N0 (us:=pD c) (c:=c) V9 k7).1.vl (by rw[aF];exact aq W.eo.len (by decide)) rfl;rw[show(uM (pD c) (jJ c) j).map eP++ [(jB aC (j+3),toS (gT (ie (pD c) (jJ c) 4) (j+3)))]=(uM (pD c) (jJ c) (j+1)).map eP from by rw[aw4,bu (l₁:=uM (pD c) (jJ c) j)];rfl]at ea;refine Y6 (a3b o j) (rM (J5 (p6 (d7 rfl) (J2 W.sh.inst asf) (rK (o9 j6 (o9 (d7 rfl) j6 (add_n)) (av9 (aq (bz (bA hj 4)) (by decide)))) (Bo abj rfl (Zg (d7 rfl) (d7 rfl) (O1 (d7 rfl) (d7 rfl) (atj hj)) (ay9 hj rfl)) em)) j4 ea)))
def st_5 (ht:xN T):ik gL (n+81) [0] s5 ⟨L5,C4,H5 sc c 0 T⟩=eO .next ⟨LK (aa 3),C4,H5 sc c 4 T⟩:=
 Gx (vs:= [nV 0,nV 1,nV 2,nV 3]) rfl (T4 (aC4 ht (by decide) aB) (T4 (aC4 ht (by decide) _) (T4 (aC4 ht (by decide) _) (T4 (aC4 ht (by decide) _) rfl))))
end
end
section
section
variable {c:Nat->Nat}{sc:List Int}{n j k:Nat}{T:Hp}
abbrev T5 (c:Nat->Nat):Hp:=Qt (pD c) (jJ c) 16
abbrev T6 (c:Nat->Nat):Hp:=T5 c++ [rC (uM (pD c) (jJ c) 4)]
abbrev T7 (c:Nat->Nat):Hp:=T6 c++ [zU (Ld (pD c) (jJ c) 4)]
noncomputable abbrev L6:j7:= [("cells",.ref 1),("rules",.ref 3),("pairs",.ref 9),("sheet",.ref 10),("notes",.ref 11),("log",.ref 13),("errors",.ref 15),("texts",.ref 16),("reads",.ref 20),("k",.int 3),("order",.ref 25)]
noncomputable abbrev L7:j7:= [("cells",.ref 1),("rules",.ref 3),("pairs",.ref 9),("sheet",.ref 10),("notes",.ref 11),("log",.ref 13),("errors",.ref 15),("texts",.ref 16),("reads",.ref 20),("k",.int 3),("order",.ref 25),("noted",.ref 26)]
def ktE:Option (List Nat×Nat)->j7
 | none=> []
 | some p=> [("k",.int p.2),("text",sV p.1)]
def a3c (o:Option (List Nat×Nat))(p:List Nat×Nat):I6 gL (n+2) lk (.tup [(.loc "k"),Z7]) (.tup [.int p.2,sV p.1]) ⟨ktE o,C,H⟩=eO () ⟨ktE (aa p),C,H⟩:=by cases o<;>exact Z9 o5 o5
def st_6:ik gL (n+20) [0] s6 ⟨LK (aa 3),C4,H5 sc c 4 (T5 c)⟩=eO .next ⟨L6,C4,H5 sc c 4 (T6 c)⟩:=by
 have hi:vO (o8 gL (n+18)) ⟨LK (aa 3),C4, [0]⟩ (.za Eb) (H5 sc c 4 (T5 c))=ok (((ie (pD c) (jJ c) 4).zipIdx.map λp=>V.tup [.int p.2,sV p.1]), [16]) (H5 sc c 4 (T5 c)):=aI4 (l:=(ie (pD c) (jJ c) 4).map sV) (d7 rfl) rfl;have e:=JV (elt:= .tup [e_31,Z7]) (uz:= []) (λp:List Nat×Nat=>V.tup [.int p.2,sV p.1]) (λp=>aa (pV (eP ((aC,p.2),p.1)))) ktE rfl hi rfl (show 7≤1000 by decide) (λp hp o acc ha=>by
  have p7:=(aL.mp (xY.mp hp)).1;exact nU (a3c o p) S9 (V5 (rK (aai (b:=aC) p7 (d7 rfl)) (d7 rfl))) (R1 rfl ha))
 rw[Q3,show((ie (pD c) (jJ c) 4).zipIdx.map λp=>pV (eP ((aC,p.2),p.1)))=((uM (pD c) (jJ c) 4).map eP).map pV from by rw[←ord_0,bF,bF];rfl]at e;exact p8 e o5
noncomputable def koE (pr:Nat->Nat×Nat):Option Nat->j7
 | none=> []
 | some k=> [("k",.int k),("one",.int (pr k).1),("other",.int (pr k).2)]
def a3d {pr:Nat->Nat×Nat}(h:H[i]?=aa (.list [.int (pr k).1,.int (pr k).2]))(o:Option Nat):I6 gL (n+3) lk (.tup [(.loc "k"),(.tup [X7,Gs])]) (.tup [.int k,.ref i]) ⟨koE pr o,C,H⟩=eO () ⟨koE pr (aa k),C,H⟩:=by
 have hi:itemsOf H (.ref i)=aa [.int (pr k).1,.int (pr k).2]:=by show opt (listAt H (.ref i)) (λp=>aa p.2)=_;rw[R3 h];rfl
 cases o<;>exact Z9 o5 (d9 hi (m9 rfl rfl))
def aDn (hk:k<4):(H5 sc c 4 (T6 c))[21+k]?=aa (.list [.int (xO (pD c) (jJ c) k).1,.int (xO (pD c) (jJ c) k).2]):=by
 rcases k with _ | _ | _ | _ | k
 ·rfl
 ·rfl
 ·rfl
 ·rfl
 ·exact absurd hk (bZ (cL 4 k))
def st_7:ik gL (n+20) [0] s7 ⟨L6,C4,H5 sc c 4 (T6 c)⟩=eO .next ⟨L7,C4,H5 sc c 4 (T7 c)⟩:=by
 have hi:vO (o8 gL (n+18)) ⟨L6,C4, [0]⟩ (.za (.loc "reads")) (H5 sc c 4 (T6 c))=ok ((dm 4).map λ(k:Nat)=>V.tup [.int k,.ref (21+k)], [20]) (H5 sc c 4 (T6 c)):=aI4 (l:= [.ref 21,.ref 22,.ref 23,.ref 24]) (d7 rfl) rfl;have e:=JV (elt:= .tup [e_2,e_40]) (uz:= []) (λk:Nat=>V.tup [.int k,.ref (21+k)]) (λk=>aa (pV (nP (Dm (xO (pD c) (jJ c)) k)))) (koE (xO (pD c) (jJ c))) rfl hi rfl (show 4≤1000 by decide) (λk hk o acc ha=>by
  have k4:=cP.mp hk;have l:=Hl (us:=pD c) (es:=jJ c) (λd _=>tx0 d) V9 k4;exact nU (a3d (f9 (aDn k4)) o) S9 (V5 (rK (ay9 k4 rfl) (o9 (ap2 l.1 (d7 rfl)) (ap2 l.2 (d7 rfl)) (aK5 _ _)))) (R1 rfl ha))
 rw[Q3,show((dm 4).map λk=>pV (nP (Dm (xO (pD c) (jJ c)) k)))=((Ld (pD c) (jJ c) 4).map nP).map pV from by rw[bF,bF];rfl]at e;exact p8 e o5
end
end
section
structure Rd (H:Hp)(n:Nat)(v:V)(d:wK):Prop where
 py:R4 H n v=aa d
 sf:km d d=au
structure Af (H:Hp)(n:Nat)(vs:List V)(ds:List wK):Prop where
 py:vs.mapM (R4 H n)=aa ds
 sf:rO ds ds=au
section
variable {α:Type}
def az3:Rd H (n+1) (.int k) (.int k):=⟨rfl,beq_self_eq_true k⟩
def aoc:Rd H (n+1) (.bool b) (.bool b):=⟨rfl,by cases b<;>rfl⟩
def aDp:Rd H (n+1) .none .none:=⟨rfl,rfl⟩
def ad6 (h:bC s=au):Rd H (n+1) (.str s) (.str s):=⟨m9 h rfl,beq_self_eq_true s⟩
def Z4:Af H n [] []:=⟨rfl,rfl⟩
def z9 (h:Rd H n v d)(k:Af H n vs ds):Af H n (v::vs) (d::ds):=⟨by refine aO oM (aO h.py (aO k.py ?_));rfl,by show(km d d&&rO ds ds)=au;rw[h.sf,k.sf];rfl⟩
def acy {f:α->V}{g:α->wK}:∀{l:List α},∀J:(∀x∈l,Rd H n (f x) (g x)),Af H n (l.map f) (l.map g):=by
 intro zz
 induction zz with
 | nil=>
  intro _;exact Z4
 | cons x l ih=>
  intro h;exact z9 (h x (.head _)) (ih λy hy=>h y (.tail _ hy))
def acz (h:Af H n vs ds):Rd H (n+1) (.tup vs) (.tuple ds):=⟨by show(vs.mapM (R4 H n)).map wD=_;refine aO h.py ?_;rfl,h.sf⟩
def J8 (hi:H[i]?=aa (.list vs))(h:Af H n vs ds):Rd H (n+1) (.ref i) (.list ds):=⟨d9 hi (d9 rfl (by refine aO h.py ?_;rfl)),h.sf⟩
def aDq (h:Rd H 8 v d)(k:Rd H 8 w d):K7 H .Eq v w=aa au:=d9 h.py (d9 k.py (congrArg aa h.sf))
def ada (h:Rd H 8 v d)(k:Rd H 8 w d):K7 H .NotEq v w=aa aC:=by show(K7 H .Eq v w).map (!·)=_;refine aO (aDq h k) ?_;rfl
def aq8 {ps:List (aJ×aJ)}(h:∀p∈ps,bC p.1=au∧bC p.2=au):Af H (n+2) (ps.map pV) (ps.map λp=>wD [.str p.1,.str p.2]):=acy λp hp=>acz (z9 (ad6 (h p hp).1) (z9 (ad6 (h p hp).2) Z4))
end
section
variable {es:List Ent}{ns:List w6}{L:j7}{C:j7}{H K:Hp}{n i j si ni sj nj:Nat}{lk:List Nat}
def Dr (h:J3 es):∀p∈es.map eP,bC p.1=au∧bC p.2=au:=λp hp=>by obtain⟨e,he,rfl⟩:=cC.mp hp;exact⟨at5 (h.ix e he),(h.tx e he).ok⟩
def a3e:((dm 7).all λa=>(dm 7).all λb=>bC (toS [97+a,97+b]))=au:=by kernel_rfl
def adb (h:Bq ns):∀p∈ns.map nP,bC p.1=au∧bC p.2=au:=λp hp=>by obtain⟨e,he,rfl⟩:=cC.mp hp;have o:=h.ok e he;exact⟨at5 (bA o.k 3),bj.mp (bj.mp a3e _ (cP.mpr o.a)) _ (cP.mpr o.b)⟩
def a3f:gL.glob "_law_look"=aa (.gl (.ref 409)):=rfl
abbrev lkG (ps:List (aJ×aJ)):Hp:= [.list (ps.map pV++ [pV ("a","x")]),.list (ps.map pV)]
def aC5 {φ:Fm}(cl:Cl φ.lk H)(h:O2 H i j ps)(hx:φ.loc.lookup x=aa (.ref i)):dD gL (n+21) φ (.call (.jq "_law_look") [(.loc x)] [] []) H=ok (.ref (H.length+1)) (H++lkG ps):=Bo a3f rfl (mH (d7 hx)) (Qk cl h)
def Le {ps:List (aJ×aJ)}:(H++lkG ps)[H.length+1]?=aa (.list (ps.map pV)):=ank
def auj (cl:Cl lk H):Cl lk (H++lkG ps):=cl.app (by
 show(V.jN _ (ps.map pV++ [pV ("a","x")])&&(V.jN _ (ps.map pV)&&au))=au;rw[show ps.map pV++ [pV ("a","x")]=(ps++ [(("a","x"):aJ×aJ)]).map pV from by rw[bu];rfl,S7,S7];rfl)
def st_8 {oi ni:Nat}{q:Nat->Bool}(cl:Cl [0] (HM sc cs us er es ns lg q T))(eo:J3 es)(no:Bq ns)(hr:∀c,∀J:c<7,Tx (rd es c))(hs:L.lookup ("sheet":aJ)=aa (.ref 10))(hn:L.lookup ("notes":aJ)=aa (.ref 11))(ho:L.lookup ("order":aJ)=aa (.ref oi))(hno:L.lookup ("noted":aJ)=aa (.ref ni))
  (h1:(HM sc cs us er es ns lg q T)[oi]?=aa (rC es)) (h2:(HM sc cs us er es ns lg q T)[ni]?=aa (zU ns)):∃G,ik gL (n+30) [0] s8 ⟨L,C,HM sc cs us er es ns lg q T⟩=eO .next ⟨L,C,HM sc cs us er es ns lg q T++G⟩:=by
 have W:=ai1 (sc:=sc) (cs:=cs) (us:=us) (er:=er) (lg:=lg) (q:=q) (T:=T) eo no hr;have e1:=aC5 (n:=n+5) (φ:=⟨L,C, [0]⟩) cl W.sh hs;have e2:=aC5 (n:=n+5) (φ:=⟨L,C, [0]⟩) (auj cl (ps:=es.map eP)) (Ha W.nt) hn;have c1:=ada (J8 (Le) (aq8 (Dr eo))) (J8 (f9 h1) (aq8 (Dr eo)));have c2:=ada (J8 (Le (H:=HM sc cs us er es ns lg q T++lkG (es.map eP))) (aq8 (adb no))) (J8 (f9 (f9 h2)) (aq8 (adb no)));refine⟨lkG (es.map eP)++lkG (ns.map nP), ?_⟩;rw[←aQ];exact M6 (bOr (t8 (v7 e1 (d7 ho) c1)) (t8 (v7 e2 (d7 hno) c2))) R7
end
end
section
section
variable {H:Hp}{ps:List (aJ×aJ)}{a i j n p z:Nat}{lk:List Nat}
def ade (h:H[a]?=aa (lB z ps))(hz:ps.length≤450)(hl:lk.contains a=aC):o6 gL (n+12) lk 322 [.ref a] [] [] H=ok (.ref H.length) (H.set a (lB z [])++ [.list (ps.map pV),.list []]):=by
 have hd:jM (ps.map pV) (aa ((0:Nat):Int)) aB aB=ps.map pV:=by refine aO (ap1 (aq6 (bR _)) (bR _) (aN _)) ?_;rw[qU,ur,tB]
 have ht:Y8 (ps.map pV) [] (aa ((0:Nat):Int)) aB=([]:List (aJ×aJ)).map pV:=by delta Y8;refine aO (aq6 (bR _)) ?_;rw[lK,zY,bf,iU,show(max ((0:Nat):Int) (((ps.map pV).length:Nat):Int)).toNat=(ps.map pV).length from congrArg mQ (mR (fM.mpr (bR _))),pO];rfl
 have e1:Ez H (.ref a) (.int (0:Nat)) .none .none=ok (.ref H.length) (H++ [.list (ps.map pV)]):=aO (Kc h rfl rfl rfl (λq=>iz q)) (aO hd rfl);have e2:=am5 (x:= .int (0:Nat)) rfl n8 (show(H++ [m6.list (ps.map pV)]++ [m6.list []])[a]?=aa (lB z ps) from f9 (f9 h)) (aq hz (by decide)) hl;rw[ht,aQ,U9 ((aL.mp h).1)]at e2;exact w7 rfl rfl rfl rfl
  (m7 (p8 (Ao (d7 rfl) (d7 rfl) j6 j6 e1) o5) (m7 (p8 (Q8 j4) (Zn (d7 rfl) (d7 rfl) j6 (by rw[aQ];exact e2))) (M4 (R0 (d7 rfl))))) (aj7 aj8)
def Qz (o:Option (aJ×aJ)):K7 H .IsNot (Aq .none o) .none=aa o.isSome:=by cases o<;>rfl
def adf (h:O2 H i j ps)(hl:bQ nm=lm)(hk:Ed lm)(zT:∀p∈ps,Rt p.1):o6 gL (n+24) lk 116 [.ref i,.str nm] [] [] H=ok (.bool (ps.find? λp=>bQ p.1==lm).isSome) H:=
 w7 rfl rfl rfl rfl (M4 (R0 (v7 (p6 (d7 rfl) (J2 h.inst JW) (mH (d7 rfl)) j4 (aF2 h hl hk zT)) j6 (Qz _)))) (H7 rfl)
def aDr:gL.bW 182 "__contains__"=aa 116:=rfl
def a3g (h1:dD G n φ e1 H=ok x H1)(h2:dD G n φ e2 H1=ok y H2)(ho:V1 G H2 y ("__contains__":aJ)=aa f)(k:o6 G n φ.lk f [y,x] [] [] H2=ok (.bool b) H3):dD G (n+1) φ (.cmp .In e1 e2) H=ok (.bool b) H3:=j9 h1 (j9 h2 (by
 show(match fu au (V1 G H2 y ("__contains__":aJ)) with | some f=>jf (o6 G n φ.lk f [y,x] [] [] H2) (λu H=>opt (boolOf u) λb=>ok (V.bool b) H) | none=>opt (K7 H2 .In x y) λc=>ok (V.bool c) H2)=_;rw[ho];exact j9 k rfl))
noncomputable abbrev asks:List aJ:= ["aAa","AaA","aAA"]
abbrev QB (s:aJ)(p:Nat):aJ:=Ib s aB (aa ((p+1:Nat):Int)) aB
def aod:(asks.all λs=>(dm 3).all λp=>(bQ (QB s p)==jB aC p)&&room (QB s p).length)=au:=rfl
def aI5 (hs:s∈asks)(hp:p<3):bQ (QB s p)=jB aC p∧room (QB s p).length=au:=by have:=j8 (bj.mp (bj.mp aod s hs) p (cP.mpr hp));exact⟨gM this.1,this.2⟩
def a3h (hs:s∈asks)(hp:p<3)(he:dD gL n φ e H=ok (.int (p+1:Nat)) H)(hn:n=m+1):dD gL (n+1) φ (.vC (.cst (.str s)) e_6 e e_6) H=ok (.str (QB s p)) H:=by subst hn;refine Ao j6 j6 he j6 ?_;exact d9 (m9 (aI5 hs hp).2 rfl) rfl
end
end
section
section
variable {sc:List Int}{cs:List Nat}{us:Nat->fV}{er:List aJ}{es xs:List Ent}{ns:List w6}{lg:List (aJ×aJ)}{q:Nat->Bool}{T:Hp}{lk:List Nat}{L C:j7}{s:aJ}{oi ni mi n:Nat}
abbrev g3 (k:Nat)(es:List Ent)(ns:List w6)(s:aJ)(oi ni:Nat):Hp:= [m6.list ((es.map eP).map pV++ [pV ("a","x")]),.list ((es.map eP).map pV),.list ((ns.map nP).map pV++ [pV ("a","x")]),.list ((ns.map nP).map pV),.list [.str s,.ref (k+1),.ref (k+3),.ref 14],.list [],.list [.str s,.ref oi,.ref ni,.ref (k+5)]]
def ck_3 (cl:Cl lk (HM sc cs us er es ns lg q T))(eo:J3 es)(no:Bq ns)(hr:∀c,∀J:c<7,Tx (rd es c))(so:bC s=au)(hq:wS q= [])
  (a1:L.lookup ("sheet":aJ)=aa (.ref 10)) (a2:L.lookup ("notes":aJ)=aa (.ref 11)) (a3:L.lookup ("order":aJ)=aa (.ref oi)) (a4:L.lookup ("noted":aJ)=aa (.ref ni)) (a5:L.lookup ("said":aJ)=aa (.str s)) (a6:L.lookup ("due":aJ)=aa (.str s)) (a7:C.lookup ("waits":aJ)=aa (.ref 14))
  (h1:(HM sc cs us er es ns lg q T)[oi]?=aa (rC es)) (h2:(HM sc cs us er es ns lg q T)[ni]?=aa (zU ns)):∃G,ik gL (n+30) lk (ak4.getD 2 .bad) ⟨L,C,HM sc cs us er es ns lg q T⟩=eO .next ⟨L,C,HM sc cs us er es ns lg q T++G⟩∧H9 (HM sc cs us er es ns lg q T++G).length G=au:=by
 have W:=ai1 (sc:=sc) (cs:=cs) (us:=us) (er:=er) (lg:=lg) (q:=q) (T:=T) eo no hr;have hw:(HM sc cs us er es ns lg q T)[14]?=aa (.list []):=congrArg (λl=>aa (m6.list l)) (Hb hq);generalize HM sc cs us er es ns lg q T=K at cl W hw h1 h2;have e1:=aC5 (n:=n+5) (φ:=⟨L,C,lk⟩) cl W.sh a1;have e2:=aC5 (n:=n+5) (φ:=⟨L,C,lk⟩) (auj cl (ps:=es.map eP)) (Ha W.nt) a2;have b1:=Le (H:=K) (ps:=es.map eP);have b2:=Le (H:=K++lkG (es.map eP)) (ps:=ns.map nP);have r1:=λH=>aq8 (n:=4) (H:=H) (Dr eo);have r2:=λH=>aq8 (n:=4) (H:=H) (adb no);have f1:=Q8 (Zg (d7 a5) e1 e2 (Q4 a7));have f2:=Q8 (n:=n+26) (G:=gL) (φ:=⟨L,C,lk⟩) (H:=K++lkG (es.map eP)++lkG (ns.map nP)++ [m6.list [.str s,.ref (K.length+1),.ref ((K++lkG (es.map eP)).length+1),.ref 14]]) (Zg (d7 a6) (d7 a3) (d7 a4) (Q8 j4));have c:=ada (J8 (f9 (f9 n8)) (z9 (ad6 so) (z9 (J8 (f9 (f9 (f9 (f9 b1)))) (r1 _)) (z9 (J8 (f9 (f9 (f9 b2))) (r2 _)) (z9 (J8 (f9 (f9 (f9 (f9 (f9 hw))))) Z4) Z4))))) (J8 n8 (z9 (ad6 so) (z9 (J8 (f9 (f9 (f9 (f9 (f9 h1))))) (r1 _)) (z9 (J8 (f9 (f9 (f9 (f9 (f9 h2))))) (r2 _)) (z9 (J8 (f9 n8) Z4) Z4)))));have e:=M6 (bd:= [.ret (.cst (.bool aC))]) (t8 (v7 f1 f2 c)) R7;have hoi:=(aL.mp h1).1;have hni:=(aL.mp h2).1;have hwi:=(aL.mp hw).1;refine⟨g3 K.length es ns s oi ni, ?_, ?_⟩
 ·simp only[aQ,az]at e
  exact e
 ·have el:∀ps:List (aJ×aJ),∀m,V.jN m (ps.map pV++ [pV ("a","x")])=au:=λps m=>by
   rw[show ps.map pV++ [pV ("a","x")]=(ps++ [(("a","x"):aJ×aJ)]).map pV from by rw[bu];rfl,S7]
  have l:∀i,∀J:i<K.length+7,(V.ref i).lt (K.length+7)=au:=λi hi=>gO hi;have l0:∀i,∀J:i<K.length,(V.ref i).lt (K.length+7)=au:=λi hi=>l i (aM hi (bh _ _));simp only[az];show(V.jN (K.length+7) (((es.map eP).map pV)++ [pV ("a","x")])&&(V.jN (K.length+7) ((es.map eP).map pV)&&(V.jN (K.length+7) (((ns.map nP).map pV)++ [pV ("a","x")])&&(V.jN (K.length+7) ((ns.map nP).map pV)&&((au&&((V.ref (K.length+1)).lt (K.length+7)&&((V.ref (K.length+3)).lt (K.length+7)&&((V.ref 14).lt (K.length+7)&&au))))&&(au&&((au&&((V.ref oi).lt (K.length+7)&&((V.ref ni).lt (K.length+7)&&((V.ref (K.length+5)).lt (K.length+7)&&au))))&&au)))))))=au;rw[el,el,S7,S7,l _ (fc (by decide) _),l _ (fc (by decide) _),l0 14 hwi,l0 _ hoi,l0 _ hni,l _ (fc (by decide) _)];rfl
end
end
section
section
variable {sc:List Int}{cs:List Nat}{us:Nat->fV}{er:List aJ}{es xs:List Ent}{ns:List w6}{q:Nat->Bool}{T K:Hp}{lk:List Nat}{L C:j7}{s:aJ}{mi mt n:Nat}
noncomputable abbrev eZ (e:Ent):Nat:=e.1.2+1+e.2.length
structure QC (xs:List Ent):Prop where
 ok:J3 xs
 z:∀e∈xs,e.2.length≤40
def auk (h:QC xs):∀e∈xs,eZ e≤47:=λe he=>dg (h.ok.ix e he) (h.z e he)
def a3i (h:QC xs):(xs.map eZ).sum≤470:=aq (ai0 xs (auk h)) (dh 47 h.ok.len)
def adg:G6 (xs.map eP)=(xs.map eZ).sum:=by show((xs.map eP).map λp=>p.1.length+p.2.length).sum=_;rw[bF];refine congrArg List.sum (qH λe _=> ?_);show(jB e.1.1 e.1.2).length+(toS e.2).length=e.1.2+1+e.2.length;rw[X3,J1]
def a3j (hK:K[mi]?=aa (rC xs))(h:QC xs)(hm:L.lookup ("made":aJ)=aa (.ref mi))(ju:∀j∈lk,j<K.length):dD gL (n+9) ⟨L,C,lk⟩ (.call (.jq "sum") [(.comp (.bin .Add e_4 (.call V3 [Z7] [] [])) e_8 (.loc "made") [] [])] [] []) K=ok (.int ((xs.map eZ).sum:Nat)) (K++ [Eh (xs.map eZ)]):=by have hmi:=(aL.mp hK).1;have e:=JV (n:=n+7) (φ:=⟨L,C,lk⟩) (elt:= .bin .Add e_4 (.call V3 [Z7] [] [])) (uz:= []) (it:= .loc "made") (λe:Ent=>pV (eP e)) (λe=>aa (nV (eZ e))) ntE rfl (j9 (d7 hm) (d9 (d9 hK rfl) (by rw[bF];rfl))) (oU.mpr λU U q=>qI q) (aq h.ok.len (by decide)) (λe he o acc ha=>nU (ap5 o e) S9 (o9 (Q9 O4 (d7 rfl) (ai2 (h.ok.ix e he))) (Q9 O4 (d7 rfl) (len_str (aq (h.z e he) (by decide)))) add_n) (R1 (aa4 (cW hmi) (KC ju (aN _))) ha));rw[Q3,show(xs.map λe=>nV (eZ e))=(xs.map eZ).map nV from by rw[bF];rfl]at e;refine Q9 atw e (atx n8 (by rw[aF];exact aq h.ok.len (by decide)) λx hx=> ?_);obtain⟨y,hy,rfl⟩:=cC.mp hx;exact aq (auk h y hy) (by decide)
abbrev emV:V:=pV ("","")
def aul:bC ""=au:=by kernel_rfl
abbrev Lf (xs:List Ent):Hp:= [.list ((xs.map eP).map pV),.list []]
abbrev v4 (i:Nat)(xs:List Ent):List V:= [.int xs.length,.int (1+(xs.map eZ).sum:Nat),.ref i,emV,.int 1]
def ck_4 (h:QC xs)(ju:U4 lk T)(a1:L.lookup ("log":aJ)=aa (.ref 13))(a2:L.lookup ("made":aJ)=aa (.ref (mt+16)))(h3:T[mt]?=aa (rC xs)):
  ik gL (n+30) lk (ak4.getD 3 .bad) ⟨L,C,HM sc cs us er es ns (xs.map eP) q T⟩=eO .next ⟨L,C,HM sc cs us er es ns [] q (T++(Lf xs++([m6.list (v4 (T.length+16) xs)]++([Eh (xs.map eZ)]++ [m6.list (v4 (mt+16) xs)]))))⟩:=by
 have sz:GD 1 (xs.map eP):=⟨by decide,by rw[adg];exact aq (a3i h) (by decide),by rw[aF];exact aq h.ok.len (by decide)⟩;have s0:GD 1 []:=⟨by decide,show 0≤1000 by decide,show 0≤400 by decide⟩;have e1:=ad1 (n:=n+15) (lk:=lk) (H:=HM sc cs us er es ns (xs.map eP) q T) (a:=13) (z:=1) (ps:=xs.map eP) rfl;have e2:=at3 (H:=HM sc cs us er es ns (xs.map eP) q T) (a:=13) (z:=1) rfl sz;rw[adg]at e2;rw[aF]at e1;have e3:=ade (n:=n+13) (H:=HM sc cs us er es ns (xs.map eP) q T) rfl (by rw[aF];exact aq h.ok.len (by decide)) ju.n11;have e4:=aU0 (n:=n+5) (lk:=lk) (H:=HM sc cs us er es ns [] q (T++Lf xs)) (a:=13) (z:=1) rfl;have e5:=at3 (H:=HM sc cs us er es ns [] q (T++Lf xs)) (a:=13) rfl s0;have f1:dD gL (n+27) ⟨L,C,lk⟩ e_29 (HM sc cs us er es ns (xs.map eP) q T)=ok (.ref ((T++Lf xs).length+16)) (HM sc cs us er es ns [] q (T++Lf xs++ [m6.list (v4 (T.length+16) xs)])):=
  Q8 (H1:=HM sc cs us er es ns [] q (T++Lf xs)) (sE5 (p6 (d7 a1) (J7 (z:=1) (ps:=xs.map eP) rfl De Dg) j4 j4 e1) (Q9 O4 (d7 a1) (U6 rfl e2)) (p6 (d7 a1) (J7 (z:=1) rfl aBj aBm) j4 j4 e3) (p6 (d7 a1) (J7 rfl Df av1) j4 j4 e4) (Q9 O4 (d7 a1) (U6 rfl e5)))
 have h3':∀G:Hp,(HM sc cs us er es ns [] q (T++G))[mt+16]?=aa (rC xs):=λG=>(f9 h3);rw[aQ]at f1;have hl1:∀G:Hp,wG gL (o8 gL (n+25)) lk "len" (.ref (mt+16)) (HM sc cs us er es ns [] q (T++G))=ok (.int xs.length) (HM sc cs us er es ns [] q (T++G)):=λG=>U6 (ao8 (h3' G)) ((ao6 (h3' G)).trans (by rw[aF,aF]));have e6:=a3j (n:=n+16) (C:=C) (K:=HM sc cs us er es ns [] q (T++(Lf xs++ [m6.list (v4 (T.length+16) xs)]))) (h3' _) h a2 (λj hj=>aM (ju.lt j hj) (by
  show 16+T.length≤(T++_).length+16;rw[az,dH];exact aK (bh _ _) 16))
 have f2:dD gL (n+27) ⟨L,C,lk⟩ e_25 (HM sc cs us er es ns [] q (T++(Lf xs++ [m6.list (v4 (T.length+16) xs)])))=ok (.ref ((T++(Lf xs++ [m6.list (v4 (T.length+16) xs)])++ [Eh (xs.map eZ)]).length+16)) (HM sc cs us er es ns [] q (T++(Lf xs++ [m6.list (v4 (T.length+16) xs)])++ [Eh (xs.map eZ)]++ [m6.list (v4 (mt+16) xs)])):=
  Q8 (sE5 (Q9 O4 (d7 a2) (hl1 _)) (o9 j6 e6 (add_n)) (d7 a2) (V5 (rK j6 j6)) j6)
 have rv:∀(H:Hp) i,∀J:H[i]?=aa (.list ((xs.map eP).map pV)),Af H 7 (v4 i xs) [.int xs.length,.int (1+(xs.map eZ).sum:Nat),.list ((xs.map eP).map λp=>wD [.str p.1,.str p.2]),.tuple [.str "",.str ""],.int 1]:=λH i hi=>z9 az3 (z9 az3 (z9 (J8 hi (aq8 (Dr h.ok))) (z9 (acz (z9 (ad6 aul) (z9 (ad6 aul) Z4))) (z9 az3 Z4))));have c:=ada (H:=HM sc cs us er es ns [] q (T++(Lf xs++ [m6.list (v4 (T.length+16) xs)])++ [Eh (xs.map eZ)]++ [m6.list (v4 (mt+16) xs)])) (v:= .ref ((T++Lf xs).length+16)) (w:= .ref ((T++(Lf xs++ [m6.list (v4 (T.length+16) xs)])++ [Eh (xs.map eZ)]).length+16))
  (J8 (f9 (f9 (by rw[←aQ];exact n8))) (rv _ _ (f9 (f9 ay6))))
  (J8 n8 (rv _ _ (f9 (f9 (f9 h3)))))
 have e:=M6 (bd:= [.ret (.cst (.bool aC))]) (t8 (v7 f1 f2 c)) R7;simp only[aQ]at e;exact e
end
end
section
section
variable {es:List Ent}{K:Hp}{lk:List Nat}{L C:j7}{oi ti n c p:Nat}
def aDs (hK:K[oi]?=aa (rC es))(eo:J3 es)(ju:∀j∈lk,j<K.length)(ho:L.lookup ("order":aJ)=aa (.ref oi))(hc:(C.filter λp=>(["cell"]:List aJ).contains p.1)=([("cell",.int c)]:j7)):
  dD gL (n+12) ⟨L,C,lk⟩ (.comp Z7 e_8 X8 [(.cmp .Eq e_4 e_24)] ["cell"]) K=ok (.ref K.length) (K++ [.list ((lF es (pC c)).map sV)]):=by
 have hoi:=(aL.mp hK).1;rw[←abu];refine JV (λe:Ent=>pV (eP e)) (λe=>if jx (pC c) e=au then aa (sV e.2) else aB) ntE rfl (j9 (d7 ho) (d9 (d9 hK rfl) (by rw[bF];rfl))) hc (aq eo.len (by decide)) λe he o acc ha=> ?_;have sH:dD gL (n+10) ⟨ntE (aa e), [("cell",.int c)], [oi]++lk⟩ (.cmp .Eq e_4 e_24) (K++ [.list acc])=ok (.bool (jx (pC c) e)) (K++ [.list acc]):=
  v7 (Q9 O4 (d7 rfl) (ai2 (eo.ix e he))) (o9 (o9 (Q4 rfl) j6 (R9 3 (by decide))) j6 (add_n)) eqk
 cases q:jx (pC c) e with
 | true=>
  rw[q]at sH;exact aO (bN rfl) (nU (ap5 o e) (ao9 (t8 sH)) (d7 rfl) (R1 (aa4 (cW hoi) (KC ju (aN _))) ha))
 | false=>
  rw[q]at sH;refine aO (bk aR) ?_;refine(wX (ap5 o e) (ap0 (t8 sH))).trans ?_;show _=eO () ⟨_,_,K++ [.list (acc++ [])]⟩;rw[bf]
def aV6:(lF es p= []∧es.find? (jx p)=aB)∨∃e r,lF es p=e.2::r∧es.find? (jx p)=aa e:=by
 show((es.filter (jx p)).map (·.2)= []∧_)∨∃e r,(es.filter (jx p)).map (·.2)=_∧_;rw[←aee];cases es.filter (jx p) with
 | nil=>exact .inl ⟨rfl,rfl⟩
 | cons e r=>exact .inr ⟨e,_,rfl,rfl⟩
def aDt (x:V):((lF es p).map sV++ [x])[0]?=aa (Aq x ((es.find? (jx p)).map eP)):=by rcases aV6 with⟨h1,h2⟩ | ⟨e,r,h1,h2⟩<;>rw[h1,h2]<;>rfl
def aSb:(!((lF es p).map toS== []))=((es.find? (jx p)).map eP).isSome:=by rcases aV6 with⟨h1,h2⟩ | ⟨e,r,h1,h2⟩<;>rw[h1,h2]<;>rfl
def adh (eo:J3 es)(hx:∀H,Rd H 7 x d):∃d,∀H,Rd H 7 (Aq x ((es.find? (jx p)).map eP)) d:=by
 cases h:es.find? (jx p) with
 | none=>exact⟨d,hx⟩
 | some e=>exact⟨.str (toS e.2),λH=>ad6 (eo.tx e (mJ h)).ok⟩
def Lg (m:Nat)(hx:x.lt m=au)(o:Option (aJ×aJ)):(Aq x o).lt m=au:=by
 cases o with
 | none=>exact hx
 | some p=>rfl
def Gr.one {l:List V}(g:Gr H K)(h:V.jN (K.length+1) l=au):Gr H (K++ [.list l]):=g.add (by
 show(V.jN _ l&&au)=au;rw[qb];exact h)
abbrev aSc (s:aJ):j0:= .vC (.cst (.str s)) e_6 e_24 e_6
def aSd:bC "o"=au:=by kernel_rfl
def ck_5 (hd:O2 K i j (es.map eP))(eo:J3 es)(a1:L.lookup ("sheet":aJ)=aa (.ref i))(a2:L.lookup ("there":aJ)=aa (.ref ti))(a3:C.lookup ("cell":aJ)=aa (.int c))(ht:K[ti]?=aa (.list ((lF es (pC c)).map sV))):
  ∃K',ik gL (n+40) lk (ak4.getD 5 .bad) ⟨L,C,K⟩=eO .next ⟨L,C,K'⟩∧Gr K K':=by
 have p3:pC c<3:=gA _ (by decide);have p7:pC c<7:=dG p3 (by decide);have ae:∀{s m},∀J:s∈asks,dD gL (m+5) ⟨L,C,lk⟩ (aSc s) K=ok (.str (QB s (pC c))) K:=λhs=>a3h hs p3 (o9 (o9 (Q4 a3) j6 (R9 3 (by decide))) j6 (add_n)) rfl;have m1:("aAa":aJ)∈asks:= .head _;have m2:("AaA":aJ)∈asks:= .tail _ (.head _);have m3:("aAA":aJ)∈asks:=rz 2 rfl;have e1:=aF2 (n:=n+15) (lk:=lk) hd (aI5 m1 p3).1 (Rv p7) (am6 eo);have e2:=PN (n:=n+15) (lk:=lk) (d:= .str "o") hd (aI5 m2 p3).1 (Rv p7) (am6 eo);have e3:=adf (n:=n+11) (lk:=lk) hd (aI5 m3 p3).1 (Rv p7) (am6 eo);rw[Ky es eo.ix]at e1 e2 e3;obtain⟨d1,r1⟩:=adh eo λH=>aDp;obtain⟨d2,r2⟩:=adh (p:=pC c) eo λH=>ad6 aSd;have g1:=aDt (es:=es) (p:=pC c) .none;have g2:=aDt (es:=es) (p:=pC c) (.str "o");have g3:=aSb (es:=es) (p:=pC c);have l1:=λm=>Lg m (x:= .none) rfl ((es.find? (jx (pC c))).map eP);have l2:=λm=>Lg m (x:= .str "o") rfl ((es.find? (jx (pC c))).map eP);generalize Aq .none ((es.find? (jx (pC c))).map eP)=v1 at e1 r1 g1 l1;generalize Aq (.str "o") ((es.find? (jx (pC c))).map eP)=v2 at e2 r2 g2 l2;generalize ((es.find? (jx (pC c))).map eP).isSome=v3 at e3 g3;have tz:((lF es (pC c)).map sV).length+1≤1000:=by rw[aF];exact aq (dK (an5 eo)) (by decide)
 have f1:=Q8 (n:=n+36) (sE3 (p6 (d7 a1) (J2 hd.inst JW) (mH (ae m1)) j4 e1) (p6 (d7 a1) (J2 hd.inst JW) (rK (ae m2) j6) j4 e2) (a3g (ae m3) (d7 a1) (d9 (af9 hd) aDr) e3));have h0:(K++ [m6.list [v1,v2,.bool v3]])[ti]?=aa (.list ((lF es (pC c)).map sV)):=f9 ht;generalize hK1:K++ [m6.list [v1,v2,.bool v3]]=K1 at f1 h0;have b1:=o9 (n:=n+34) (G:=gL) (φ:=⟨L,C,lk⟩) (d7 (s:="there") a2) (Q8 (mH (j6 (v:= .none)))) (af6 (f9 h0) n8 tz);have h2:(K1++ [m6.list [.none]]++ [m6.list ((lF es (pC c)).map sV++ [.none])])[ti]?=aa (.list ((lF es (pC c)).map sV)):=f9 (f9 h0);have b2:=o9 (n:=n+34) (G:=gL) (φ:=⟨L,C,lk⟩) (d7 a2) (Q8 (mH (j6 (v:= .str "o")))) (af6 (f9 h2) n8 tz);have h4:(K1++ [m6.list [.none]]++ [m6.list ((lF es (pC c)).map sV++ [.none])]++ [m6.list [.str "o"]]++ [m6.list ((lF es (pC c)).map sV++ [.str "o"])]++ [m6.list []])[ti]?=aa (.list (((lF es (pC c)).map toS).map V.str)):=by rw[bF];exact f9 (f9 (f9 h2))
 have nr:=Kr h4 n8 (λx hx=>by
  obtain⟨t,ht,rfl⟩:=cC.mp hx;exact(GP eo t ht).ok) λx hx=>zZ hx
 rw[g3]at nr;have f2:=Q8 (sE3 (O1 b1 (j6) (Z3 n8 g1 (by decide))) (O1 b2 (j6) (Z3 n8 g2 (by decide))) (v7 (d7 a2) (Q8 j4) nr));have rv:∀H,Af H 7 [v1,v2,.bool v3] [d1,d2,.bool v3]:=λH=>z9 (r1 H) (z9 (r2 H) (z9 aoc Z4));have hv:∀m,V.jN m [v1,v2,.bool v3]=au:=λm=>by show(v1.lt m&&(v2.lt m&&(au&&au)))=au;rw[l1,l2];rfl
 have ht:∀m (x:V),∀J:x.lt m=au,V.jN m ((lF es (pC c)).map sV++ [x])=au:=λm x hx=>by
  have:∀l:List (List Nat),V.jN m (l.map sV++ [x])=au:=by
   intro l
   induction l with
   | nil=>show(x.lt m&&au)=au;rw[hx];rfl
   | cons a l ih=>show(au&&V.jN m (l.map sV++ [x]))=au;rw[ih];rfl
  exact this _
 refine⟨_,M6 (t8 (v7 f1 f2 (ada (J8 (f9 (f9 (f9 (f9 (f9 (f9 (hK1▸n8))))))) (rv _)) (J8 n8 (rv _))))) R7, ?_⟩;have g0:=hK1▸Gr.refl.one (hv _);exact((((((g0.one rfl).one (ht _ .none rfl)).one rfl).one (ht _ (.str "o") rfl)).one rfl).one (hv _))
end
end
section
section
variable {sc:List Int}{cs:List Nat}{us:Nat->fV}{er:List aJ}{es xs:List Ent}{ns:List w6}{lg:List (aJ×aJ)}{q:Nat->Bool}{T G:Hp}{lk:List Nat}{L C:j7}{s:aJ}{ot nt mt m n c:Nat}
def ak0 (ht:xN T)(h:H9 (T.length+G.length+16) G=au):xN (T++G):=by show H9 (16+(T++G).length) (T++G)=au;rw[GZ,az,aK4 (bG (bh _ _) 16) T ht,dH 16,h];rfl
def Hs (ht:xN T)(h:H9 (HM sc cs us er es ns lg q T++G).length G=au):xN (T++G):=ak0 ht (by
 have h:H9 ((T++G).length+16) G=au:=h;rw[az]at h;exact h)
def U4.app (h:U4 lk T):U4 lk (T++G):=⟨λj hj=>aM (h.lt j hj) (by rw[az];exact bG (bh _ _) 16),h.no⟩
def aum (h:i<m):V.jN m (v4 i xs)=au:=by show(au&&(au&&((V.ref i).lt m&&(au&&(au&&au)))))=au;rw[show(V.ref i).lt m=au from gO h];rfl
def aoe (hu:M5 us)(hl:U4 lk T)(ht:xN T)(I:Inv us m es ns)(hm:m≤10)(hq:∀j,∀J:j<4,q j=aC)(hx:QC xs)(so:bC s=au)(h1:T[ot]?=aa (rC es))(h2:T[nt]?=aa (zU ns))(h3:T[mt]?=aa (rC xs))
  (a1:L.lookup ("sheet":aJ)=aa (.ref 10)) (a2:L.lookup ("notes":aJ)=aa (.ref 11)) (a3:L.lookup ("order":aJ)=aa (.ref (ot+16))) (a4:L.lookup ("noted":aJ)=aa (.ref (nt+16))) (a5:L.lookup ("said":aJ)=aa (.str s)) (a6:L.lookup ("due":aJ)=aa (.str s)) (a7:C.lookup ("waits":aJ)=aa (.ref 14))
  (a8:L.lookup ("log":aJ)=aa (.ref 13)) (a9:L.lookup ("made":aJ)=aa (.ref (mt+16))) (b1:∀v,(upd L "there" v).lookup ("sheet":aJ)=aa (.ref 10)) (b2:∀v,(upd L "there" v).lookup ("there":aJ)=aa v) (b3:C.lookup ("cell":aJ)=aa (.int c)) (b4:(C.filter λp=>(["cell"]:List aJ).contains p.1)=([("cell",.int c)]:j7)):
  ∃G ti,z8 (ik gL (n+85) lk) (ak4.drop 2) ⟨L,C,HM sc cs us er es ns (xs.map eP) q T⟩=eO .next ⟨upd L "there" (.ref ti),C,HM sc cs us er es ns [] q (T++G)⟩∧xN (T++G):=by
 have eo:=I.sh.ok hm;have hr:∀c,∀J:c<7,Tx (rd es c):=λc hc=>(I.sh.rd hm hc).1;have no:=(I.nt hu).nok (bR _);have hw:=an2 hq;obtain⟨G1,e1,z1⟩:=ck_3 (Rx hl ht) eo no hr so hw a1 a2 a3 a4 a5 a6 a7 h1 h2;have t1:=Hs ht z1;have e2:=ck_4 (n:=n+55) (sc:=sc) (cs:=cs) (us:=us) (er:=er) (es:=es) (ns:=ns) (q:=q) (C:=C) (T:=T++G1) hx hl.app a8 a9 (f9 h3);generalize hG2:(Lf xs++([m6.list (v4 ((T++G1).length+16) xs)]++([Eh (xs.map eZ)]++ [m6.list (v4 (mt+16) xs)])))=G2 at e2;have t2:xN (T++G1++G2):=ak0 t1 (by
  rw[←hG2];show(V.jN ((T++G1).length+5+16) ((xs.map eP).map pV)&&(au&&(V.jN ((T++G1).length+5+16) (v4 ((T++G1).length+16) xs)&&(V.jN ((T++G1).length+5+16) ((xs.map eZ).map nV)&&(V.jN ((T++G1).length+5+16) (v4 (mt+16) xs)&&au)))))=au;rw[S7,aum (bA (kj (by decide)) 16),aum (bA (aM (aL.mp (f9 h3)).1 (bh _ _)) 16),O5 (λU=>rfl)];rfl)
 have ho:∀X,(HM sc cs us er es ns [] q (T++G1++G2++X))[ot+16]?=aa (rC es):=λX=>(f9 (f9 (f9 h1)));have e3:=aDs (n:=n+72) (K:=HM sc cs us er es ns [] q (T++G1++G2)) (f9 (f9 h1)) eo (λj hj=>by
  have:=(hl.app (G:=G1)).app (G:=G2) |>.lt j hj
  rw[dH]at this;exact this) a3 b4
 have W:=ai1 (sc:=sc) (cs:=cs) (us:=us) (er:=er) (lg:= []) (q:=q) (T:=T++G1++G2++ [.list ((lF es (pC c)).map sV)]) eo no hr;obtain⟨K',e4,g4⟩:=ck_5 (L:=upd L "there" (.ref (HM sc cs us er es ns [] q (T++G1++G2)).length)) W.sh eo (b1 _) (b2 _) b3 n8;obtain⟨G4,rfl,z4⟩:=g4.ex;have t3:xN (T++G1++G2++ [.list ((lF es (pC c)).map sV)]):=ak0 t2 (by
  show(V.jN _ _&&au)=au;rw[O5 (λU=>rfl)];rfl)
 have t4:=Hs t3 z4;refine⟨G1++G2++ [.list ((lF es (pC c)).map sV)]++G4,(HM sc cs us er es ns [] q (T++G1++G2)).length, ?_, ?_⟩
 ·have e:=m7 e1 (m7 e2 (m7 (p8 e3 o5) (m7 e4 (R7))))
  simp only[←aQ];exact e
 ·simp only[←aQ]
  exact t4
end
end
section
section
def aun (h1:I6 G n lk a x σ=eO () rT)(h2:I6 G n lk b y rT=eO () Zk)(h3:I6 G n lk c z Zk=eO () σ3)(h4:I6 G n lk d w σ3=eO () σ4):I6 G (n+1) lk (.tup [a,b,c,d]) (.tup [x,y,z,w]) σ=eO () σ4:=v6 h1 (v6 h2 (v6 h3 (v6 h4 rfl)))
end
def aV7:gL.glob "_law_change"=aa (.gl (.ref 423)):=rfl
def auo:gL.glob "_law_due"=aa (.gl (.ref 433)):=rfl
section
variable {sc:List Int}{cs:List Nat}{us:Nat->fV}{er:List aJ}{es xs:List Ent}{ns:List w6}{lg:List (aJ×aJ)}{q:Nat->Bool}{T G:Hp}{lk:List Nat}{L C:j7}{s:aJ}{oi ni ot nt mt m n c:Nat}
noncomputable abbrev tlE:Option (aJ×Nat×aJ×Nat)->j7
 | none=> []
 | some (s,m,d,t)=> [("said",.str s),("made",.ref m),("due",.str d),("there",.ref t)]
abbrev LM (oi ni:Nat)(o:Option (aJ×Nat×aJ×Nat)):j7:=("cells",.ref 1)::("rules",.ref 3)::("pairs",.ref 9)::("sheet",.ref 10)::("notes",.ref 11)::("log",.ref 13)::("errors",.ref 15)::("order",.ref oi)::("noted",.ref ni)::tlE o
abbrev CM (o:Option Nat):j7:=("script",.ref 0)::("waits",.ref 14)::Av "cell" nV o
def adi (o:Option Nat)(c:Nat):I6 gL (n+1) lk (.cX "cell") (nV c) ⟨L,CM o,H⟩=eO () ⟨L,CM (aa c),H⟩:=by cases o<;>exact yE
def aDv:bC (Hg c)=au:=by
 delta Hg;by_cases q:c=10
 ·rw[bN q];kernel_rfl
 ·rw[bk q];kernel_rfl
structure adk (us:Nat->fV)(lk:List Nat)(m ot nt:Nat)(es:List Ent)(ns:List w6)(q:Nat->Bool)(T:Hp):Prop where
 lk:U4 lk T
 ok:xN T
 inv:Inv us m es ns
 q:∀j,∀J:j<4,q j=aC
 o:T[ot]?=aa (rC es)
 n:T[nt]?=aa (zU ns)
def az4 (hu:M5 us)(P:adk us lk m ot nt es ns q T)(hm:m+1≤10)(o:Option (aJ×Nat×aJ×Nat))(oc:Option Nat):
  ∃Ah Wa q' T' ot' nt' o',Z8 gL (n+85) lk (.cX "cell") ak4 (nV c) ⟨LM (ot+16) (nt+16) o,CM oc,HM sc cs us er es ns [] q T⟩=eO .next ⟨LM (ot'+16) (nt'+16) (aa o'),CM (aa c),HM sc cs us er Ah Wa [] q' T'⟩∧adk us lk (m+1) ot' nt' Ah Wa q' T':=by
 have I:=P.inv;have Rg:=dB hm;have eo:=I.sh.ok Rg;have hr:∀c,∀J:c<7,Tx (rd es c):=λc hc=>(I.sh.rd Rg hc).1;have s1:=Hq (c:=c) I.sh;have eo1:=s1.ok hm;have hr1:∀d,∀J:d<7,Tx (rd (uL c es) d):=λd hd=>(s1.rd hm hd).1;have no:=(I.nt hu).nok (bR _);obtain⟨x1,x2,x3,x4,⟨t1,t2,t3,t4⟩,⟨z1,z2,z3⟩,hq4,I4⟩:=Qy hu I hm P.q;have e0:=aX2 (n:=n) (sc:=sc) (cs:=cs) (er:=er) P.lk P.ok hu eo (by rw[←Dq];exact eo1) no hr (by rw[←Dq];exact hr1) t1 t2 t3 t4;obtain⟨K,o',n',m',e1,g,k1,k2,k3,l1,l2,l3⟩:=ach (n:=n+23) (H:=HX sc cs us er x4 T) (oi:=ot+16) (ni:=nt+16) P.o P.n rfl (λk hk=>Ku hk) eo eo1 no hr hr1 hu (λj hj=>by
  have:=P.lk.lt j hj;rw[dH]at this;exact this)
 obtain⟨T0,rfl,hT0⟩:=g.ex;have b:∀{o},∀J:(HX sc cs us er x4 T).length≤o,∃t,o=t+16:=λ{o} h=>by have h:T.length+16≤o:=h;obtain⟨d,hd⟩:=oA h;exact⟨T.length+d,hd.trans (gq _ _ _)⟩
 obtain⟨ot',rfl⟩:=b l1;obtain⟨nt',rfl⟩:=b l2;obtain⟨mt,rfl⟩:=b l3;have ht:=Hs P.ok hT0;have xe:∀e∈(Qu us c es).map (vJ (ie us (uL c es) 4)),e.1.2<7∧Tx e.2∧e.2.length≤40:=λe he=>by obtain⟨k,hk,rfl⟩:=cC.mp he;have k7:=bA (Dn k hk) 3;exact⟨k7,rdN hu s1 hm k7⟩
 have hx:QC ((Qu us c es).map (vJ (ie us (uL c es) 4))):=⟨⟨λe he=>(xe e he).1,λe he=>(xe e he).2.1,by rw[aF];exact aq az0 (by decide)⟩,λe he=>(xe e he).2.2⟩;rw[←z1]at k1;rw[←z2]at k2;have h3:(T++T0)[mt]?=aa (rC ((Qu us c es).map (vJ (ie us (uL c es) 4)))):=by have k3:(T++T0)[mt]?=aa (.list ((Qu us c es).map λk=>pV (eP (vJ (ie us (uL c es) 4) k)))):=k3;rw[k3];show _=aa (m6.list ((((Qu us c es).map _).map eP).map pV));rw[bF,bF];rfl
 have lgE:x4.lg=((Qu us c es).map (vJ (ie us (uL c es) 4))).map eP:=by rw[z3,bF];rfl
 have r:=λL a1 a2 a3 a4 a5 a6 a8 a9 b1 b2=>aoe (n:=n) (sc:=sc) (cs:=cs) (er:=er) (L:=L) (C:=CM (aa c)) (s:=Hg (sY c)) hu P.lk.app ht I4 hm hq4 hx aDv k1 k2 h3 a1 a2 a3 a4 a5 a6 rfl a8 a9 b1 b2 rfl rfl;rw[←lgE]at r;have fin:∀L2,∀J:(∃G ti,z8 (ik gL (n+85) lk) (ak4.drop 2) ⟨L2,CM (aa c),HM sc cs us er x4.es x4.ns x4.lg x4.q (T++T0)⟩=eO .next ⟨upd L2 "there" (.ref ti),CM (aa c),HM sc cs us er x4.es x4.ns [] x4.q (T++T0++G)⟩∧xN (T++T0++G)),∀J:(∀ti,∃s m d t,upd L2 "there" (.ref ti)=LM (ot'+16) (nt'+16) (aa (s,m,d,t))),∀J:(∀σ,∀J:z8 (ik gL (n+85) lk) (ak4.drop 2) ⟨L2,CM (aa c),HM sc cs us er x4.es x4.ns x4.lg x4.q (T++T0)⟩=eO .next σ,Z8 gL (n+85) lk (.cX "cell") ak4 (nV c) ⟨LM (ot+16) (nt+16) o,CM oc,HM sc cs us er es ns [] q T⟩=eO .next σ),∃Ah Wa q' T' ot' nt' o',Z8 gL (n+85) lk (.cX "cell") ak4 (nV c) ⟨LM (ot+16) (nt+16) o,CM oc,HM sc cs us er es ns [] q T⟩=eO .next ⟨LM (ot'+16) (nt'+16) (aa o'),CM (aa c),HM sc cs us er Ah Wa [] q' T'⟩∧adk us lk (m+1) ot' nt' Ah Wa q' T':=λL2 y f k=>by obtain⟨G,ti,e,tk⟩:=y;obtain⟨s,m,d,t,hL⟩:=f ti;rw[hL]at e;exact⟨x4.es,x4.ns,x4.q,T++T0++G,ot',nt',(s,m,d,t),k _ e,⟨P.lk.app.app,tk,I4,hq4,f9 k1,f9 k2⟩⟩
 rcases o with _ | ⟨s0,m0,d0,t0⟩
 ·refine fin (("cells",.ref 1)::("rules",.ref 3)::("pairs",.ref 9)::("sheet",.ref 10)::("notes",.ref 11)::("log",.ref 13)::("errors",.ref 15)::("order",.ref (ot'+16))::("noted",.ref (nt'+16)):: [("said",.str (Hg (sY c))),("made",.ref (mt+16)),("due",.str (Hg (sY c)))]) (r _ rfl rfl rfl rfl rfl rfl rfl rfl (λv=>rfl) (λv=>rfl)) (λti=>⟨_,_,_,_,rfl⟩) λσ e=> ?_
  exact Y6 (adi oc c) (m7 (p8 (Bo aV7 rfl (Q0 (d7 rfl) (sE5 (d7 rfl) (d7 rfl) (Q4 rfl) (d7 rfl) (Q4 rfl))) e0) o5) (m7 (p8 (Bo auo rfl (Zg (d7 rfl) (d7 rfl) (d7 rfl) (Q4 rfl)) e1) (aun o5 o5 o5 o5)) e))
 ·refine fin (("cells",.ref 1)::("rules",.ref 3)::("pairs",.ref 9)::("sheet",.ref 10)::("notes",.ref 11)::("log",.ref 13)::("errors",.ref 15)::("order",.ref (ot'+16))::("noted",.ref (nt'+16)):: [("said",.str (Hg (sY c))),("made",.ref (mt+16)),("due",.str (Hg (sY c))),("there",.ref t0)]) (r _ rfl rfl rfl rfl rfl rfl rfl rfl (λv=>rfl) (λv=>rfl)) (λti=>⟨_,_,_,_,rfl⟩) λσ e=> ?_
  exact Y6 (adi oc c) (m7 (p8 (Bo aV7 rfl (Q0 (d7 rfl) (sE5 (d7 rfl) (d7 rfl) (Q4 rfl) (d7 rfl) (Q4 rfl))) e0) o5) (m7 (p8 (Bo auo rfl (Zg (d7 rfl) (d7 rfl) (d7 rfl) (Q4 rfl)) e1) (aun o5 o5 o5 o5)) e))
end
end
section
section
def a3l (he:dD G n φ (.vC o x y z) H=ok (.ref j) H1)(h:H1[j]?=aa (.list l)):vO (o8 G n) φ (.vC o x y z) H=ok (l, [j]) H1:=j9 he (d9 (d9 h rfl) rfl)
end
section
variable {c:Nat->Nat}{sc:List Int}{n:Nat}
abbrev T8 (c:Nat->Nat):Hp:=T7 c++ [Eh [c 7,c 8,c 9]]
def aup:xN (T7 c):=by
 show xN (Qt (pD c) (jJ c) 16++ [rC (uM (pD c) (jJ c) 4)]++ [zU (Ld (pD c) (jJ c) 4)]);refine ak0 (ak0 acx ?_) ?_
 ·show(V.jN _ _&&au)=au
  rw[S7];rfl
 ·show(V.jN _ _&&au)=au
  rw[S7];rfl
def aDw:xN (T8 c):=ak0 aup (by
 show(V.jN _ _&&au)=au;rw[O5 (λU=>rfl)];rfl)
abbrev a3m (c:Nat->Nat):List Nat:= [c 7,c 8,c 9]
def st_9:∃es ns q T ot nt o,ik gL (n+86) [0] s9 ⟨LM 25 26 aB,CM aB,H5 sc c 4 (T7 c)⟩=eO .next ⟨LM (ot+16) (nt+16) (aa o),CM (aa (c 9)),HM sc (Ei c) (pD c) [] es ns [] q T⟩∧adk (pD c) [27,0] 10 ot nt es ns q T:=by
 have ec:=aj9 (H:=H5 sc c 4 (T7 c)) (k:=1) rfl (x:= .int 7) (y:= .none) (z:= .none) rfl rfl rfl (λq=>iz q);have ep:jM ((Ei c).map nV) (aa 7) aB aB=(a3m c).map nV:=by refine aO aw2 (aO (ap1 (l:=Ei c) rfl (by decide) (show 10≤10 by decide)) ?_);rfl
 rw[ep]at ec;have P0:adk (pD c) [27,0] 7 9 10 (uM (pD c) (jJ c) 4) (Ld (pD c) (jJ c) 4) q0 (T8 c):=⟨Zz.cons (show 27<16+12 by decide) rfl,aDw,inv_0 V9,λj _=>rfl,rfl,rfl⟩;obtain⟨uL,ns1,q1,T1,ot1,nt1,o1,e1,P1⟩:=az4 V9 P0 (by decide) aB aB;obtain⟨es2,ns2,q2,T2,ot2,nt2,o2,e2,P2⟩:=az4 V9 P1 (by decide) (aa o1) (aa (c 7));obtain⟨es3,ns3,q3,T3,ot3,nt3,o3,e3,P3⟩:=az4 V9 P2 (by decide) (aa o2) (aa (c 8));refine⟨es3,ns3,q3,T3,ot3,nt3,o3, ?_,P3⟩;have hi:vO (o8 gL (n+85)) ⟨LM 25 26 aB,CM aB, [0]⟩ (.vC (.loc "cells") (.cst (.int 7)) e_6 e_6) (H5 sc c 4 (T7 c))=ok ([nV (c 7),nV (c 8),nV (c 9)], [27]) (H5 sc c 4 (T8 c)):=a3l (Ao (d7 rfl) j6 j6 j6 ec) n8;exact Gx hi (T4 e1 (T4 e2 (T4 e3 rfl)))
end
end
section
noncomputable def aDx:j0->aG
 | .lam k=>k
 | _=>default
noncomputable def aDy:j0->List j0
 | .tup l=>l
 | _=> []
noncomputable def aSf:t6->j0
 | .rA _ i _ _=>i
 | _=> .bad
def Ds (i:Nat):aG:=aDx ((aDy (aSf s10)).getD i .bad)
def a3n:s10= .rA (.loc "call") (.tup [.lam (Ds 0),.lam (Ds 1),.lam (Ds 2)]) aG8 []:=rfl
section
def aDz (h:dD G n ⟨L,C,lk⟩ e H=exc c m H1):ik G (n+1) lk (.asg t e) ⟨L,C,H⟩=yG c m ⟨L,C,H1⟩:=aH8 (aK6 h)
def aSg (h1:φ.loc.lookup x=aa (.BK k))(h2:(φ.loc.lookup ("errors":aJ)).isSome=au)(h3:G.lam k=aa p)(h:dD G (n+1) ⟨[],φ.cX.filter λq=>p.1.contains q.1,φ.lk⟩ p.2 H=R):dD G (n+2) φ (.call (.loc x) [] [] []) H=R:=j9 (d7 h1) (j9 j4 (j9 j4 (m9 rfl (m9 h2 (d9 h3 h)))))
end
section
variable {sc:List Int}{cs:List Nat}{us:Nat->fV}{es:List Ent}{ns:List w6}{q:Nat->Bool}{T:Hp}{oi ni n c:Nat}
abbrev V7:List aJ:= ["lo must be non-negative","lo must be non-negative","lo must be non-negative"]
abbrev LE (oi ni:Nat)(o:Option Nat):j7:=("cells",.ref 1)::("rules",.ref 3)::("pairs",.ref 9)::("sheet",.ref 10)::("notes",.ref 11)::("log",.ref 13)::("errors",.ref 15)::("order",.ref oi)::("noted",.ref ni)::Av "call" (λi=>V.BK (Ds i)) o
def er_0:Z8 gL (n+40) [0] (.loc "call") aG8 (.BK (Ds 0)) ⟨LE oi ni aB,CM (aa c),HM sc cs us [] es ns [] q T⟩=eO .next ⟨LE oi ni (aa 0),CM (aa c),HM sc cs us (V7.take 1) es ns [] q T⟩:=rfl
abbrev Ht:aJ:="lo must be non-negative"
def QD:o6 gL (n+20) lk 195 [.ref w,.str "a",.int (-1)] ["key"] [Qg] H=exc "ValueError" Ht H:=
 Hc rfl rfl rfl rfl (qX (M6 (t8 (v7 (d7 rfl) j6 rfl)) (qX (aDz (Dh (Z2 aan) rfl (Zg (d7 rfl) (Dh (d7 rfl) rfl (mH (d7 rfl)) j4 (ay4 (by decide+kernel))) (d7 rfl) (d7 rfl)) (mH (d7 rfl)) rfl)))))
def lam_1:gL.lam (Ds 1)=aa ((["waits"],j0.call (.jq "insort_right") [.cX "waits",.cst (.str "a"),.neg e_1] ["key"] [.jq "_law_turn"]):List aJ×j0):=rfl
def er_1:Z8 gL (n+40) [0] (.loc "call") aG8 (.BK (Ds 1)) ⟨LE oi ni (aa 0),CM (aa c),HM sc cs us (V7.take 1) es ns [] q T⟩=eO .next ⟨LE oi ni (aa 1),CM (aa c),HM sc cs us (V7.take 2) es ns [] q T⟩:=by have e:dD gL (n+37) ⟨LE oi ni (aa 1),CM (aa c), [0]⟩ (.call (.loc "call") [] [] []) (HM sc cs us (V7.take 1) es ns [] q T)=exc "ValueError" Ht (HM sc cs us (V7.take 1) es ns [] q T):=aSg rfl rfl lam_1 (Dh (Z2 aao) rfl (sE3 (Q4 rfl) j6 (alc j6)) (mH (Z2 GQ)) (QD));exact Y6 o5 (rM (atk (qX (abm (abn (d7 rfl) (U8 ak5 rfl) (Hf e)))) rfl rfl))
def er_2:Z8 gL (n+40) [0] (.loc "call") aG8 (.BK (Ds 2)) ⟨LE oi ni (aa 1),CM (aa c),HM sc cs us (V7.take 2) es ns [] q T⟩=eO .next ⟨LE oi ni (aa 2),CM (aa c),HM sc cs us V7 es ns [] q T⟩:=rfl
def a3o {k:aG}(h:(φ.loc.lookup ("errors":aJ)).isSome=au):dD gL (n+1) φ (.lam k) H=ok (.BK k) H:=m9 h rfl
def st_10:ik gL (n+41) [0] s10 ⟨LE oi ni aB,CM (aa c),HM sc cs us [] es ns [] q T⟩=eO .next ⟨LE oi ni (aa 2),CM (aa c),HM sc cs us V7 es ns [] q T⟩:=by
 refine aO a3n ?_;have l:((LE oi ni aB).lookup ("errors":aJ)).isSome=au:=rfl;have hi:vO (o8 gL (n+40)) ⟨LE oi ni aB,CM (aa c), [0]⟩ (.tup [.lam (Ds 0),.lam (Ds 1),.lam (Ds 2)]) (HM sc cs us [] es ns [] q T)=ok ([.BK (Ds 0),.BK (Ds 1),.BK (Ds 2)], []) (HM sc cs us [] es ns [] q T):=by refine aO (V5 (n:=n+39) (φ:=⟨LE oi ni aB,CM (aa c), [0]⟩) (H:=HM sc cs us [] es ns [] q T) (sE3 (a3o (k:=Ds 0) l) (a3o (k:=Ds 1) l) (a3o (k:=Ds 2) l))) ?_;rfl
 exact Gx hi (T4 er_0 (T4 er_1 (T4 er_2 R7)))
end
end
section
noncomputable abbrev Ek (e:Ent):List Nat:=dj (e.1.2+1) (if e.1.1 then 65 else 97)++ [58,32]++e.2
abbrev Dt (e:Ent):List Nat:=Ek e++ [13,10]
abbrev whL (es:List Ent):List Nat:=(es.map Dt).flatten++ [13,10]
section
variable {es:List Ent}{K:Hp}{lk:List Nat}{L C:j7}{oi i j n:Nat}
def aL0 (h1:e.1.2<7)(h2:e.2.length≤40):(Ek e).length≤49:=by rw[az,az,jm];exact dg (aK h1 2) h2
def aC6 (h1:e.1.2<7)(h2:e.2.length≤40):(Dt e).length≤51:=by rw[az];exact aK (aL0 h1 h2) 2
theorem aL1:∀l:List Ent,∀J:(∀e∈l,(Dt e).length≤m),(l.map Dt).flatten.length≤l.length*m
 | [],_=>bR _
 | a::l,h=>by rw[cF,jD,az,dZ,Nat.succ_mul,dH];exact dg (aL1 l λb hb=>h b (.tail _ hb)) (h a (.head _))
def aEa:(": ":aJ)=toS [58,32]:=rfl
def a3p:("\r\n":aJ)=toS [13,10]:=rfl
def aEb (h1:e.1.2<7)(h2:e.2.length≤40)(a1:φ.loc.lookup ("name":aJ)=aa (.str (jB e.1.1 e.1.2)))(a2:φ.loc.lookup ("text":aJ)=aa (sV e.2)):
  dD gL (n+4) φ e_28 K=ok (sV (Dt e)) K:=by
 have l:=aC6 h1 h2;have l1:(Ek e).length≤1000:=aq (aL0 h1 h2) (by decide);have l0:(dj (e.1.2+1) (if e.1.1 then 65 else 97)++ [58,32]:List Nat).length≤1000:=by rw[az]at l1;exact aq (bh _ _) l1
 have c1:=aw0 (H:=K) _ _ l0;have c2:=aw0 (H:=K) _ _ l1;have c3:=aw0 (H:=K) (Ek e) [13,10] (aq l (by decide));rw[←aEa]at c1;rw[←a3p]at c3;exact o9 (o9 (o9 (d7 a1) j6 c1) (d7 a2) c2) j6 c3
def aEc (hK:K[oi]?=aa (rC es))(eo:J3 es)(hz:∀e∈es,e.2.length≤40)(ho:L.lookup ("order":aJ)=aa (.ref oi))(ju:∀j∈lk,j<K.length):
  dD gL (n+10) ⟨L,C,lk⟩ e_63 K=ok (sV (whL es)) (K++ [.list ((es.map Dt).map sV)]):=by
 have hoi:=(aL.mp hK).1;have e:=JV (n:=n+7) (φ:=⟨L,C,lk⟩) (uz:= []) (it:= .loc "order") (λe:Ent=>pV (eP e)) (λe=>aa (sV (Dt e))) ntE rfl (j9 (d7 ho) (d9 (d9 hK rfl) (by rw[bF];rfl))) (oU.mpr λU U q=>qI q) (aq eo.len (by decide)) (λe he o acc ha=>nU (ap5 o e) S9 (aEb (eo.ix e he) (hz e he) rfl rfl) (R1 (aa4 (cW hoi) (KC ju (aN _))) ha));rw[Q3,show(es.map λe=>sV (Dt e))=(es.map Dt).map sV from by rw[bF];rfl]at e;have fl:=aL1 es λe he=>aC6 (eo.ix e he) (hz e he);have fz:=aq fl (dh 51 eo.len);have hx:(K++ [m6.list ((es.map Dt).map sV)])[K.length]?=aa (.list (((es.map Dt).map toS).map V.str)):=by rw[n8,bF (g:=V.str)];rfl
 have jn:=λr=>as8 (r:=r) (lk:=lk) (ov:= .str "") hx (by
  rw[show("":aJ).length=0 from by kernel_rfl,Nat.mul_zero,xT,bF,bF,show(((λx:aJ=>x.length)∘toS)∘Dt)=λe=>(Dt e).length from funext λe=>J1 _];exact aq (ai0 es λe he=>aC6 (eo.ix e he) (hz e he)) (aq (dh 51 eo.len) (by decide)))
 rw[a1k,alk,←a1k]at jn;have ad:=aw0 (H:=K++ [m6.list ((es.map Dt).map sV)]) (es.map Dt).flatten [13,10] (by rw[az];exact aq (aK fz 2) (by decide));rw[←a3p]at ad;exact o9 (p6 j6 (R2 as7) (mH e) j4 (jn _)) j6 ad
end
section
def join_2 (s:List Nat):∀l:List (List Nat),xX (toS s) ((l++ [[], []]).map toS)=toS ((l.map (·++s)).flatten++s):=by
 intro l
 induction l with
 | nil=>
  show toS []++toS s++toS []=toS ([]++s);apply xW;apply jc.mp;simp only[vB,dC];show[]++s++ []= []++s;rw[bf]
 | cons a l ih=>
  obtain⟨b,r,hb⟩:∃b r,l++ [[], []]=b::r:=by cases l<;>exact⟨_,_,rfl⟩
  rw[hb]at ih;show xX (toS s) ((a::(l++ [[], []])).map toS)=_;rw[hb];show toS a++toS s++xX (toS s) ((b::r).map toS)=_;rw[ih,cF,jD];apply xW;apply jc.mp;simp only[vB,dC];show a++s++((l.map (·++s)).flatten++s)=a++s++(l.map (·++s)).flatten++s;rw[aQ (a++s)]
end
section
variable {es:List Ent}{K:Hp}{lk:List Nat}{i j n:Nat}
def aEd (h1:e.1.2<7)(h2:e.2.length≤40):V0 K .Mod (.str "%s: %s") (pV (eP e))=ok (sV (Ek e)) K:=by
 refine(m9 ?_ rfl).trans ?_
 ·show(au&&decide ((jB e.1.1 e.1.2).length≤1000000)&&decide ((toS e.2).length≤1000000))=au
  rw[X3,J1,gO (aq (jF h1) (by decide)),gO (aq h2 (by decide))];rfl
 ·rw[aEa,show jB e.1.1 e.1.2++toS [58,32]=toS (dj (e.1.2+1) (if e.1.1 then 65 else 97)++ [58,32]) from aq5 _ _]
  exact congrArg (λs=>ok (V.str s) K) (aq5 _ _)
def QF (cl:Cl lk K)(h:O2 K i j (es.map eP))(eo:J3 es)(hz:∀e∈es,e.2.length≤40):o6 gL (n+20) lk 158 [.ref i] [] [] K=ok (sV (whL es)) K:=by
 have hj:=(aL.mp h.row).1;have e:=JV (n:=n+15) (φ:=⟨[("self",.ref i)], [],lk⟩) (elt:= .bin .Mod (.cst (.str "%s: %s")) (.loc "kv")) (uz:= []) (it:= .attr e_5 "_headers") (λe:Ent=>pV (eP e)) (λe=>aa (sV (Ek e))) (λo=>kvV (o.map eP)) rfl (j9 (z7 (d7 rfl) (aa0 h)) (d9 (d9 h.row rfl) (by rw[bF];rfl))) rfl (aq eo.len (by decide)) (λe he o acc ha=>nU (ay1 (o.map eP) (eP e)) S9 (o9 j6 (d7 rfl) (aEd (eo.ix e he) (hz e he))) (R1 (aa4 (cW hj) (KC cl.lk (aN _))) ha));rw[Q3,show(es.map λe=>sV (Ek e))=(es.map Ek).map sV from by rw[bF];rfl]at e;have ad:=af6 (K:=K++ [m6.list ((es.map Ek).map sV)]++ [m6.list [.str "",.str ""]]) (f9 (n8)) n8 (by
  rw[aF,aF];exact aq (aK eo.len 2) (by decide))
 have hx:(K++ [m6.list ((es.map Ek).map sV)]++ [m6.list [.str "",.str ""]]++ [m6.list ((es.map Ek).map sV++ [.str "",.str ""])])[(K++ [m6.list ((es.map Ek).map sV)]++ [m6.list [.str "",.str ""]]).length]?=aa (.list (((es.map Ek++ [[], []]).map toS).map V.str)):=by rw[n8,bu,bu,bF (g:=V.str),a1k];rfl
 have jn:=λr=>as8 (r:=r) (lk:=lk) (ov:= .str "\r\n") hx (by
  rw[bF,aF,az,aF,show("\r\n":aJ).length=2 from by kernel_rfl,bu,List.sum_append,bF,show(((λx:aJ=>x.length)∘toS)∘Ek)=λe=>(Ek e).length from funext λe=>J1 _];exact aq (dg (dg (aq (ai0 es λe he=>aL0 (eo.ix e he) (hz e he)) (dh 49 eo.len)) (aN 0)) (dh 2 (aK eo.len 2))) (by decide))
 have jr:qj ("\r\n":aJ) ((es.map Ek++ [[], []]).map toS)=toS (whL es):=by rw[a3p];refine(PySem.StrLaws.glued_eq_join _ _).trans ((join_2 _ _).trans ?_);rw[bF];rfl
 rw[jr]at jn;refine w7 rfl rfl rfl rfl (M4 (R0 (p6 j6 (R2 as7) (mH (o9 e (Q8 (rK j6 j6)) ad)) j4 (jn _)))) ?_;rw[aQ,aQ];exact cl.drop rfl
def QG (h:O2 K i j (es.map eP)):o6 gL (n+10) lk 90 [.ref i] [] [] K=ok (.int es.length) K:=
 w7 rfl rfl rfl rfl (M4 (R0 (Q9 O4 (z7 (d7 rfl) (aa0 h)) (U6 (ao8 h.row) ((ao6 h.row).trans (by rw[aF,aF])))))) (H7 rfl)
end
end
section
section
variable {sc:List Int}{cs:List Nat}{us:Nat->fV}{es:List Ent}{ns:List w6}{q:Nat->Bool}{T:Hp}{ot ni n c:Nat}
abbrev LW (oi ni:Nat)(es:List Ent):j7:=LE oi ni (aa 2)++([("whole",sV (whL es))]:j7)
def st_11 (ho:T[ot]?=aa (rC es))(eo:J3 es)(hz:∀e∈es,e.2.length≤40):ik gL (n+11) [0] s11 ⟨LE (ot+16) ni (aa 2),C,HM sc cs us V7 es ns [] q T⟩=eO .next ⟨LW (ot+16) ni es,C,HM sc cs us V7 es ns [] q (T++ [.list ((es.map Dt).map sV)])⟩:=
 p8 (aEc ho eo hz rfl λj hj=>by rw[aH.mp hj];exact fO _) o5
def a3q:gL.bW 182 "__str__"=aa 158:=rfl
def a3r:gL.bW 182 "__len__"=aa 90:=rfl
def aEe (eo:J3 es):bC (toS (whL es))=au:=by
 have hl:∀x∈whL es,x<1114112:=λx hx=>by
  rcases bI.mp hx with hx | hx
  ·obtain⟨l,hl,hx⟩:=cM.mp hx
   obtain⟨e,he,rfl⟩:=cC.mp hl;rcases bI.mp hx with hx | hx
   ·rcases bI.mp hx with hx | hx
    ·rcases bI.mp hx with hx | hx
     ·rw[BJ hx]
      cases e.1.1<;>decide
     ·rcases bc.mp hx with rfl | hx
      ·decide
      ·rw[aH.mp hx];decide
    ·exact dG ((eo.tx e he).lt x hx) (by decide)
   ·rcases bc.mp hx with rfl | hx
    ·decide
    ·rw[aH.mp hx];decide
  ·rcases bc.mp hx with rfl | hx
   ·decide
   ·rw[aH.mp hx];decide
 show((whL es).toArray.all λx=>decide (x<1114112))=au;exact aO tC (bj.mpr λx hx=>gO (hl x hx))
def a3s:V7.all bC=au:=by kernel_rfl
def aSj:V0 (K++ [.list [.str Ht]]) .Mult (.ref K.length) (.int 3)=ok (.ref (K++ [m6.list [.str Ht]]).length) (K++ [.list [.str Ht]]++ [.list (V7.map V.str)]):=by refine d9 (R3 n8) (d9 rfl (m9 rfl ?_));rfl
def st_12 (cl:Cl [0] (HM sc cs us V7 es ns [] q T))(no:Bq ns)(hr:∀c,∀J:c<7,Tx (rd es c))(ho:T[ot]?=aa (rC es))(eo:J3 es)(hz:∀e∈es,e.2.length≤40)(hq:wS q= []):
  ∃σ,ik gL (n+30) [0] s12 ⟨LW (ot+16) ni es,CM (aa c),HM sc cs us V7 es ns [] q T⟩=eO (.ret (.bool au)) σ:=by
 have W:=ai1 (sc:=sc) (cs:=cs) (us:=us) (er:=V7) (lg:= []) (q:=q) (T:=T) eo no hr;have hw:(HM sc cs us V7 es ns [] q T)[14]?=aa (.list []):=congrArg (λl=>aa (m6.list l)) (Hb hq);have he:(HM sc cs us V7 es ns [] q T)[15]?=aa (.list (V7.map V.str)):=rfl;have hp:(HM sc cs us V7 es ns [] q T)[9]?=aa (rC es):=rfl;have ho:(HM sc cs us V7 es ns [] q T)[ot+16]?=aa (rC es):=ho;have l1:(LW (ot+16) ni es).lookup ("errors":aJ)=aa (.ref 15):=rfl;have l2:(LW (ot+16) ni es).lookup ("sheet":aJ)=aa (.ref 10):=rfl;have l3:(LW (ot+16) ni es).lookup ("pairs":aJ)=aa (.ref 9):=rfl;have l4:(LW (ot+16) ni es).lookup ("whole":aJ)=aa (sV (whL es)):=rfl;have l5:(LW (ot+16) ni es).lookup ("order":aJ)=aa (.ref (ot+16)):=rfl;generalize LW (ot+16) ni es=L at l1 l2 l3 l4 l5;generalize HM sc cs us V7 es ns [] q T=K at cl W hw he hp ho;have fl:(whL es).length≤1000:=by rw[az];exact aq (aK (aq (aL1 es λe he=>aC6 (eo.ix e he) (hz e he)) (dh 51 eo.len)) 2) (by decide)
 have uL:Fb gL (o8 gL (n+26)) [0] "str" (.ref 10) K=ok (sV (whL es)) K:=by show(match fu ("str"=="str") (V1 gL K (.ref 10) ("__str__":aJ)) with | some f=>jf (o6 gL (n+26) [0] f [.ref 10] [] [] K) (λu H=>opt (strOf u) λs=>ok (V.str s) H) | none=>Lw K "str" (.ref 10))=_;rw[show fu ("str"=="str") (V1 gL K (.ref 10) ("__str__":aJ))=aa 158 from m9 rfl (d9 (af9 W.sh) a3q)];exact j9 (QF cl W.sh eo hz) (d9 rfl rfl)
 have el1:wG gL (o8 gL (n+26)) [0] "len" (.ref 10) K=ok (.int es.length) K:=by show(match fu ("len"=="len") (V1 gL K (.ref 10) ("__len__":aJ)) with | some f=>jf (o6 gL (n+26) [0] f [.ref 10] [] [] K) (λu H=>opt (intOf u) λk=>fu (decide (0≤k)&&mid k) (ok (V.int k) H)) | none=>O7 K "len" (.ref 10))=_;rw[show fu ("len"=="len") (V1 gL K (.ref 10) ("__len__":aJ))=aa 90 from m9 rfl (d9 (af9 W.sh) a3r)];refine j9 (QG W.sh) (d9 rfl (m9 ?_ rfl));rw[gO (cA _),asj (aq eo.len (by decide))];rfl
 have f1:=Q8 (φ:=⟨L,CM (aa c), [0]⟩) (sE5 (d7 l1) (Q4 (s:="waits") rfl) (zq av7 (d7 l2) uL) (Q9 O4 (d7 l2) el1) (d7 l3));generalize hK1:K++ [m6.list [.ref 15,.ref 14,sV (whL es),.int es.length,.ref 9]]=K1 at f1;have up:∀{i o},∀J:K[i]?=aa o,K1[i]?=aa o:=λh=>hK1▸f9 h;have hlen:∀G:Hp,wG gL (o8 gL (n+26)) [0] "len" (.ref (ot+16)) (K1++G)=ok (.int es.length) (K1++G):=λG=>U6 (ao8 (f9 (up ho))) ((ao6 (f9 (up ho))).trans (by rw[aF,aF]));have b1:=o9 (n:=n+26) (G:=gL) (φ:=⟨L,CM (aa c), [0]⟩) (H:=K1) (Q8 (mH (j6))) (j6) aSj;have b2:=Q8 (n:=n+26) (G:=gL) (φ:=⟨L,CM (aa c), [0]⟩) (H:=K1++ [m6.list [.str Ht]]++ [m6.list (V7.map V.str)]) j4;have h4:=hlen ([m6.list [.str Ht]]++([m6.list (V7.map V.str)]++ [m6.list []]));simp only[←aQ]at h4;have f2:=Q8 (sE5 b1 b2 (d7 l4) (Q9 O4 (d7 l5) h4) (d7 l5));have re:=λH=>acy (H:=H) (n:=6) λx hx=>ad6 (bj.mp a3s x hx);have rp:=λH=>aq8 (n:=4) (H:=H) (Dr eo);have rw_:=λH=>ad6 (H:=H) (n:=6) (aEe eo);refine⟨_,R0 (v7 f1 f2 (aDq (J8 (f9 (f9 (f9 (f9 (hK1▸n8))))) (z9 (J8 (f9 (f9 (f9 (f9 (up he))))) (re _)) (z9 (J8 (f9 (f9 (f9 (f9 (up hw))))) Z4) (z9 (rw_ _) (z9 az3 (z9 (J8 (f9 (f9 (f9 (f9 (up hp))))) (rp _)) Z4))))))
  (J8 n8 (z9 (J8 (f9 (f9 n8)) (re _)) (z9 (J8 (f9 n8) Z4) (z9 (rw_ _) (z9 az3 (z9 (J8 (f9 (f9 (f9 (f9 (up ho))))) (rp _)) Z4))))))))⟩
end
end
end Mine.Internal.X2
end
section
namespace Mine.Internal.X2
open PySem
def yGc (f:aJ->Bool)(e:(loc.filter λp=>f p.1)=L)(eH:H'=H++T)(hl:W6 H.length L=au)(hc:W6 H.length cX=au)(hH:H9 H.length H=au)(y:Rp G n lk r ⟨L,cX,H⟩):Rp G n lk r ⟨loc,cX,H'⟩:=by subst e eH;exact .gc f hl hc hH y
section
def aEf (h:16≤m)(h1:oi<m)(h2:ni<m):W6 m (LE oi ni aB)=au:=by have r:∀i,∀J:i<m,(V.ref i).lt m=au:=λi hi=>gO hi;have s:∀i,∀J:i<16,(V.ref i).lt m=au:=λi hi=>r i (aM hi h);show((V.ref 1).lt m&&((V.ref 3).lt m&&((V.ref 9).lt m&&((V.ref 10).lt m&&((V.ref 11).lt m&&((V.ref 13).lt m&&((V.ref 15).lt m&&((V.ref oi).lt m&&((V.ref ni).lt m&&au)))))))))=au;rw[s 1 (by decide),s 3 (by decide),s 9 (by decide),s 10 (by decide),s 11 (by decide),s 13 (by decide),s 15 (by decide),r _ h1,r _ h2];rfl
def aof (ns:List Int):Rp gl 100 [0] an3 (aB3 ns):=by
 refine aO aAl (aO Zf ?_);obtain⟨c,hc⟩:=anm ns;have e0:=st_0 (n:=88) (ns:=ns);rw[hc]at e0;have P:Inv (pD c) 7 (uM (pD c) (jJ c) 4) (Ld (pD c) (jJ c) 4):=inv_0 V9;have cl7:=Rx (sc:=ns) (cs:=Ei c) (us:=pD c) (er:= []) (es:=uM (pD c) (jJ c) 4) (ns:=Ld (pD c) (jJ c) 4) (lg:= []) (q:=q0) (T:=T7 c) Zz aup;obtain⟨G8,e8⟩:=st_8 (L:=L7) cl7 (P.sh.ok (by decide)) ((P.nt V9).nok (bR _)) (λd hd=>(P.sh.rd (by decide) hd).1) rfl rfl rfl rfl rfl rfl;obtain⟨es,nt,q,T,ot,ni,o,e9,P9⟩:=st_9;have I:=P9.inv;have hr:∀d,∀J:d<7,Tx (rd es d):=λd hd=>(I.sh.rd (aN _) hd).1;have eo:=I.sh.ok (aN _);have hz:∀e∈es,e.2.length≤40:=λe he=>by
  rcases atz (I.sh.ix e he) with h | ⟨k,hk,h⟩
  ·exact aq (I.sh.g e he h) (by decide)
  ·obtain⟨e',he',z⟩:=I.sh.one k hk
   have:e∈es.filter (jx (k+3)):=cG.mpr ⟨he,by show(e.1.2==k+3)=au;rw[h];exact beq_self_eq_true _⟩;rw[he']at this;rw[aH.mp this];exact z
 have ht:xN (T++ [.list ((es.map Dt).map sV)]):=ak0 P9.ok (by
  show(V.jN _ _&&au)=au;rw[O5 (λU=>rfl)];rfl)
 obtain⟨σ,e12⟩:=st_12 (Rx Zz ht) ((I.nt V9).nok (bR _)) hr (f9 P9.o) eo hz (an2 P9.q);have tl:∀{i o},∀J:T[i]?=aa o,i+16<T.length+16:=λh=>bA (aL.mp h).1 16;refine .step e0 (yGc (λU=>au) rfl rfl rfl rfl ?_ (.step st_1 (.step st_2 (.step st_3 (.step st_4 (.step (st_5 acx) (.step st_6 (.step st_7 (.step e8 (yGc (λx=> !((["texts","reads","k"]:List aJ).contains x)) rfl rfl rfl rfl cl7.hp (.step e9 (yGc (λx=> !((["said","made","due","there"]:List aJ).contains x)) rfl (bf _).symm (aEf (cL _ _) (tl P9.o) (tl P9.n)) ?_ (Rx Zz P9.ok).hp (.step st_10 (.step (st_11 P9.o eo hz) (.ret e12)))))))))))))))
 ·show(V.jN 2 (ns.map .int)&&(V.jN 2 ((Ei c).map nV)&&au))=au
  rw[aV1,O5 (λU=>rfl)];rfl
 ·show((V.ref 0).lt (T.length+16)&&((V.ref 14).lt (T.length+16)&&(au&&au)))=au
  rw[show(V.ref 0).lt (T.length+16)=au from gO (aM (show 0<16 by decide) (cL 16 T.length)),show(V.ref 14).lt (T.length+16)=au from gO (aM (show 14<16 by decide) (cL 16 T.length))];rfl
end
end Mine.Internal.X2
end
section
end
set_option maxRecDepth 100000 in
theorem PySem.Challenge.cw_uy0025_01_holds : PySem.Challenge.rw_uy0025_01.Holds :=
 Mine.Internal.aAh λns U=>Mine.Internal.X2.aof ns
end