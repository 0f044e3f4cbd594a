import PyProof.Rows.All
import OpenK.ZHead
import KE.KSortAsk
import KE.KSortKey
import KE.KSortTup
import KE.KNestM
import KE.KBoundM
import KE.KLam
import ObjForm.ListNI
import Wide.Tac
import PySem.Challenge.RW_tc0073_02
set_option Elab.async false
set_option maxRecDepth 1000000
set_option maxHeartbeats 0
set_option linter.all false
set_option bootstrap.genMatcherCode false
set_option compiler.extract_closed false
set_option genSizeOf false
set_option genInjectivity false
set_option genCtorIdx false
set_option backward.match.sparseCases false
set_option tactic.hygienic false
namespace Mine.Internal
noncomputable section
open PySem PySem.W PySem.Calls PyProof.Rows
open PySem renaming Addr→ai, Value→an, Expr→aq, Shared→az, wpAny_bind→aB, model→aQ, wpAny→be, Heap→bf, Stmt→bl, wpAny_mono→bC, wpAny_pure→bH, sizeLine→cX, Scope→d8, eval→d9, FuncData→el, codeAny→gK, cellsFrom→je, mainGlobals→jy, strIterType→jM, wpAny_field→kf, execs→l4, starEach→l6, pyNext→l8, clausesOf→l9, DictEntry→nC, standAt→nE, clipAt→nH, assign→oE, Comprehension→oF, Arguments→pL, World→pM, backTo→pP, codeAny_mono→pS, Program→q9, rawInt→rh, letOwnedTupleGo→ri, seqIndex?→rl, wpAny_rule→sC, NameKind→sD, bindArgs→sH, Result→Kc, field→sO, CmpOp→ua, Keyword→ub, pyIter→ud, GenState→vK, codeAmong→vL, wpAny_holding→vN, backToKw→vO, keywordEach→vP, wpAny_newObj_type→vQ, call_meets→vU, sizeLine_eq→vW, wpAny_call_entry→vX, cLine→xA, isTrue→xB, assignEach→xD, swappedStores→xE, wpAny_toks_of→xG, argBest→xI, Fin→xK, IsEnum→zI, wpAny_standAt→zM, truthy→zN, spliced→zO, BoolOp→zP, swapsWith→zQ, sliceBounds→zS, JoinOk→zU, wpAny_attempt→zV, wpAny_callSpecial?_slot→zW, wpAny_setField_rec→zX, Params→BX, Operator→B0, wpAny_mkText→B1, behindInMarks→B2, comprehension→B6, wpAny_loadPart→B8, typeLookup_type→B9, builtinLookup_eq_fast→B', Builtin→Cb, wpAny_onRaise→E6, typeLookup→Fc, typeIs_str→Fe, entryFor→Fg, TriplesOk→J9, recursionLimit→Ka, builtinsNs→Kb, subscripted→Kd, evalArgs→Ke, codeAny_of_tree→Kh, compTurn→Kj, wpAny_updateSeq→Kl, wpAny_specialOf→Ko, bootBuiltins→Q8, callMarked→Ra, methodCallForm→Rb, wpAny_release→Rc, wpAny_call→Ri, wpAny_load→Rk, sliceRange→Rt, slicePick→Ru, isSubtype_type→Rz, entryFor_of_tree→RA, wpAny_isInstance→RB, isSubtype_stop→RD, wpAny_setField→RF, wpAny_letGo→RG, wpAny_typeOf→RJ, wpAny_operating→abi, getitemInPython→abj, wpAny_pyIter_list→abn, foldedSetIterable→abq, wpAny_askSetting→abr, pushCells_keeps→abu, newFunctionEnv→abv, wpAny_newList→abw, markedBehindIn_of_false→ap3, wpAny_newFunctionEnv_cells→ap7, wpAny_getItem_list_slice→aql
open _root_.Nat renaming le_refl→aG, beq→bT, zero_le→dQ, blt→ft, sub_self→fk, le_trans→fC, mod_lt→kg, succ_ne_zero→ka, le_succ→ke, le_of_ble_eq_true→lj, le_of_eq→ll, sub_le→lm, zero_add→lq, one_le_iff_ne_zero→l7, eq_of_beq_eq_true→mP, ble→nA, ne_of_lt→pQ, lt_succ_of_lt→pT, lt_of_le_of_lt→q7, lt_succ_self→rg, lt_of_lt_of_le→sF, add_sub_cancel_left→sG, le_add_right→vH, succ_pos→vI, sub_zero→vY, max→v8, lt_trans→xu, min_le_right→xx, min_eq_left→zH, add_comm→zR, not_lt_zero→zY, succ_le_succ→z4, lt_of_succ_lt_succ→z5, beq_refl→Cc, min_le_left→EW, le_succ_of_le→Fa, le_of_lt→Ff, lt_irrefl→J', lt_of_lt_of_eq→Kn, succ_sub→Ks, ble_eq_true_of_le→Kz, mul_div_le→QX, le_of_not_lt→Q0, add_left_cancel→Rg, not_lt→Rw, add_assoc→RR, lt_succ_of_le→RS, sub_lt→aba, one_pos→abb, lt_succ_iff_lt_or_eq→abc, mod_two_eq_zero_or_one→abd, le_antisymm→abh, le_of_lt_succ→abx, lt_or_eq_of_le→abE, sub_add_cancel→abV, mul_le_mul_right→apZ, add_sub_cancel'→ap1, le_of_sub_eq_zero→ap2, lt_add_of_pos_right→aqA, sub_pos_of_lt→aqN, le_of_succ_le→aqO, testBit_eq_decide_div_mod_eq→aqR, lt_of_le_of_ne→aqT
open _root_.List renaming range→aK, length_map→aV, getElem?_eq_getElem→bA, all_cons→bU, getElem?_eq_some_iff→bV, mem_map→cu, all_nil→cG, replicate→cD, mem_of_getElem?→c8, all_eq_true→dI, length_append→dJ, append_nil→dM, getElem?_map→dN, length_cons→dO, getElem?_append_right→dT, getElem?_append_left→d2, getD_eq_getElem?_getD→ed, map_cons→eC, append_assoc→eJ, length_range→fb, range'→fc, map→fm, foldl_cons→fu, cons_append→fM, map_append→fU, map_map→fV, mem_append→f7, mem_range→gz, mem_singleton→gV, size_toArray→ig, getElem?_range→iS, count_cons→iU, length_drop→jA, length_set→lY, getElem?_set_ne→lZ, range'_succ→mO, lookup_cons→nD, length_take→nG, length→oG, map_take→oH, mem_iff_getElem→pN, mem_cons→pO, range_eq_range'→pW, getElem?_cons_succ→re, map_drop→rn, map_set→rp, drop→rq, getElem?_drop→sL, drop_zero→sQ, filter_cons→sR, take_of_length_le→uc, getElem?_set_self→vM, filterMap_cons→vT, find?_cons→vV, map_congr_left→vZ, drop_drop→v7, nodup_append→xz, nodup_range→xF, forIn_cons→xH, nil_append→xL, nodup_cons→zJ, forall_mem_cons→zK, length_nil→zT, take_add_one→aa2, take→z6, lookup→BZ, reverse_cons→B3, mem_of_mem_take→B4, getElem?_eq_none→B5, take_length→B7, mem_filter→Ca, nodup_nil→EX, mem_append_left→EY, take_append_drop→E5, mem_filterMap→E7, any_cons→Fb, eq_nil_of_length_eq_zero→Fj, set_append_left→Fk, set_append_right→Fl, length_replicate→Fm, drop_eq_nil_of_le→Fn, filter→Fo, filterMap_eq_map'→Fp, mem_map_of_mem→Kf, tail_drop→Ki, length_singleton→Kt, ext_getElem→Ku, mem_or_eq_of_mem_set→Kv, mem_range'→Kw, map_replicate→Kx, drop_eq_getElem_cons→Ky, getElem?_toArray→Rj, getElem?_eq_none_iff→Rl, mem_append_right→Rn, getElem?_take→Ro, getElem_mem→Rs, sum_cons→Rv, all_append→RO, eraseIdx_cons_succ→RP, map_dropLast→RQ, length_reverse→RT, map_filterMap→RU, take_succ_cons→RV, flatten_cons→RW, findIdx?_map→RX, filter_filter→RY, mem_of_mem_drop→Sa, drop_of_length_le→abp, take_nil→abA, toArray→abB, mem_reverse→abJ, range_succ→abK, set_cons_succ→abM, length_dropLast→abP, map_nil→abQ, length_filterMap_le→abT, reverse→abW, foldl→abX, count_le_length→abY, length_filter_le→abZ, findIdx?_cons→ap4, filter_cons_of_pos→ap5, filter_cons_of_neg→ap6, contains_iff_mem→ap9, drop_eq_nil_iff→ap', ext_getElem?→aqb, findIdx?_eq_some_iff_getElem→aqh, filterMap_cons_none→aqj, filterMap_cons_some→aqk, length_eq_zero_iff→aqn, toList_toArray→aqp, getLast?_eq_getElem?→aqC, singleton_append→aqD, reverse_append→aqE, replicate_succ'→aqF, getElem?_range'→aqG, getElem?_replicate→aqH, eq_of_mem_replicate→aqI, find?_append→aqJ, getLast?_map→aqL, cons_lt_cons_iff→aqM, filter_append→aqP, find?_eq_none→aqQ, foldl_append→aqS, findIdx?_eq_some_iff_findIdx_eq→aqU, findIdx_lt_length_of_exists→aqV, length_range'→aqW
open _root_.Bool renaming and_eq_true→bz, and_true→cP, false_ne_true→fL, false_eq_true→gJ, and_eq_true_iff→iR, not_true→mN, not_false→nI, not_eq_true'→E0, noConfusion→E4, eq_false_iff→Q9, or_true→abf, and_comm→abg, not_not→abk, and_false→abC, or_eq_true_iff→ap8
open PySem.Txt renaming lower→bZ, join→gY, count→sM, replace→sN
open _root_.Option renaming map→dg, map_eq_some_iff→oI, map_some→Km, bind→QZ, isSome_iff_exists→Kk
open _root_.Option.some renaming inj→dE, injEq→aqm
open PySem.Heap renaming get?_push_of_some→fT, ExtBut→f6, get?_push_size→iy, get?_none_of_le→iI, lt_size→sE, SameBut→sJ, size_push→E8, get?_update_self→E9, dictOf_iff→Rp
open PySem.Obj renaming mapSeq→f8, putName→Ry, data_mapFields→RE
open PySem.W.X renaming SegX→iT
open PySem.W renaming keepIn→jz, peek→pR, kla_fn→vJ, tabObj→xy, findIn→xJ, kas_sort→xM, dictOf→BY, plainGet_of→Kr, lookIn_dict→Rx
open PyProof.Rows renaming seqObj→jB, listUpdate_at→RM, lookup_of_mem_nodup→abm
open _root_.Int renaming natCast_nonneg→mK, not_lt→sB, ofNat_lt→xt, le_refl→zG, ofNat_le→EV, toNat_natCast→Fh, mul_zero→JY, add_zero→JZ, one_mul→J0, add_nonneg→J6, natCast_add→QW, le_trans→QY, add_comm→Rr, zero_add→aa8, mul_one→aa9, mul_nonneg→aa', add_sub_cancel→aby, min_eq_left→abF, max_eq_right→abL, fdiv_eq_ediv_of_nonneg→abN, fmod_eq_emod_of_nonneg→abR, natCast_emod→abS, lt_of_lt_of_le→ap0, fmod_nonneg_of_pos→aqK
open _root_.And renaming left→oJ, right→KB
open PySem.IntMulOk renaming of_left→oK
open PySem.Builtin.Str renaming tooLong→pU, strSliceIndices→Kp
open PySem.PyData renaming keyHash→q8
open _root_.Ne renaming symm→rc
open PySem.Heap.SameBut renaming update→rj
open PySem.Sem renaming wrap_wrap→sP, bind_eq_wrap'→ue
open PySem.Str renaming length_append→uf, cps_append→vR, ext'→xC, length→Fi, join→KA
open PySem.W.Frag.In renaming keeps→vS
open _root_.Array renaming length_toList→v0, toList_append→z3, eq_empty_of_size_eq_zero→Rd, size_push→RN, append_empty→abl, getElem?_eq_some_iff→abI, toArray_toList→aqc, toList_push→aqd, eraseIdxIfInBounds→aqe, getElem?_setIfInBounds_self_of_lt→aqy
open PySem.Challenge renaming rw_tc0073_02→J8, pw_tc0073_02→abe
open PySem.Builtin.Range renaming rangeSize→Kg, small→abo, rangeFitsLong→aqB
open PySem.Value renaming isStr→Kq
open PySem.Builtin renaming divisionGoesByPylong→Re
open _root_.List.Pairwise renaming map→Rf, imp→aqa
open PySem.W.Looks renaming of_peek→Rh, of_pure→Rq
open PySem.F renaming slot_enumerate_next→RH, slot_list_getitem→abD, slot_list_pop→aqf, entry_list_pop→aqg, slot_str_getitem→aqi, slot_str_ascii_iterator_next→aqq, entry_str_ascii_iterator_next→aqr, args_str_ascii_iterator_next_1→aqs, slot_str_iterator_next→aqt, entry_str_iterator_next→aqu, args_str_iterator_next_1→aqv, args_enumerate_next_1→aqw
open PySem.Frame renaming where_→RI
open _root_.Nat.succ renaming inj→RK
open PyProof renaming noPylong_small→RL
open PySem.Builtin.List renaming listFitsIndex→abz
open PySem.Builtin.SmallTypes renaming nextOf→abG, ownedTupleHandOut→aqx
open PySem.Shared renaming TypeIs→abH
open _root_.List.cons renaming inj→ab0
theorem nS {P:Prop}(h:none=some a):P:=nomatch h
theorem nB {P:Prop}(h:false=true):P:=nomatch h
theorem nB' {P:Prop}(h:true=false):P:=nomatch h
set_option hygiene false in
local macro_rules |`(tactic|rfl')=>`(tactic|with_unfolding_all rfl)
inductive E|v (i:Nat)|n (k:Nat)|a (x y:E)|m (k:Nat) (x:E)
inductive I|c (x:E)|n (k:Int)|a (x y:I)|s (x y:I)
inductive Hy|f|le (x y:E)|lt (x y:E)|eq (x y:E)|il (x y:I)|it (x y:I)|ie (x y:I)|no (h:Hy)
inductive Ti|g (k l:Int) (h:Hy)|c (k l:Int) (h:Hy) (t:Ti)
noncomputable def E.o:E:=.v 0
noncomputable def E.i:E:=.v 1
noncomputable def E.u:E:=.v 2
noncomputable def E.w:E:=.v 3
noncomputable def E.x:E:=.v 4
noncomputable def E.y:E:=.v 5
noncomputable def E.j:E:=.n 1
noncomputable def E.k:E:=.n 0
noncomputable def E.t:E:=.n 10
noncomputable def I.j:I:=.n 1
noncomputable def I.k:I:=.n 0
noncomputable def Ti.le (x y:E)(t:Ti):Ti:=.c 1 0 (.le x y) t
noncomputable def Ti.lt (x y:E)(t:Ti):Ti:=.c 1 0 (.lt x y) t
noncomputable def Ti.eq (x y:E)(t:Ti):Ti:=.c 1 0 (.eq x y) t
noncomputable def Ti.gl (x y:E):Ti:=.g 1 0 (.le x y)
noncomputable def Ti.gt (x y:E):Ti:=.g 1 0 (.lt x y)
noncomputable def Ti.ge (x y:E):Ti:=.g 1 1 (.eq x y)
noncomputable def Sc (c:List Nat):Nat->Nat:=List.rec (λu=>0) (λx u r i=>Nat.rec x (λj u=>r j) i) c
def E.ev (c:List Nat)(e:E):Nat:=E.rec (λi=>Sc c i) (λk=>k) (λu u x y=>x+y) (λk u x=>k*x) e
noncomputable def I.ev (c:List Nat)(e:I):Int:=I.rec (λx=>(x.ev c:Int)) (λk=>k) (λu u x y=>x+y) (λu u x y=>x-y) e
def Hy.den (c:List Nat)(h:Hy):Prop:=Hy.rec False (λx y=>x.ev c<=y.ev c) (λx y=>x.ev c<y.ev c) (λx y=>x.ev c=y.ev c) (λx y=>x.ev c<=y.ev c) (λx y=>x.ev c<y.ev c) (λx y=>x.ev c=y.ev c) (λu p=>¬p) h
noncomputable def Ti.den (c:List Nat)(t:Ti):Prop:=Ti.rec (λx x h=>h.den c) (λx x h x p=>h.den c->p) t
noncomputable def ad (k:Int)(p q:List Int):List Int:=List.rec (λq=>List.rec [] (λy u r=>k*y::r) q) (λx p r q=>List.rec (x::p) (λy q u=>(x+k*y)::r q) q) p q
noncomputable def vp (c:List Nat)(p:List Int):Int:=List.rec (λu=>0) (λx u r c=>List.rec 0 (λ(y:Nat) c u=>x*y+r c) c) p c
noncomputable def ng (p:List Int):Bool:=List.rec true (λx u r=>decide (x<=0)&&r) p
theorem Sd k:∀q c,vp c (ad k [] q)=k*vp c q:=λq=>by
 induction q with
 |nil=>exact λc=>(JY k).symm|cons y q ih=>intro c;cases c with|nil=>exact(JY k).symm|cons z c=>show k*y*z+vp c (ad k [] q)=k*(y*z+vp c q);rw[ih c,Int.mul_add,Int.mul_assoc]
theorem nJ k:∀p q c,vp c (ad k p q)=vp c p+k*vp c q:=λp=>by
 induction p with
 |nil=>exact λq c=>(Sd k q c).trans (aa8 _).symm|cons x p ih=>intro q c;cases q with
  |nil=>show _=_+k*0;rw[JY,JZ];rfl|cons y q=>cases c with|nil=>show(0:Int)=0+k*0;rw[JY];rfl|cons z c=>show(x+k*y)*z+vp c (ad k p q)=x*z+vp c p+k*(y*z+vp c q);rw[ih q c,Int.mul_add,Int.add_mul,Int.mul_assoc];ac_rfl
noncomputable def un (i:Nat):List Int:=Nat.rec [1] (λx r=>0::r) i
def E.p (e:E):List Int:=E.rec (λi=>0::un i) (λk=>[(k:Int)]) (λu u x y=>ad 1 x y) (λk u x=>ad k [] x) e
noncomputable def I.p (e:I):List Int:=I.rec (λx=>x.p) (λk=>[k]) (λu u x y=>ad 1 x y) (λu u x y=>ad (-1) x y) e
theorem ab2:∀c i,vp c (un i)=(Sc c i:Int):=λc=>by
 induction c with
 |nil=>intro i;cases i<;>rfl|cons x c ih=>intro i;cases i with|zero=>exact(JZ _).trans (J0 _)|succ i=>show 0*x+vp c (un i)=_;rw[Int.zero_mul,aa8,ih];rfl
theorem E.nK c (e:E):vp (1::c) e.p=(e.ev c:Int):=by induction e with|v i=>show 0*1+vp c (un i)=_;rw[Int.zero_mul,aa8,ab2];rfl|n k=>show(k:Int)*1+0=_;rw[aa9,JZ];rfl|a x y hx hy=>show vp _ (ad 1 x.p y.p)=(x.ev c+y.ev c:Nat);rw[nJ,hx,hy,J0,QW]|m k x hx=>show vp _ (ad k [] x.p)=(k*x.ev c:Nat);rw[Sd,hx,Int.natCast_mul]
theorem I.nK c (e:I):vp (1::c) e.p=e.ev c:=by induction e with|c x=>exact x.nK _|n k=>show k*1+0=_;rw[aa9,JZ];rfl|a x y hx hy=>show vp _ (ad 1 x.p y.p)=_;rw[nJ,hx,hy,J0];rfl|s x y hx hy=>show vp _ (ad (-1) x.p y.p)=_;rw[nJ,hx,hy,Int.neg_one_mul,<-Int.sub_eq_add_neg];rfl
noncomputable def Hy.l (h:Hy):Bool:=Hy.rec true (λx x=>true) (λx x=>true) (λx x=>false) (λx x=>true) (λx x=>true) (λx x=>false) (λx x=>false) h
noncomputable def Hy.e (h:Hy):Bool:=Hy.rec false (λx x=>false) (λx x=>false) (λx x=>true) (λx x=>false) (λx x=>false) (λx x=>true) (λx x=>false) h
noncomputable def Hy.p (h:Hy):List Int:=Hy.rec [-1] (λx y=>ad (-1) y.p x.p) (λx y=>ad 1 [-1] (ad (-1) y.p x.p)) (λx y=>ad (-1) y.p x.p) (λx y=>ad (-1) y.p x.p) (λx y=>ad 1 [-1] (ad (-1) y.p x.p)) (λx y=>ad (-1) y.p x.p) (λh r=>h.l.rec [] (ad (-1) [-1] r)) h
theorem z7 c  k:vp (1::c) [k]=k:=by show k*1+0=_;rw[aa9,JZ]
theorem Cd c {p:List Int}(hp:vp c p=a)(hq:vp c q=b):vp c (ad (-1) q p)=b-a:=by rw[nJ,hp,hq,Int.neg_one_mul];rfl
theorem Se c {p:List Int}(hp:vp (1::c) p=a)(hq:vp (1::c) q=b):vp (1::c) (ad 1 [-1] (ad (-1) q p))= -1+(b-a):=by rw[nJ,Cd _ hp hq,z7,J0]
theorem Sf:a<b↔0<=-1+(b-a):=by lia
theorem Hy.li c {h:Hy}(e:h.l=true):h.den c↔0<=vp (1::c) h.p:=by cases h with|f=>exact⟨False.elim,λh=>absurd (z7 c (-1)▸h)<|by decide⟩|le x y=>show x.ev c<=y.ev c↔0<=vp _ (ad (-1) y.p x.p);exact Cd _ (x.nK c) (y.nK c)▸EV.symm.trans Int.sub_nonneg.symm|lt x y=>show x.ev c<y.ev c↔0<=vp _ (ad 1 [-1]<|ad (-1) y.p x.p);exact Se _ (x.nK c) (y.nK c)▸xt.symm.trans Sf|il x y=>show x.ev c<=y.ev c↔0<=vp _ (ad (-1) y.p x.p);rw[Cd _ (x.nK c)<|y.nK c];exact Int.sub_nonneg.symm|it x y=>show x.ev c<y.ev c↔0<=vp _ (ad 1 [-1]<|ad (-1) y.p x.p);rw[Se _ (x.nK c)<|y.nK c];exact Sf|eq=>exact nB e|ie=>exact nB e|no=>exact nB e
theorem Hy.ei c {h:Hy}(e:h.e=true):h.den c↔vp (1::c) h.p=0:=by cases h with|eq x y=>show x.ev c=y.ev c↔vp _ (ad (-1) y.p x.p)=0;rw[Cd _ (x.nK c)<|y.nK c];exact Int.ofNat_inj.symm.trans (eq_comm.trans Int.sub_eq_zero.symm)|ie x y=>show x.ev c=y.ev c↔vp _ (ad (-1) y.p x.p)=0;rw[Cd _ (x.nK c)<|y.nK c];exact eq_comm.trans Int.sub_eq_zero.symm|_=>exact nB e
noncomputable def Hy.ok (h:Hy)(k:Int):Bool:=h.e||decide (0<=k)
theorem Hy.sd c {h:Hy}{k:Int}(e:h.ok k=true)(d:h.den c):0<=k*vp (1::c) h.p:=by
 cases h1:h.e with
 |true=>rw[(Hy.ei c h1).1 d,JY];exact zG 0|false=>
  rw[Hy.ok,h1] at e;apply aa'<|of_decide_eq_true e;cases h2:h.l with
  |true=>exact(Hy.li c h2).1 d|false=>
   cases h with
   |no h=>
    show 0<=vp (1::c) (h.l.rec []<|ad (-1) [-1] h.p);cases h3:h.l with
    |false=>exact zG 0|true=>have:=mt (Hy.li c h3).2 d;rw[nJ,z7];lia
   |eq=>exact nB' h1|ie=>exact nB' h1|_=>exact nB' h2
theorem ab3:∀p c,ng p=true->vp c p<=0:=λp=>by
 induction p with
 |nil=>exact λu u=>zG 0|cons x p ih=>intro c h;cases c with|nil=>exact zG 0|cons y c=>have h:=iR.1 (show(decide (x<=0)&&ng p)=true from h);exact Int.add_le_add (Int.mul_nonpos_of_nonpos_of_nonneg (of_decide_eq_true h.1)<|mK y)<|ih c h.2
def ma (p:List Int):Bool:=ng (ad 1 [1] p)
theorem Fq c {p:List Int}(h:ma p=true):vp (1::c) p<0:=by have:=ab3 _ (1::c) h;rw[nJ,z7] at this;lia
def Hy.gk (h:Hy)(k l:Int)(p q:List Int):Bool:=Hy.rec (motive:=λx=>Bool) (ma p) (λx x=>ma (ad k p (ad (-1) [-1] h.p))&&decide (0<=k)) (λx x=>ma (ad k p (ad (-1) [-1] h.p))&&decide (0<=k)) (λx x=>(ma (ad k p (ad (-1) [-1] h.p))&&decide (0<=k))&&(ma (ad l q (ad 1 [-1] h.p))&&decide (0<=l))) (λx x=>ma (ad k p (ad (-1) [-1] h.p))&&decide (0<=k)) (λx x=>ma (ad k p (ad (-1) [-1] h.p))&&decide (0<=k)) (λx x=>(ma (ad k p (ad (-1) [-1] h.p))&&decide (0<=k))&&(ma (ad l q (ad 1 [-1] h.p))&&decide (0<=l))) (λh x=>ma (ad k p h.p)&&h.ok k) h
def Ti.ck (t:Ti):List Int->List Int->Bool:=Ti.rec (λk l h p q=>h.gk k l p q) (λk l h x r p q=>h.ok k&&(h.ok l&&r (ad k p h.p) (ad l q h.p))) t
theorem gA c {p:List Int}{k:Int}(hp:0<=vp (1::c) p)(e:(ma (ad k p (ad (-1) [-1] r))&&decide (0<=k))=true):0<=vp (1::c) r:=by have e:=iR.1 e;have h:=Fq c e.1;rw[nJ,nJ,z7] at h;refine sB.1 λhn=>sB.2 (J6 hp<|aa' (of_decide_eq_true e.2) ?_) h;lia
theorem gB c {p:List Int}{k:Int}(hp:0<=vp (1::c) p)(e:(ma (ad k p (ad 1 [-1] r))&&decide (0<=k))=true):vp (1::c) r<=0:=by have e:=iR.1 e;have h:=Fq c e.1;rw[nJ,nJ,z7] at h;refine sB.1 λhn=>sB.2 (J6 hp<|aa' (of_decide_eq_true e.2) ?_) h;lia
theorem Hy.gs c {h:Hy}{k l:Int}{p q:List Int}(hp:0<=vp (1::c) p)(hq:0<=vp (1::c) q)(e:h.gk k l p q=true):h.den c:=by
 have E1 {h:Hy} e1 (e:((ma (ad k p<|ad (-1) [-1] h.p)&&decide (0<=k))&&(ma (ad l q<|ad 1 [-1] h.p)&&decide (0<=l)))=true):h.den c:=
  have e:=iR.1 e
  (Hy.ei c e1).2 (Int.le_antisymm (gB c hq e.2)<|gA c hp e.1)
 cases h with|f=>exact sB.2 hp (Fq c e)|eq x y=>exact E1 rfl e|ie x y=>exact E1 rfl e|no h=>have e:=iR.1<|e;intro d;have:=Fq c e.1;rw[nJ] at this;exact sB.2 (J6 hp<|Hy.sd c e.2 d) this|_=>exact(Hy.li c rfl).2<|gA c hp e
theorem Ti.sd c (t:Ti):∀{p q},0<=vp (1::c) p->0<=vp (1::c) q->t.ck p q=true->t.den c:=by induction t with|g k l h=>exact λhp hq e=>Hy.gs c hp hq e|c k l h t ih=>intro p q hp hq e d;have e:=iR.1 e;have e2:=iR.1 e.2;exact ih (by rw[nJ];exact J6 hp<|Hy.sd c e.1 d) (by rw[nJ];exact J6 hq<|Hy.sd c e2.1 d) e2.2
theorem ah c (t:Ti)(h:t.ck [] []=true):t.den c:=t.sd c (p:=[]) (q:=[]) (zG 0) (zG 0) h
theorem fS (x y:Nat):x<=x-y+y:=Nat.le_add_of_sub_le<|aG _
theorem fD (x n:Nat)(h:nA 1 n=true):x<n*(x/n)+n:=Nat.lt_mul_div_succ x<|lj h
noncomputable def o1 {a b c:Nat}:=ah [a,b,c] (.lt .o .i (.c (-1) 0 (.eq .u .i) (.gt .o .u))) rfl
noncomputable def o2 {a b:Nat}:=ah [a,b] (.eq .o (.m 2 .i) (.c 2 0 (.le .i (.n 5)) (.gl .o .t))) rfl
noncomputable def o3 {a b c:Nat}:=ah [a,b,c] (.lt .o .i (.le .i .u (.gt .o .u))) rfl
noncomputable def o4 {a:Nat}:=ah [a] (.lt .o (.n (2^17)) (.gt .o (.n (2^40)))) rfl
noncomputable def o5 {a:Nat}:=ah [a] (.lt .o (.n (2^17)) (.gt .o (.n (2^18)))) rfl
noncomputable def o6 {a:Nat}:=ah [a] (.gl .k .o) rfl
noncomputable def o7 {a:Nat}:=ah [a] (.eq .o (.n 6) (.gt .o (.n (2^40)))) rfl
noncomputable def o8 {a b:Nat}:=ah [a,b] (.c 1 0 (.no (.lt .o .i)) (.gl .i .o)) rfl
noncomputable def o9 {a:Nat}:=ah [a] (.lt .o (.n (2^17)) (.gt .o (.n (2^20)))) rfl
noncomputable def pX {a:Nat}:=ah [a] (.le .o .t (.gt .o (.n (2^40)))) rfl
noncomputable def pY {a b:Nat}:=ah [a,b] (.gl .o (.a .o .i)) rfl
noncomputable def KC {a:Nat}:=ah [a] (.g 1 0 (.il .k (.c .o))) rfl
noncomputable def rr {a:Nat}:=ah [a] (.le .o .t (.gl .o (.n (2^20)))) rfl
noncomputable def rA {a:Nat}:=ah [a] (.c 2 0 (.le .o (.n 5)) (.gl (.m 2 .o) (.n (2^20)))) rfl
noncomputable def xN {a b:Nat}:=ah [a,b] (.lt .o .i (.gl .o .i)) rfl
noncomputable def sS {a:Nat}:=ah [a] (.le .o (.n 1000) (.gl .o (.n 1000000))) rfl
noncomputable def ug {a b c:Nat}:=ah [a,b,c] (.le (.a .o .i) .u (.gl .o .u)) rfl
noncomputable def Fs {a b c:Nat}:=ah [a,b,c] (.lt (.a .o .i) .u (.gt .o .u)) rfl
noncomputable def Ce {a b:Nat}:=ah [a,b,((a+b)/2)] (.lt (.a .o .i) (.a (.m 2 .u) (.n 2)) (.lt .o .i (.g 2 0 (.le .o .u)))) rfl (fD (a+b) 2 rfl)
noncomputable def Cf {a b:Nat}:=ah [a,b,((a+b)/2)] (.le (.m 2 .u) (.a .o .i) (.lt .o .i (.g 2 0 (.le (.a .u .j) .i)))) rfl (QX (a+b) 2)
noncomputable def z8 {a b:Nat}:=ah [a,b] (.eq .o (.m 2 .i) (.c 2 0 (.le .i (.n 5)) (.gl .o (.n 100)))) rfl
noncomputable def z9 {a b c:Nat}:=ah [a,b,c] (.ge (.a .o (.a .i .u)) (.a (.a .o .u) .i)) rfl
noncomputable def Aa {a b c:Nat}:=ah [a,b,c] (.ge (.a (.a .o .i) .u) (.a .o (.a .u .i))) rfl
noncomputable def uh {a b c:Nat}:=ah [a,b,c] (.le .o .i (.gl .o (.a .i .u))) rfl
noncomputable def Ft {a b:Nat}:=ah [a,b] (.g 1 0 (.il .k (.a (.c .o) (.c .i)))) rfl
noncomputable def Fu {a b c:Nat}:=ah [a,b,c] (.c 2 0 (.lt .o (.n (2^40))) (.lt .i .u (.c 2 0 (.le .u .o) (.g 1 0 (.it (.a (.c .i) (.c .u)) (.n (2^60))))))) rfl
noncomputable def Fx {a b c:Nat}:=ah [a,b,c,((a+b)/2)] (.le (.m 2 .w) (.a .o .i) (.lt .o .i (.c 2 0 (.le .i .u) (.g 2 0 (.lt .w .u))))) rfl (QX (a+b) 2)
noncomputable def Fy {a b c:Nat}:=ah [a,b,c,((b+a)/2)] (.le (.m 2 .w) (.a .i .o) (.le .o (.a .i (.a .u .j)) (.g 2 0 (.le .w (.a .i .u))))) rfl (QX (b+a) 2)
noncomputable def Fz {a b c d:Nat}:=ah [a,b,c,d,((b+a)/2)] (.lt (.a .i .o) (.a (.m 2 .x) (.n 2)) (.le .o (.a .i (.a .u .w)) (.g 2 0 (.le .o (.a (.a .x .w) .u))))) rfl (fD (b+a) 2 rfl)
noncomputable def FA {a b:Nat}:=ah [a,b] (.le .o .i (.c 0 1 (.no (.lt .o .i)) (.ge .o .i))) rfl
noncomputable def FB {a b:Nat}:=ah [a,b] (.gl .o (.a .i .o)) rfl
noncomputable def Sh {a b c d e:Nat}:=ah [a,b,c,d,e] (.lt (.a .o (.m 8 (.a .i .j))) .u (.le .w (.n 6) (.le .x .w (.gt (.a (.a .o .j) .x) .u)))) rfl
noncomputable def Cg {a:Nat}:=ah [a] (.le .o (.n 200) (.gt .o (.n (2^24)))) rfl
noncomputable def o36 {a b c:Nat}:=ah [a,b,c] (.eq .o .i (.le .i .u (.gl .o .u))) rfl
noncomputable def xO {a b c d:Nat}:=ah [a,b,c,d] (.c 1 (-1) (.eq (.a .o (.a .i .u)) .w) (.ge (.a (.a .o .u) .i) .w)) rfl
noncomputable def Ci {a:Nat}:=ah [a] (.lt .o .t (.gt .o (.n (2^40)))) rfl
noncomputable def Cj {a:Nat}:=ah [a] (.le .o .t (.gt .o (.n (2^20)))) rfl
noncomputable def FC {a b:Nat}:=ah [a,b] (.ge (.a .o .i) (.a .i .o)) rfl
noncomputable def Ck {a:Nat}:=ah [a] (.lt .o (.n (2^17)) (.g 1 0 (.no (.il (.n (2^63)) (.c .o))))) rfl
noncomputable def Si {a:Nat}:=ah [a] (.lt .o .t (.g 1 0 (.il (.c .o) (.n 1000000)))) rfl
noncomputable def Cm {a:Nat}:=ah [a] (.le .o (.n 100) (.gl .o (.n 200))) rfl
noncomputable def FD {a b:Nat}:=ah [a,b] (.le .o .t (.le .i .o (.gl .i (.n (2^24))))) rfl
noncomputable def ui {a b:Nat}:=ah [a,b] (.lt .o (.m 2 .i) (.c 2 0 (.le .i (.n 5)) (.gt .o .t))) rfl
theorem Sj {a b c:Nat}:a=b+c->min b a=b:=λh=>zH<|h▸vH b c
noncomputable def FE {a:Nat}:=ah [a] (.le .o (.n 100) (.gt .o (.n (2^40)))) rfl
noncomputable def FF {a b c d:Nat}:=ah [a,b,c,d] (.le (.a .o (.a .i .u)) .w (.gl (.a (.a .o .u) .i) .w)) rfl
noncomputable def FG {a:Nat}:=ah [a] (.le .o (.n 5) (.gl .o (.n (2^20)))) rfl
noncomputable def FH {a:Nat}:=ah [a] (.le .o (.n 1000000) (.gl .o (.n (2^24)))) rfl
noncomputable def FI {a b c:Nat}:=ah [a,b,c] (.c 1 (-1) (.eq .o .i) (.c (-1) 1 (.eq .u .i) (.ge .o .u))) rfl
noncomputable def Sk {a b c:Nat}:=ah [a,b,c] (.lt .o .i (.eq .i .u (.gt .o .u))) rfl
noncomputable def FJ {a b:Nat}:=ah [a,b] (.lt .o (.n 64) (.c (-1) 0 (.eq .o .i) (.gl .i (.n 16777216)))) rfl
noncomputable def o55 {a b c:Nat}:=ah [a,b,c] (.le .o .i (.gl .o (.a .u .i))) rfl
noncomputable def Sl {a:Nat}:=ah [a] (.lt .o (.n (2^40)) (.g 1 0 (.it (.c .o) (.n (2^63))))) rfl
noncomputable def FK {a b:Nat}:=ah [a,b] (.lt .o (.n (2^17)) (.le .i .o (.gl .i (.n (2^20))))) rfl
noncomputable def KD {a:Nat}:=ah [a] (.lt .o (.n (2^18)) (.gt .o (.n (2^40)))) rfl
noncomputable def KE {a:Nat}:=ah [a] (.gl .o .o) rfl
noncomputable def KF {a:Nat}:=ah [a] (.lt .o (.n (2^16)) (.gt .o (.n (2^17)))) rfl
noncomputable def Sm {a b c:Nat}:=ah [a,b,c] (.le .o .i (.gl (.a .o .u) (.a .i .u))) rfl
noncomputable def KG {a:Nat}:=ah [a] (.ge (.a .k .o) .o) rfl
noncomputable def KH {a:Nat}:=ah [a] (.le .o .t (.gt .o (.n (2^16)))) rfl
noncomputable def o64 {a b c:Nat}:=ah [a,b,c] (.lt .o .i (.gt .o (.a .i .u))) rfl
noncomputable def KJ {a b c d:Nat}:=ah [a,b,c,d] (.lt (.a .o (.a .i .u)) .w (.gt (.a (.a .o .u) .i) .w)) rfl
noncomputable def KL {a:Nat}:=ah [a] (.le .o (.n 1000000) (.gt .o (.n (2^24)))) rfl
noncomputable def KM {a:Nat}:=ah [a] (.g 1 0 (.il (.n (-2^63)) (.c .o))) rfl
noncomputable def o68 {a b:Nat}:=ah [a,b] (.le .o .i (.gl (.a .o .j) (.a .i .j))) rfl
noncomputable def KN {a b:Nat}:=ah [a,b] (.eq .o .i (.le .i .t (.gl .o (.n (2^20))))) rfl
noncomputable def KO {a b:Nat}:=ah [a,b] (.c (-1) 0 (.eq .o .i) (.gl .i .o)) rfl
noncomputable def FL {a b c:Nat}:=ah [a,b,c] (.eq (.a .o (.a .i .j)) .u (.gt .o .u)) rfl
noncomputable def KP {a b:Nat}:=ah [a,b] (.lt .o .i (.g 1 0 (.no (.ie (.c .i) .k)))) rfl
theorem KQ:(¬0=11+a∧¬0=12+a∧¬0=13+a)∧(¬1=11+a∧¬1=12+a∧¬1=13+a)∧(¬2=11+a∧¬2=12+a∧¬2=13+a)∧¬3=11+a∧¬3=12+a∧¬3=13+a:=by have h:∀{k c},k<c->¬k=c+a:=λh=>Nat.ne_of_lt<|Nat.lt_add_right a h;exact⟨⟨h (by decide),h (by decide),h<|by decide⟩,⟨h (by decide),h (by decide),h<|by decide⟩,⟨h (by decide),h (by decide),h<|by decide⟩,h (by decide),h (by decide),h<|by decide⟩
noncomputable def KR {a b c:Nat}:=ah [a,b,c] (.lt .o .i (.gt (.a .u .o) (.a .u .i))) rfl
noncomputable def Sn {a b c:Nat}:=ah [a,b,c] (.lt .o .i (.lt .i .u (.gt .o .u))) rfl
noncomputable def KS {a:Nat}:=ah [a] (.lt .o (.n (2^20)) (.g 1 0 (.it (.c .o) (.n 9223372036854775808)))) rfl
noncomputable def KU {a:Nat}:=ah [a] (.lt .o (.n (2^17)) (.gt (.a .o .j) (.n (2^18)))) rfl
noncomputable def KV {a b:Nat}:=ah [a,b] (.lt .o .i (.g (-1) 0 (.no (.ie (.c .o) (.c .i))))) rfl
noncomputable def o80 {a:Nat}:=ah [a] (.g 1 0 (.no (.it (.c .o) .k))) rfl
theorem o83 {a b:Nat}:a<=b->min a b=a:=zH
noncomputable def So {a:Nat}:=ah [a] (.g 1 1 (.ie (.a (.c .o) .j) (.c (.a .o .j)))) rfl
theorem Sp:a<b->min (a+1) b=a+1:=λh=>zH h
noncomputable def Sq {a b:Nat}:=ah [a,b] (.c 1 0 (.no (.le .o .i)) (.gl .i .o)) rfl
noncomputable def Ss {a b c:Nat}:=ah [a,b,c] (.eq .o .i (.c 1 0 (.no (.le .u .i)) (.gl .o .u))) rfl
theorem Su:a<=10->a*20<=2^24:=λh=>fC (apZ 20 h) (by decide)
theorem Sv:a<=10->b<=a*20->b<=200:=λh k=>fC k<|apZ 20 h
noncomputable def Sw {a:Nat}:=ah [a] (.le .o (.n 200) (.gl .o (.n 1000))) rfl
noncomputable def Sy {a b c:Nat}:=ah [a,b,c] (.ge (.a (.a .o (.a .i .u)) .k) (.a (.a .o .u) .i)) rfl
noncomputable def Sz {a b:Nat}:=ah [a,b] (.eq .o .i (.le .i (.n 5) (.gl .o .t))) rfl
noncomputable def SA {a:Nat}:=ah [a] (.le .o .t (.gl .o (.n 1000))) rfl
noncomputable def SB {a b c d:Nat}:=ah [a,b,c,d] (.le (.a .o .i) .u (.lt .w .o (.gt .w .u))) rfl
noncomputable def SD {a:Nat}:=ah [a] (.gt (.a (.n 13) .o) (.a (.n 14) .o)) rfl
theorem SE {a b:Nat}:a<2^18->b<a->-2^63<=(↑b:Int)∧(↑b:Int)<2^63:=λh k=>⟨QY (by decide)<|mK b,ap0 (xt.mpr<|xu k h)<|by decide⟩
noncomputable def SF {a:Nat}:=ah [a] (.lt .o (.n (2^18)) (.gl .o (.n (2^24)))) rfl
noncomputable def SG {a:Nat}:=ah [a] (.lt .o (.n (2^18)) (.gl .o (.n (2^20)))) rfl
noncomputable def SH {a b:Nat}:=ah [a,b] (.lt .o .i (.g (-1) 0 (.no (.eq .o .i)))) rfl
noncomputable def SI {a:Nat}:=ah [a] (.ge (.a (.a (.a (.a (.a (.a (.a (.a (.a (.a (.a .o .j) .j) .j) .j) .j) .j) .j) .j) .j) .j) .j) (.a (.n 11) .o)) rfl
noncomputable def SJ {a:Nat}:=ah [a] (.lt .o .o (.g 0 0 (.f))) rfl
noncomputable def SK {a:Nat}:=ah [a] (.ge (.a (.n 13) .o) (.a (.a (.n 11) .o) (.n 2))) rfl
noncomputable def SL {a:Nat}:=ah [a] (.ge (.a (.n 12) .o) (.a (.a (.n 11) .o) .j)) rfl
noncomputable def SM {a b:Nat}:=ah [a,b] (.lt .o (.n (2^17)) (.le .i (.a .o .j) (.gt .i (.n (2^18))))) rfl
noncomputable def SN {a:Nat}:=ah [a] (.lt .o (.n (2^17)) (.gt .o (.n (2^24)))) rfl
noncomputable def SO {a b c:Nat}:=ah [a,b,c] (.ge (.a (.a .o .i) .u) (.a .o (.a .i .u))) rfl
noncomputable def SQ {a b:Nat}:=ah [a,b,(min a b)] (.le .u .i (.c (-1) 0 (.eq .u .o) (.gl .o .i))) rfl (xx a b)
noncomputable def SR {a:Nat}:=ah [a] (.le .o (.n 100) (.g 1 0 (.no (.il (.n (2^63)) (.c .o))))) rfl
noncomputable def SS {a:Nat}:=ah [a] (.le (.n 41) .o (.gl .j .o)) rfl
noncomputable def SU {a:Nat}:=ah [a] (.le (.n 41) .o (.gl (.n 32) .o)) rfl
noncomputable def SV {a b c:Nat}:=ah [a,b,c] (.le (.a .o (.a .i .j)) .u (.gt .o .u)) rfl
theorem SW {a:Nat}:2*(↑a:Int)=(↑(2*a):Int):=(Int.natCast_mul 2 a).symm
noncomputable def SX {a:Nat}:=ah [a] (.le .o (.n (2^20)) (.gl .o (.n (2^24)))) rfl
noncomputable def KW {a:Nat}:=ah [a,(9-a)] (.le (.n 9) (.a .i .o) (.le .o (.n 5) (.gt .k .i))) rfl (fS 9 a)
noncomputable def SY {a b:Nat}:=ah [a,b] (.eq .o .i (.le .i (.n 5) (.gt .o (.n (2^40))))) rfl
noncomputable def SZ {a:Nat}:=ah [a] (.le .j .o (.gt .k .o)) rfl
noncomputable def Ta {a:Nat}:=ah [a] (.le (.n 51) .o (.gl (.n 41) .o)) rfl
noncomputable def Tb {a:Nat}:=ah [a] (.le (.n 51) .o (.gl (.n 47) .o)) rfl
noncomputable def Td {a:Nat}:=ah [a] (.le (.n 51) .o (.gl (.a (.n 41) (.n 3)) .o)) rfl
noncomputable def Te {a:Nat}:=ah [a] (.le (.n 51) .o (.gl (.a (.n 44) (.n 3)) .o)) rfl
noncomputable def Tf {a:Nat}:=ah [a] (.le .o (.n 6) (.gl .o .t)) rfl
noncomputable def KY {a:Nat}:=ah [a] (.le .o (.n 5) (.gl .o .t)) rfl
noncomputable def ab' {a b c d:Nat}:=ah [a,b,c,d] (.lt (.a .o (.a .i .u)) .w (.gt (.a .o .i) .w)) rfl
noncomputable def Tg {a b c:Nat}:=ah [a,b,c] (.lt .o .i (.eq .u .o (.gt .u .i))) rfl
noncomputable def Th {a b c:Nat}:=ah [a,b,c,(min c a)] (.le .w .o (.le .o .i (.gl .w .i))) rfl (xx c a)
noncomputable def Tj {a:Nat}:=ah [a] (.lt .o (.n (2^20)) (.gt .o (.n (2^40)))) rfl
noncomputable def Tk {a:Nat}:=ah [a] (.lt .o (.n (2^20)) (.g 1 0 (.it (.c .o) (.n (2^63))))) rfl
theorem Tn {a b c:Nat}:a=b->a-c<=b-c:=λh=>ll<|congrArg (· - c) h
noncomputable def To {a:Nat}:=ah [a] (.le .o (.n 1000) (.gl .o (.n (2^24)))) rfl
theorem Tp:a<b->b-1<b:=λh=>aba (q7 (dQ _) h) abb
noncomputable def aca {a b:Nat}:=ah [a,b,(b-1)] (.le .i (.a .u .j) (.lt .o .i (.gl .o .u))) rfl (fS b 1)
noncomputable def Tq {a:Nat}:=ah [a] (.gl (.a .o .j) (.a .o (.n 2))) rfl
theorem Ts:a<4->a=0∨a=1∨a=2∨a=3:=λh=>(abc.mp h).elim (λh=>(abc.mp h).elim (λh=>(abc.mp h).elim (λh=>.inl<|Nat.lt_one_iff.mp h) λe=>.inr<|.inl e) λe=>.inr<|.inr<|.inl e) λe=>.inr<|.inr<|.inr e
noncomputable def Tt {a b:Nat}:=ah [a,b] (.le (.n 1000) .o (.le .i (.n 100) (.gl (.a .j .i) .o))) rfl
noncomputable def Tu {a b c:Nat}:=ah [a,b,c] (.lt .o .i (.gt (.a (.n 11) .o) (.a (.a (.n 14) .i) .u))) rfl
noncomputable def Tv {a b:Nat}:=ah [a,b] (.lt .o .i (.gt (.a (.n 11) .o) (.a (.n 14) .i))) rfl
noncomputable def Tw {a:Nat}:=ah [a] (.le .o (.n 1000000) (.g 1 0 (.it (.c .o) (.n (2^63))))) rfl
theorem Tx {a b:Nat}:a<2^40->b<a->-2^63<=(↑b:Int)∧(↑b:Int)<2^63:=λh k=>⟨QY (by decide)<|mK b,ap0 (xt.mpr<|xu k h)<|by decide⟩
noncomputable def Tz {a b:Nat}:=ah [a,b] (.lt .o .i (.le .i .t (.gt .o (.n (2^40))))) rfl
noncomputable def TA {a:Nat}:=ah [a] (.le .o .t (.gl .o (.n 1000000))) rfl
noncomputable def TB {a:Nat}:=ah [a] (.le .o (.n 1000000) (.gl (.a .o .j) (.n (2^24)))) rfl
noncomputable def TC {a b:Nat}:=ah [a,b] (.le .o .j (.le .i (.n 1000000) (.gl (.a .i .o) (.n (2^24))))) rfl
noncomputable def TD {a b c:Nat}:=ah [a,b,c] (.le (.a .o .i) .u (.gl .i .u)) rfl
noncomputable def TE {a b c d:Nat}:=ah [a,b,c,d] (.le (.a .o (.a .i .u)) .w (.gl .i .w)) rfl
noncomputable def TF {a b c:Nat}:=ah [a,b,c] (.le (.a (.a .o .i) .i) (.a .u .i) (.gl .o .u)) rfl
noncomputable def TG {a b c d e:Nat}:=ah [a,b,c,d,e] (.le (.a .o (.a (.a .i .u) .u)) .w (.eq .x (.a .o .u) (.gl (.a .x .i) .w))) rfl
noncomputable def TH {a b c:Nat}:=ah [a,b,c] (.le (.a .o .i) (.a .u .i) (.gl .o .u)) rfl
noncomputable def TI {a b c d e:Nat}:=ah [a,b,c,d,e] (.le (.a .o (.a .i .u)) .w (.eq .x (.a .o .u) (.gl (.a .x .i) .w))) rfl
noncomputable def TJ {a b c:Nat}:=ah [a,b,c] (.lt .o (.n (2^17)) (.lt .i .o (.eq .u .i (.gt .u (.n (2^17)))))) rfl
noncomputable def TK {a b c:Nat}:=ah [a,b,c] (.lt .o (.n (2^17)) (.lt .i .o (.eq .u .i (.gt .u (.n (2^18)))))) rfl
noncomputable def TL {a b c:Nat}:=ah [a,b,c] (.lt .o (.n (2^17)) (.lt .i .o (.le .u .i (.gl (.a .j .u) (.n 1048576))))) rfl
noncomputable def TM {a b:Nat}:=ah [a,b] (.lt .o (.n (2^16)) (.eq .i .o (.gl (.a .j .i) (.n 1048576)))) rfl
noncomputable def K4 {a:Nat}:=ah [a] (.c 2 0 (.le .o (.n 5)) (.gl (.m 2 .o) .t)) rfl
noncomputable def TN {a b:Nat}:=ah [a,b] (.eq .o .i (.le .i (.n 5) (.gl .o (.n 1000000)))) rfl
theorem TO:¬a%2=1->a%2=0:=λh=>(abd a).resolve_right h
noncomputable def acb {a b c:Nat}:=ah [a,b,c] (.le .o .i (.le .i .u (.gl .o .u))) rfl
noncomputable def TP {a b:Nat}:=ah [a,b] (.lt .o (.n (2^20)) (.le .i .o (.g 1 0 (.it (.c .i) (.n (2^63)))))) rfl
noncomputable def TQ {a b:Nat}:=ah [a,b] (.lt .o (.n (2^20)) (.c (-1) 0 (.eq .i (.n (2^24))) (.gl .o .i))) rfl
noncomputable def TR {a:Nat}:=ah [a] (.lt .o (.n (2^17)) (.gt .o (.n 262144))) rfl
noncomputable def TT {a:Nat}:=ah [a] (.le .o (.n 100) (.gl .o (.n 1000000))) rfl
noncomputable def TU {a:Nat}:=ah [a] (.le .o (.n 11) (.gt .o (.n 64))) rfl
noncomputable def acd {a b c d e:Nat}:=ah [a,b,c,d,e,((a+1)-d),(min ((a+1)-d) e)] (.le .y (.a .o .j) (.le (.v 6) .y (.lt .o .i (.le .i .u (.gl (.v 6) .u))))) rfl (lm (a+1) d) (EW ((a+1)-d) e)
noncomputable def ace {a b c d:Nat}:=ah [a,b,c,d,((a+1)-c),(min ((a+1)-c) d)] (.le .x (.a .o .j) (.le .y .x (.lt .o .i (.le .i .t (.gl .y (.n 1000)))))) rfl (lm (a+1) c) (EW ((a+1)-c) d)
noncomputable def acf {a b:Nat}:=ah [a,b,(a-b)] (.le .u .o (.gl .u .o)) rfl (lm a b)
noncomputable def acg {a b c:Nat}:=ah [a,b,c,(min b c)] (.le .w .i (.lt .o .w (.g (-1) 0 (.no (.eq .o .i))))) rfl (EW b c)
noncomputable def ach {a b c d:Nat}:=ah [a,b,c,d,(min a d)] (.le .x .o (.eq (.a .o .i) .u (.le .u (.n 5) (.gl .x (.n (2^24)))))) rfl (EW a d)
noncomputable def aci {a b:Nat}:=ah [a,b,(max a b)] (.le .o .u (.gl .o .u)) rfl (Nat.le_max_left a b)
noncomputable def acj {a b c:Nat}:=ah [a,b,c,(max c b)] (.le .i .w (.le .o .i (.gl .o .w))) rfl (Nat.le_max_right c b)
noncomputable def ack {a b:Nat}:=ah [a,b,(min a b)] (.le .u .o (.gl .u .o)) rfl (EW a b)
noncomputable def acl {a:Nat}:=ah [a,(min 60 a)] (.le .i (.n 60) (.gl .i (.n (2^20)))) rfl (EW 60 a)
noncomputable def acm {a b:Nat}:=ah [a,b,(a-b),(min b a)] (.le .u .o (.le .w .o (.c 2 0 (.le .o .t) (.gl (.a .u .w) (.n 1000))))) rfl (lm a b) (xx b a)
noncomputable def acn {a b c:Nat}:=ah [a,b,c,(a-c),(min c a)] (.le .w .o (.le .x .o (.c 2 0 (.eq .o .i) (.c 2 0 (.le .i .t) (.gl (.a .w .x) (.n (2^24))))))) rfl (lm a c) (xx c a)
noncomputable def aco {a b c:Nat}:=ah [a,b,c,(b-c)] (.le .w .i (.c (-1) 0 (.eq .o .i) (.gl .w .o))) rfl (lm b c)
noncomputable def acp {a b c d e:Nat}:=ah [a,b,c,d,e,(a-(e+1))] (.le .y .o (.eq .o .i (.le .i .u (.le .u .w (.gl .y .w))))) rfl (lm a (e+1))
noncomputable def acq {a b c:Nat}:=ah [a,b,c,(b-c)] (.le .w .i (.lt .o .w (.gt .o .i))) rfl (lm b c)
noncomputable def acr {a b:Nat}:=ah [a,b,(a-1)] (.le .u .o (.lt .o .i (.gt .u .i))) rfl (lm a 1)
noncomputable def acs {a b c:Nat}:=ah [a,b,c,(a-b)] (.le .w .o (.c (-1) 0 (.ie (.c .w) (.c .u)) (.lt .o (.n (2^17)) (.gt .u (.n (2^20)))))) rfl (lm a b)
noncomputable def act {a b c d:Nat}:=ah [a,b,c,d,(a-b)] (.le .x .o (.le (.a .o .i) .u (.le .w .i (.gl (.a .w .x) .u)))) rfl (lm a b)
noncomputable def acu {a b c:Nat}:=ah [a,b,c,(max a b)] (.le .o .w (.le .w .u (.gl .o .u))) rfl (Nat.le_max_left a b)
noncomputable def acv {a b c:Nat}:=ah [a,b,c,(max a b)] (.le .i .w (.le .w .u (.gl .i .u))) rfl (Nat.le_max_right a b)
noncomputable def acw {a b:Nat}:=ah [a,b,((2*b)-(a+1))] (.le .u (.m 2 .i) (.lt .o (.m 2 .i) (.c 5 0 (.le .i (.n 5)) (.gl (.a (.a .o .j) .u) (.n (2^20)))))) rfl (lm (2*b) (a+1))
noncomputable def acx {a b:Nat}:=ah [a,b,((2*a)-b)] (.le .u (.m 2 .o) (.c 2 0 (.le .o (.n 5)) (.gl .u (.n (2^20))))) rfl (lm (2*a) b)
noncomputable def acy {a b:Nat}:=ah [a,b,((2*a)-b)] (.le .u (.m 2 .o) (.c 2 0 (.le .o (.n 5)) (.gl .u .t))) rfl (lm (2*a) b)
noncomputable def acz {a b c:Nat}:=ah [a,b,c,((a+b)/2)] (.le (.m 2 .w) (.a .o .i) (.lt .o .i (.c 2 0 (.le .i .u) (.g 2 0 (.le .w .u))))) rfl (QX (a+b) 2)
noncomputable def acA {a:Nat}:=ah [a,(min a 0)] (.le .i .k (.ge .i .k)) rfl (xx a 0)
noncomputable def acB {a b c d:Nat}:=ah [a,b,c,d,(a-b),(a-0)] (.le .x .o (.le .o (.a .y .k) (.c (-1) 0 (.eq .x .u) (.c (-1) 0 (.eq .u .w) (.gl .w .y))))) rfl (lm a b) (fS a 0)
noncomputable def acC {a b c d:Nat}:=ah [a,b,c,d,(c-d),(a-d),(min (c-d) (a-d))] (.le .y .o (.le (.v 6) .y (.eq .o .i (.gl (.v 6) .i)))) rfl (lm a d) (xx (c-d) (a-d))
theorem u1 {a b c:Nat}:a<=b->b+c-a=b-a+c:=λh=>Nat.sub_add_comm h
theorem u2 {a b:Nat}:a<=b->a+(b-a)=b:=λh=>ap1 h
noncomputable def u3 {a b c d:Nat}:=ah [a,b,c,d] (.le (.a .o .i) .u (.lt .w .i (.gt (.a .o .w) .u))) rfl
theorem u4:a-b=c+1->b<a:=λh=>Nat.sub_pos_iff_lt.mp<|h▸vI c
noncomputable def u5 {a b c:Nat}:=ah [a,b,c] (.lt .o .i (.eq .i (.m 2 .u) (.c 2 0 (.le .u (.n 5)) (.gt .o .t)))) rfl
noncomputable def u6 {a b c:Nat}:=ah [a,b,c] (.c 1 (-1) (.eq (.a .o .i) .u) (.ge (.a (.a .o .j) .i) (.a .u .j))) rfl
noncomputable def u7 {a b c:Nat}:=ah [a,b,c] (.c 1 (-1) (.eq (.a .o .i) .u) (.ge (.a .o (.a .i .j)) (.a .u .j))) rfl
theorem u8 {a b c d:Nat}:a+b=c->c<=d->a+(d-a)=d:=λh k=>ap1<|fC (h▸vH a b) k
noncomputable def u9 {a b c d e:Nat}:=ah [a,b,c,d,e] (.lt (.m 2 .o) .i (.eq .i (.m 2 .u) (.c 2 0 (.le (.a .w .u) .x) (.g 2 0 (.lt (.a .w .o) .x))))) rfl
noncomputable def TV {a b:Nat}:=ah [a,b] (.le .o (.m 2 .i) (.c 2 0 (.le .i (.n 5)) (.gl .o .t))) rfl
noncomputable def u11 {a b:Nat}:=ah [a,b,(a-b)] (.c 0 1 (.le .o (.a .u .i)) (.c 0 1 (.eq .u .k) (.le .i .o (.ge .i .o)))) rfl (fS a b)
structure fe where
 args:pL
 body:List bl
 scope:d8
 deriving Inhabited
noncomputable def kP (name:Str):List bl->Option fe
 |[]=>none|s::r=>match s with
   |.FunctionDef n a b x u o sc z w v=>if n==name then some ⟨a,b,sc⟩ else kP name r|_=>kP name r
noncomputable def pZ (cls name:Str):List bl->Option fe
 |[]=>none|s::r=>match s with
   |.ClassDef n x u b o z w v q t y=>if n==cls then kP name b else pZ cls name r|_=>pZ cls name r
noncomputable def fw:List bl:=abe.main.body
def oL:fe:=(kP "_iter_escaped_chars" fw).getD default
def Cn:fe:=(pZ "Headers" "items" fw).getD default
def uj:fe:=(pZ "Headers" "setdefault" fw).getD default
def uk:fe:=(pZ "Headers" "__init__" fw).getD default
def mQ:fe:=(kP "_strip_quoted_realnames" fw).getD default
def qc:fe:=(kP "_check_parenthesis" fw).getD default
def ef:fe:=(kP "_law_desk" fw).getD default
def xP:fe:=(pZ "_netrclex" "_read_char" fw).getD default
def qd:fe:=(pZ "_netrclex" "get_token" fw).getD default
def Co:fe:=(pZ "_netrclex" "push_token" fw).getD default
def Cp:fe:=(pZ "_netrclex" "__init__" fw).getD default
def Ab:fe:=(pZ "Headers" "_convert_string_type" fw).getD default
def nL:fe:=(pZ "Headers" "get" fw).getD default
def xQ:fe:=(pZ "Headers" "add_header" fw).getD default
def f9:fe:=(kP "bisect_right" fw).getD default
def gL:fe:=(kP "bisect_left" fw).getD default
def kh:fe:=(kP "_law_even" fw).getD default
def Cq:fe:=(kP "_law_spelled" fw).getD default
def Ac:fe:=(kP "insort_right" fw).getD default
def Ad:fe:=(kP "insort_left" fw).getD default
def qe:fe:=(kP "_law_turned" fw).getD default
def Cr:fe:=(kP "_law_table" fw).getD default
def wa:fe:=(kP "_law_chains" fw).getD default
def cH:fe:=(kP "_law_pairings" fw).getD default
def wb:fe:=(kP "law" fw).getD default
noncomputable def fP (nm qn:Str)(D:fe)(df kw md cd:an):el:={name:=nm,qualname:=qn,params:=D.args,body:=.stmts D.body,scope:=D.scope,globals:=jy,closure:=[],defaults:=df,kwdefaults:=kw,pyModule:=md,code:=cd}
noncomputable def en (P:BX)(x:Str)(t:Tok)(v:an):nC:=⟨q8 P x,.str x t,v⟩
def Cs:el:=fP "__init__" "Headers.__init__" uk (.ref 69) (.none) (.str "cpy313.wsgiref.headers" 289) (.ref 75)
def Ct:el:=fP "_convert_string_type" "Headers._convert_string_type" Ab (.none) (.none) (.str "cpy313.wsgiref.headers" 289) (.ref 82)
def Cu:el:=fP "get" "Headers.get" nL (.ref 124) (.none) (.str "cpy313.wsgiref.headers" 289) (.ref 130)
def FM:el:=fP "items" "Headers.items" Cn (.none) (.none) (.str "cpy313.wsgiref.headers" 289) (.ref 147)
def FN:el:=fP "setdefault" "Headers.setdefault" uj (.none) (.none) (.str "cpy313.wsgiref.headers" 289) (.ref 173)
def Cv:el:=fP "add_header" "Headers.add_header" xQ (.none) (.none) (.str "cpy313.wsgiref.headers" 289) (.ref 180)
def K5:el:=fP "insort_right" "insort_right" Ac (.ref 189) (.ref 190) (.str "cpy313.bisect" 555) (.ref 196)
def xR:el:=fP "bisect_right" "bisect_right" f9 (.ref 198) (.ref 199) (.str "cpy313.bisect" 555) (.ref 205)
def K6:el:=fP "insort_left" "insort_left" Ad (.ref 207) (.ref 208) (.str "cpy313.bisect" 555) (.ref 214)
def Ae:el:=fP "bisect_left" "bisect_left" gL (.ref 216) (.ref 217) (.str "cpy313.bisect" 555) (.ref 223)
def K7:el:=fP "_iter_escaped_chars" "_iter_escaped_chars" oL (.none) (.none) (.str "cpy313.email.utils" 611) (.ref 230)
def Cw:el:=fP "_strip_quoted_realnames" "_strip_quoted_realnames" mQ (.none) (.none) (.str "cpy313.email.utils" 611) (.ref 237)
def K8:el:=fP "_check_parenthesis" "_check_parenthesis" qc (.none) (.none) (.str "cpy313.email.utils" 611) (.ref 244)
def Af:el:=fP "__init__" "_netrclex.__init__" Cp (.none) (.none) (.str "cpy313.netrc" 645) (.ref 258)
def Ag:el:=fP "_read_char" "_netrclex._read_char" xP (.none) (.none) (.str "cpy313.netrc" 645) (.ref 265)
def FO:el:=fP "get_token" "_netrclex.get_token" qd (.none) (.none) (.str "cpy313.netrc" 645) (.ref 272)
def FP:el:=fP "push_token" "_netrclex.push_token" Co (.none) (.none) (.str "cpy313.netrc" 645) (.ref 279)
def FQ:el:=fP "_law_desk" "_law_desk" ef (.none) (.none) (.str "law_tc0073_02" 705) (.ref 293)
def K9:el:=fP "_law_spelled" "_law_spelled" Cq (.none) (.none) (.str "law_tc0073_02" 705) (.ref 300)
def La:el:=fP "_law_even" "_law_even" kh (.none) (.none) (.str "law_tc0073_02" 705) (.ref 307)
def Lb:el:=fP "_law_turned" "_law_turned" qe (.none) (.none) (.str "law_tc0073_02" 705) (.ref 312)
def Lc:el:=fP "_law_table" "_law_table" Cr (.none) (.none) (.str "law_tc0073_02" 705) (.ref 317)
def Ld:el:=fP "_law_chains" "_law_chains" wa (.none) (.none) (.str "law_tc0073_02" 705) (.ref 322)
def TW:el:=fP "_law_pairings" "_law_pairings" cH (.none) (.none) (.str "law_tc0073_02" 705) (.ref 327)
def TX:el:=fP "law" "law" wb (.none) (.none) (.str "law_tc0073_02" 705) (.ref 332)
noncomputable def cW (a:Nat)(nm qn:Str)(t:Nat)(l n p q:Int)(c r:Nat)(x y:an):ai×Obj:=(a,⟨.type "code",none,.fields #[.str nm t,.str qn (t+1),.str "/claim/cut.py" (t+2),.int l 0,.int n 0,.int 0 0,.int p 0,.int q 0,.ref r,.bool true,.int 276 0,.ref (r+1),.none,x,y,.ref (a-1),.int c 0,.int l 0,.str "/claim/cut.py" (c+1)],#[]⟩)
def cO (a:Nat)(nm qn:Str)(t:Nat)(l n p q:Int)(c:Nat):ai×Obj:=cW a nm qn t l n p q c (a-5) (.ref (a-3)) (.ref (a-2))
def cN (a:Nat)(nm qn:Str)(t:Nat)(l n p q:Int)(c:Nat):ai×Obj:=cW a nm qn t l n p q c (a-3) .none .none
noncomputable def fO (a:Nat)(f:el):ai×Obj:=(a,⟨.type "function",none,.func f,#[]⟩)
def kF (P:BX):Frag:=[(2,⟨.none,none,.dict #[en P "\x69mport.loaded._sre" 183 (.bool true),en P "class._frozen_importlib.BuiltinImporter" 185 (.ref 14),en P "watched.\x69mport" 206 (.ref 18),en P "class._frozen_importlib.ModuleSpec" 216 (.ref 22),en P "sys.modules.booked-epoch" 245 (.int 3 0),en P "\x69mport.later-laid._sre" 270 (.bool true),en P "watched.library" 272 (.ref 27),en P "watched.library-objects" 0 (.str "\x0c" 0),en P "watched.library-deep._sre" 273 (.str "\x04\x00\x00\x0b\x04\x00\x00\x0b\x04\x00\x00\x03\x04\x00\x00\x0b\x08\x04dict\x02" 0)] 9,#[]⟩),(3,⟨.type "dict",none,.dict #[en P "__name__" 165 (.str "law_tc0073_02" 705),en P "__doc__" 166 (.none),en P "__package__" 167 (.none),en P "__loader__" 168 (.builtin "__main__.__loader__#opaque"),en P "__spec__" 169 (.none),en P "__annotations__" 170 (.ref 6),en P "__builtins__" 171 (.ref 4),en P "__file__" 173 (.str "/claim/cut.py" 172),en P "__cached__" 174 (.none),en P "_sre" 275 (.ref 12),en P "_wall" 288 (.ref 38),en P "tspecials" 324 (.ref 43),en P "_name_disallowed_re" 350 (.ref 48),en P "_value_disallowed_re" 384 (.ref 53),en P "_formatparam" 394 (.ref 61),en P "Headers" 554 (.ref 184),en P "insort_right" 569 (.ref 197),en P "bisect_right" 583 (.ref 206),en P "insort_left" 596 (.ref 215),en P "bisect_left" 610 (.ref 224),en P "_iter_escaped_chars" 622 (.ref 231),en P "_strip_quoted_realnames" 634 (.ref 238),en P "_check_parenthesis" 644 (.ref 245),en P "_netrclex" 704 (.ref 283),en P "_law_desk" 715 (.ref 294),en P "_law_spelled" 725 (.ref 301),en P "_law_even" 733 (.ref 308),en P "_law_turned" 739 (.ref 313),en P "_law_table" 745 (.ref 318),en P "_law_chains" 751 (.ref 323),en P "_law_pairings" 757 (.ref 328),en P "law" 763 (.ref 333)] 32,#[]⟩),(47,⟨.type "tuple",none,.seq #[.int 14 0,.int 10 0,.int 4 0,.int 1 0,.int 1 0,.int 22 0,.int 0 0,.int 31 0,.int 16 0,.int 127 0,.int 0 0,.int 13 0,.int 7 0,.int 22 0,.int 0 0,.int 31 0,.int 16 0,.int 127 0,.int 0 0,.int 1 0] 0,#[]⟩),(48,⟨.type "re.Pattern",none,.fields #[.str "[\\x00-\\x1F\\x7F]" 326,.int 32 349,.int 0 0,.none,.none,.ref 47,.int 0 0],#[]⟩),(52,⟨.type "tuple",none,.seq #[.int 14 0,.int 14 0,.int 4 0,.int 1 0,.int 1 0,.int 9 0,.int 4294966783 0,.int 0 0,.int 0 0,.int 2147483648 0,.int 0 0,.int 0 0,.int 0 0,.int 0 0,.int 0 0,.int 13 0,.int 11 0,.int 9 0,.int 4294966783 0,.int 0 0,.int 0 0,.int 2147483648 0,.int 0 0,.int 0 0,.int 0 0,.int 0 0,.int 0 0,.int 1 0] 0,#[]⟩),(53,⟨.type "re.Pattern",none,.fields #[.str "[\\x00-\\x08\\x0A-\\x1F\\x7F]" 352,.int 32 383,.int 0 0,.none,.none,.ref 52,.int 0 0],#[]⟩),(69,⟨.type "tuple",none,.seq #[.none] 0,#[]⟩),cO 75 "__init__" "Headers.__init__" 407 20 2 0 3 414,fO 76 Cs,cO 82 "_convert_string_type" "Headers._convert_string_type" 417 30 2 1 3 424,fO 83 Ct,(124,⟨.type "tuple",none,.seq #[.none] 0,#[]⟩),cO 130 "get" "Headers.get" 473 58 3 0 3 481,fO 131 Cu,cO 147 "items" "Headers.items" 496 71 1 0 3 500,fO 148 FM,cO 173 "setdefault" "Headers.setdefault" 523 83 3 0 3 530,fO 174 FN,cO 180 "add_header" "Headers.add_header" 533 91 3 0 11 543,fO 181 Cv,(183,⟨.type "dict",none,.dict #[en P "__module__" 402 (.str "cpy313.wsgiref.headers" 289),en P "__firstlineno__" 406 (.int 18 405),en P "__init__" 416 (.ref 76),en P "_convert_string_type" 426 (.ref 83),en P "__len__" 433 (.ref 90),en P "__setitem__" 442 (.ref 97),en P "__delitem__" 448 (.ref 102),en P "__getitem__" 456 (.ref 109),en P "__contains__" 464 (.ref 116),en P "get_all" 472 (.ref 123),en P "get" 483 (.ref 131),en P "keys" 489 (.ref 136),en P "values" 495 (.ref 141),en P "items" 502 (.ref 148),en P "__repr__" 509 (.ref 155),en P "__str__" 515 (.ref 160),en P "__bytes__" 522 (.ref 167),en P "setdefault" 532 (.ref 174),en P "add_header" 545 (.ref 181),en P "__static_attributes__" 547 (.ref 182),en P "__dict__" 549 (.ref 185),en P "__weakref__" 551 (.ref 186),en P "__doc__" 552 (.none)] 4,#[]⟩),(184,⟨.type "type",none,.cls {name:="Headers",bases:=[.type "object"],mro:=[.ref 184,.type "object"],ns:=183,qualname:="Headers",hasDict:=true,slotNames:=[],subclasses:=[],abstract:=false,collection:=none,hasDel:=false},#[none,none,some (.str "Headers" 395),some (.str "Headers" 403),some (.builtin "object.__new__"),some (.bool true)]⟩),(189,⟨.type "tuple",none,.seq #[.int 0 557,.none] 0,#[]⟩),(190,⟨.type "dict",none,.dict #[en P "key" 558 (.none)] 1,#[]⟩),cO 196 "insort_right" "insort_right" 559 105 4 1 3 567,fO 197 K5,(198,⟨.type "tuple",none,.seq #[.int 0 570,.none] 0,#[]⟩),(199,⟨.type "dict",none,.dict #[en P "key" 571 (.none)] 1,#[]⟩),cO 205 "bisect_right" "bisect_right" 572 111 4 1 3 581,fO 206 xR,(207,⟨.type "tuple",none,.seq #[.int 0 584,.none] 0,#[]⟩),(208,⟨.type "dict",none,.dict #[en P "key" 585 (.none)] 1,#[]⟩),cO 214 "insort_left" "insort_left" 586 131 4 1 3 594,fO 215 K6,(216,⟨.type "tuple",none,.seq #[.int 0 597,.none] 0,#[]⟩),(217,⟨.type "dict",none,.dict #[en P "key" 598 (.none)] 1,#[]⟩),cO 223 "bisect_left" "bisect_left" 599 137 4 1 3 608,fO 224 Ae,cO 230 "_iter_escaped_chars" "_iter_escaped_chars" 613 158 1 0 35 620,fO 231 K7,cO 237 "_strip_quoted_realnames" "_strip_quoted_realnames" 623 171 1 0 3 632,fO 238 Cw,cO 244 "_check_parenthesis" "_check_parenthesis" 635 189 1 0 3 642,fO 245 K8,cO 258 "__init__" "_netrclex.__init__" 659 203 2 0 3 664,fO 259 Af,cO 265 "_read_char" "_netrclex._read_char" 667 209 1 0 3 672,fO 266 Ag,cO 272 "get_token" "_netrclex.get_token" 675 215 1 0 3 682,fO 273 FO,cO 279 "push_token" "_netrclex.push_token" 685 242 2 0 3 690,fO 280 FP,(282,⟨.type "dict",none,.dict #[en P "__module__" 654 (.str "cpy313.netrc" 645),en P "__firstlineno__" 658 (.int 201 657),en P "__init__" 666 (.ref 259),en P "_read_char" 674 (.ref 266),en P "get_token" 684 (.ref 273),en P "push_token" 692 (.ref 280),en P "__static_attributes__" 697 (.ref 281),en P "__dict__" 699 (.ref 284),en P "__weakref__" 701 (.ref 285),en P "__doc__" 702 (.none)] 4,#[]⟩),(283,⟨.type "type",none,.cls {name:="_netrclex",bases:=[.type "object"],mro:=[.ref 283,.type "object"],ns:=282,qualname:="_netrclex",hasDict:=true,slotNames:=[],subclasses:=[],abstract:=false,collection:=none,hasDel:=false},#[none,none,some (.str "_netrclex" 647),some (.str "_netrclex" 655),some (.builtin "object.__new__"),some (.bool true)]⟩),cO 293 "_law_desk" "_law_desk" 707 245 1 0 3 713,fO 294 FQ,cO 300 "_law_spelled" "_law_spelled" 716 250 2 0 3 723,fO 301 K9,cO 307 "_law_even" "_law_even" 726 254 1 0 3 731,fO 308 La,cN 312 "_law_turned" "_law_turned" 734 258 2 0 3 737,fO 313 Lb,cN 317 "_law_table" "_law_table" 740 287 2 0 3 743,fO 318 Lc,cN 322 "_law_chains" "_law_chains" 746 289 2 0 3 749,fO 323 Ld,cN 327 "_law_pairings" "_law_pairings" 752 295 2 0 3 755,fO 328 TW,cN 332 "law" "law" 758 350 1 0 3 761,fO 333 TX]
noncomputable def TY:List ai:=[2,3,47,48,52,53,69,75,76,82,83,124,130,131,147,148,173,174,180,181,183,184,189,190,196,197,198,199,205,206,207,208,214,215,216,217,223,224,230,231,237,238,244,245,258,259,265,266,272,273,279,280,282,283,293,294,300,301,307,308,312,313,317,318,322,323,327,328,332,333]
noncomputable def ul:List (ai×ai):=[(293,289),(327,325)]
noncomputable def rW:RowW:=(J8.row).toRowW
noncomputable def acE:List Nat:=[0,1,3,4,5,7,14,15,16,18,20,21,22,23,24,25,26,27]
def vw:q9:=view abe acE
noncomputable def TZ:List Str:=["tspecials","_name_disallowed_re","_value_disallowed_re","_formatparam","insort_right","bisect_right","insort_left","bisect_left"]
def Le (s:az):List (Option Obj)×List (Option Obj)×Bool:=(TY.map s.heap.get?,[289,325].map s.heap.get?,ft 0 s.toks)
def Lf (w:pM):List (Option Obj)×List (Option Obj)×Bool:=((kF w.params).map λp=>some p.2,[some (xy #[]),some (xy #[])],true)
noncomputable def btq:List Obj->Nat->BT->Option BT
 |[],_,t=>some t|o::l,n,t=>match ((t.ins n o).get n).isSome with
  |true=>btq l (n+1) (t.ins n o)|false=>none
theorem btS (f:Life):∀l n t t',btq l n t=some t'->absHeap t' (n+l.length) f=⟨(absHeap t n f).objs++l.toArray,f⟩
 |[],n,t,t',h=>by obtain rfl:=Option.some.inj h;show absHeap t n f=⟨_++#[],f⟩;rw[Array.append_empty];rfl|o::l,n,t,t',h=>by rw[btq] at h;cases g:((t.ins n o).get n).isSome with|false=>rw[g] at h;cases h|true=>rw[g] at h;have:=btS f l _ _ _ h;rw[List.length_cons,show n+(l.length+1)=n+1+l.length from Nat.add_right_comm n l.length 1,this,absHeap_ins g];show Heap.mk _ _=Heap.mk _ _;congr 1;show (absHeap t n f).objs.push o++_=_;simp
noncomputable def tRT (tb:String->Option Builtin)(p:Program)(w:World)(m:Nat)(ann:Option Value):Nat->SharedT->Thread->Option SharedT
 |0,_,_=>none|n+1,s,t=>match through t with
  |true=>some s|false=>match stepOk m ann t with
   |false=>none|true=>match stepT (denote tb) p w s t with
    |some (s',t')=>tRT tb p w m ann n s' t'|none=>none
theorem tRS {tb:String->Option Builtin}{p:Program}{w:World}{m:Nat}{ann:Option Value}:∀n s t r,tRT tb p w m ann n s t=some r->topRun tb p w m ann n s.abs t=some r.abs
 |0,_,_,_,h=>by cases h|n+1,s,t,r,h=>by
  rw[tRT] at h;rw[topRun];cases c:through t with
  |true=>rw[c] at h;obtain rfl:=Option.some.inj h;rfl|false=>
   rw[c] at h;cases d:stepOk m ann t with
   |false=>rw[d] at h;cases h|true=>rw[d] at h;cases e:stepT (denote tb) p w s t with|none=>rw[e] at h;cases h|some y=>obtain⟨s',t'⟩:=y;rw[e] at h;dsimp only;rw[stepT_spec e];exact tRS n s' t' r h
noncomputable def tFT (tb:String->Option Builtin)(p:Program)(w:World)(N:Nat)(s:Shared):Option Shared:=
 match s.heap.isNs mainGlobals&&s.gens.size==0 with
 |true=>(btq s.heap.objs.toList 0 .nil).bind λT=>(tRT tb p w s.heap.objs.size (s.heap.nsMap mainGlobals "__annotations__") N ⟨T,s.heap.objs.size,s.heap.life,s.gens,s.drawn,s.toks,s.os⟩ (topStub p)).bind λS=>match staticsOk (importedModules p.main.body) s.heap S.abs.heap&&namesBound p S.abs.heap&&gensDone S.abs&&laidKept s.heap S.abs.heap with
  |true=>some S.abs
  |false=>none
 |false=>none
theorem tFS {tb:String->Option Builtin}{p:Program}{w:World}{N:Nat}{s r:Shared}(h:tFT tb p w N s=some r):topFrom tb p w N s=some r:=by
 rw[tFT] at h;rw[topFrom];cases c:s.heap.isNs mainGlobals&&s.gens.size==0 with
 |false=>rw[c] at h;cases h|true=>
  rw[c] at h;dsimp only at h ⊢;obtain⟨T,h1,h⟩:=Option.bind_eq_some_iff.mp h;obtain⟨S,h2,h⟩:=Option.bind_eq_some_iff.mp h;have e:=btS s.heap.life _ _ _ _ h1;have e2:(absHeap T s.heap.objs.size s.heap.life)=s.heap:=by rw[Nat.zero_add] at e;exact e.trans (by show Heap.mk (#[]++s.heap.objs.toList.toArray) s.heap.life=s.heap;simp)
  have z:=tRS _ _ _ _ h2;rw[show (SharedT.mk T s.heap.objs.size s.heap.life s.gens s.drawn s.toks s.os).abs=s from by show Shared.mk _ _ _ _ _=s;rw[e2]] at z;rw[z];exact h
theorem lqT {p q:Program}{loose:List Str}{Xt:Shared->Bool}{α:Type}{Yf:Shared->α}{Ya:World->α}{N:Nat}{g0:Bool}(h:∀w,((fencedOpening treeTable p w N).bind (tFT treeTable p w N)).map (λs=>(openSeen q loose (importedModules p.main.body) Xt g0 s,Yf s))=some (openGood q loose,Ya w)):LeftO p q loose Xt Yf Ya N g0:=λw=>by obtain⟨r,h1,h2⟩:=Option.map_eq_some_iff.mp<|h w;obtain⟨s,h3,h4⟩:=Option.bind_eq_some_iff.mp h1;show ((fencedOpening treeTable p w N).bind<|topFrom treeTable p w N).map _=_;rw[h3];show (topFrom treeTable p w N s).map _=_;rw[tFS h4];exact congrArg some h2
theorem aqY:LeftO abe vw TZ (λs=>xlAt vw [] s&&recOk (RowW.records rW) s) Le Lf 3860:=lqT λw=>by kernel_rfl
section
set_option genInjectivity true in
inductive CV where|none|bool (b:Bool)|int (i:Int)|str (s:Str)|ab (n:Nat)|cB (xs:List CV)|sl (xs:List CV)|fW (a b c:Int)|aH (a:ai)|bi (id:String)|ty (n:String)|any
 deriving Inhabited
noncomputable def CV.ctorIdx (x:CV):Nat:=CV.casesOn x 0 (λx=>1) (λx=>2) (λx=>3) (λx=>4) (λx=>5) (λx=>6) (λx x x=>7) (λx=>8) (λx=>9) (λx=>10) 11
inductive ae where|list (xs:List CV)|frame (vars:List (Str×CV))|cell (v:Option CV)|bE (C:ai) (d:Nat)|bt (es:List (Str×CV))|map (es:List (Str×CV))|d3 (params:pL) (body:aq) (scope:d8) (cells:List (Str×Nat)) (dict:Option Nat)|bg (f:ai) (qf:Nat)|jf (f:Nat) (Ah:Str)|mR|ki (x:Str) (i:Nat)|gc (n:Nat) (i:Nat)|iz|qg
 deriving Inhabited
noncomputable def ae.ctorIdx (x:ae):Nat:=ae.casesOn x (λx=>0) (λx=>1) (λx=>2) (λx x=>3) (λx=>4) (λx=>5) (λx x x x x=>6) (λx x=>7) (λx x=>8) 9 (λx x=>10) (λx x=>11) 12 13
structure Cx where
 prog:q9
 w:pM
 K:Frag
 p:q9
 loose:List Str
 acF:ExcName->Option an
 mg:Str->Option an
 mb:Str->Option an
 H:bf
 cU:List (ai×ai)
structure um where
 w:pM
 s:az
 mg:Str->Option an
 mb:Str->Option an
 lo:List Str
 me:ExcName->Option an
 Ai:ai
 vs:List an
 zs:List Int
structure um.Ok (e:um):Prop where
 hT:TabsAt ul e.s.heap
 fw:Top topProg e.lo e.me e.mg e.mb (ghostOf e.s.heap ul)
 KI:(kF e.w.params).In (ghostOf e.s.heap ul)
 hL:e.s.heap.IsList e.Ai e.vs.toArray
 hI:IntsAre e.vs e.zs
 hz:e.zs.length<=63
 tk:e.s.toks≠0
 hg:e.s.gens = #[]
def um.Aj (e:um):Prop:=be (aQ rW.prog e.w) callerA (call (.ref 333) [.ref e.Ai]) (λv s'=>v=.bool true∧OldK e.s.heap s'.heap∧s'.os=e.s.os∧AllBare s'.gens) (λx x=>False) e.s
theorem acG:Nonempty um:=⟨⟨⟨λx x=>0,⟨λx=>0,λx=>0,λt=>t,λx=>0,λx x=>0,λx=>false,λx=>0,.refcount,.text,λx=>0,λx=>none,λx=>false,λx x x=>true,λx x x=>true,true,λx=>false,λx=>none,λx=>none,λx x x=>0,λx x=>none,λx=>none,λx=>(0,false,""),λx=>none,λd=>d,λx=>false⟩⟩,{},λx=>none,λx=>none,[],λx=>none,0,[],[]⟩⟩
noncomputable def e0:um:=@Classical.epsilon _ acG λe=>e.Ok∧¬e.Aj
theorem acH (h:e0.Ok->e0.Aj)(e:um)(k:e.Ok):e.Aj:=Classical.byContradiction λn=>
 have q:=@Classical.epsilon_spec _ (λe:um=>e.Ok∧¬e.Aj) ⟨e,k,n⟩
 q.2 (h q.1)
@[irreducible] noncomputable def X:Cx:=⟨rW.prog,e0.w,kF e0.w.params,topProg,e0.lo,e0.me,e0.mg,e0.mb,ghostOf e0.s.heap ul,ul⟩
abbrev Cx.P (X:Cx):List ai:=X.cU.map (·.2)
structure Cx.Ok (X:Cx):Prop where
 fw:Top X.p X.loose X.acF X.mg X.mb X.H
 k:X.K.In X.H
 code:CodeAll X.cU X.H
 T3:∀q∈X.P,X.H.get? q=none
def P0:BX:=X.w.params
theorem hX:X.K=kF P0:=by rfl'
theorem Cy:X.cU=ul:=by rfl'
theorem FR:X.H=ghostOf e0.s.heap ul:=by rfl'
theorem acI (k:e0.Ok):X.Ok:=⟨by with_unfolding_all exact k.fw,by with_unfolding_all exact k.KI,by rw[Cy,FR];exact ghost_code k.hT,λq hq=>by rw[Cx.P,Cy] at hq;exact FR▸hideAll_none _ hq⟩
noncomputable def mc:an->String->Bool
 |.type t,s=>decide (t=s)|x,u=>false
noncomputable def rB (vs:Array an):Bool:=match vs[1]? with
 |some (an.str x u)=>true|_=>false
def T4 (c:an):Data->Bool
 |.seq x u=>mc c "tuple"|.fields vs=>mc c "slice"||(mc c "range"||(rB vs&&!mc c "callable_iterator"))|_=>false
def eO (o:Obj):Prop:=T4 o.cls o.data=true
theorem FS:eO {cls:=.type "tuple",data:=.seq vs n}:=rfl
theorem acJ:eO {cls:=.type "slice",data:=.fields vs}:=(Bool.true_or<|mc (.type "slice") "range"||(rB vs&&!mc (.type "slice") "callable_iterator"))
theorem acK:eO {cls:=.type "range",data:=.fields vs}:=(congrArg (mc (.type "range") "slice"||·)<|Bool.true_or<|rB vs&&!mc (.type "range") "callable_iterator").trans<|abf _
theorem acL (h:c≠.type s):mc c s=false:=by
 cases e:mc c s with
 |false=>rfl|true=>cases c with|type t=>exact absurd (congrArg an.type<|of_decide_eq_true e) h|_=>exact nB e
theorem FT {o:Obj}{t:Tok}(h1:o.data=.fields vs)(h2:vs[1]?=some (.str q t))(h3:o.cls≠.type "callable_iterator"):eO o:=by
 have e:rB vs=true:=by unfold rB;rw[h2]
 unfold eO;rw[h1];show(mc o.cls "slice"||(mc o.cls "range"||(rB vs&&!mc o.cls "callable_iterator")))=true;rw[acL h3,e];show(mc o.cls "slice"||(mc o.cls "range"||true))=true;rw[abf,abf]
abbrev FU (o:Obj):Prop:=eO o
inductive acM (own:List ai)(n:Nat)(v:an):Prop|mk (a:ai) (e:own[n]?=some a) (q:v=.ref a)
inductive acN (own:List ai)(h:bf)(R:List an->Prop)(v:an):Prop|mk (a:ai) (vs:List an) (n:Nat) (e:v=.ref a) (hn:a∉own) (hp:a∉X.P) (ho:h.get? a=some {cls:=.type "tuple",data:=.seq vs.toArray n}) (hr:R vs)
inductive SlR (own:List ai)(h:bf)(R:List an->Prop)(v:an):Prop|mk (a:ai) (vs:List an) (e:v=.ref a) (hn:a∉own) (hp:a∉X.P) (ho:h.get? a=some {cls:=.type "slice",data:=.fields vs.toArray}) (hr:R vs)
inductive acP (own:List ai)(h:bf)(a b c:Int)(v:an):Prop|mk (r:ai) (t u w:Tok) (e:v=.ref r) (hn:r∉own) (hp:r∉X.P) (ho:IsRange h r a b c t u w)
inductive acQ {α:Type}(P:α->Prop)(Q:List α->Prop)(vs:List α):Prop|mk (v:α) (r:List α) (e:vs=v::r) (hv:P v) (hr:Q r)
mutual
noncomputable def RelV (own:List ai)(h:bf):CV->an->Prop
 | .none,v=>v = .none
 | .bool b,v=>v = .bool b
 | .int i,v=>∃t,v = .int i t
 | .str x,v=>∃t,v = .str x t
 | .ab n,v=>acM own n v
 | .cB xs,v=>acN own h (aF own h xs) v
 | .sl xs,v=>SlR own h (aF own h xs) v
 | .fW a b c,v=>acP own h a b c v
 | .aH a,v=>v = .ref a
 | .bi id,v=>v = .builtin id
 | .ty n,v=>v = .type n
 | .any,u=>False
noncomputable def aF (own:List ai)(h:bf):List CV->List an->Prop
 | [],vs=>vs = []
 | x::xs,vs=>acQ (RelV own h x) (aF own h xs) vs
end
def kQ (own:List ai)(h:bf):Option CV->Option an->Prop
 |none,v=>v=none|some x,v=>∃y,v=some y∧RelV own h x y
def uo (own:List ai)(h:bf)(c:Option CV)(v:Option an):Prop:=c=some .any∨kQ own h c v
inductive acR (x:Str)(P:an->Prop)(Q:List nC->Prop)(es:List nC):Prop|mk (t:Tok) (v:an) (ls:List nC) (e:es=⟨q8 X.w.params x,.str x t,v⟩::ls) (hv:P v) (hr:Q ls)
noncomputable def gm (own:List ai)(h:bf):List (Str×CV)->List nC->Prop
 |[],es=>es=[]|(x,c)::r,es=>acR x (RelV own h c) (gm own h r) es
inductive T5 {α:Type}(x:Str)(P:α->Prop)(Q:List (Str×α)->Prop)(es:List (Str×α)):Prop|mk (v:α) (ls:List (Str×α)) (e:es=(x,v)::ls) (hv:P v) (hr:Q ls)
noncomputable def cf (own:List ai)(h:bf):List (Str×CV)->List (Str×an)->Prop
 |[],k=>k=[]|(x,c)::r,k=>T5 x (RelV own h c) (cf own h r) k
noncomputable def gZ (own:List ai):List (Str×Nat)->List (Str×ai)->Prop
 |[],cs=>cs=[]|(x,n)::r,cs=>T5 x (λa=>own[n]?=some a) (gZ own r) cs
noncomputable def Lg (own:List ai):Option Nat->Option ai->Prop
 |none,d=>d=none|some n,d=>∃a,own[n]?=some a∧d=some a
inductive acS (h:bf)(R:List an->Prop)(a:ai):Prop|mk (vs:List an) (n:Nat) (e:h.get? a=some {cls:=.type "list",data:=.seq vs.toArray n}) (q:R vs)
inductive acT (h:bf)(R:List (Str×an)->Prop)(a:ai):Prop|mk (kvs:List (Str×an)) (o:Obj) (e:h.get? a=some o) (f:o.IsDictOf (strKind X.prog X.w) kvs) (q:R kvs)
inductive xS (own:List ai)(h:bf)(jN:an):Prop|mk (c:ai) (e:jN=.ref c) (hn:c∉own) (hp:c∉X.P) (hi:∀o,h.get? c=some o->o.cls≠.type "callable_iterator")
inductive acU (own:List ai)(h:bf)(params:pL)(body:aq)(scope:d8)(cells:List (Str×Nat))(dict:Option Nat)(a:ai):Prop|mk (name qual:Str) (cl:List (Str×ai)) (pm jN ct:an) (d:Option ai) (e:h.get? a=some {cls:=.type "function",dict:=d,data:=.func (vJ name qual params body scope cl pm jN ct)})
   (c1:∃q,h.CodeRec jN q) (c2:xS own h jN) (c3:gZ own cells cl) (c4:Lg own dict d)
inductive T6 (own:List ai)(k:Nat)(P:ai->Prop):Prop|mk (x:ai) (e:own[k]?=some x) (q:P x)
inductive acV (own:List ai)(h:bf)(f:Nat)(Ah:Str)(a:ai):Prop|mk (x:ai) (t:Tok) (e:own[f]?=some x) (q:h.get? a=some {cls:=.type "callable_iterator",data:=.fields #[.ref x,.str Ah t,.bool false]})
inductive acW (own:List ai)(h:bf)(n i:Nat)(a:ai):Prop|mk (it:ai) (jg:an) (e:own[n]?=some it) (q:zI h a it i jg)
def Rep (own:List ai)(h:bf):ae->ai->Prop
 |.list xs,a=>acS h (aF own h xs) a|.frame vars,a=>∃m,h.Ns a m∧∀x,uo own h (vars.lookup x) (m x)|.cell c,a=>∃v,h.IsCell a v∧kQ own h c v|.bE C d,a=>T6 own d λdx=>h.get? a=some (instObj C dx)|.bt es,a=>∃dA n,h.get? a=some (BY dA n)∧gm own h es dA|.map es,a=>acT h (cf own h es) a|.d3 params body scope cells dict,a=>acU own h params body scope cells dict a|.bg f qf,a=>T6 own qf λx=>h.get? a=some (methodObj (.ref f) (.ref x))|.jf f Ah,a=>acV own h f Ah a|.mR,a=>h.get? a=some {cls:=.type "callable_iterator",data:=.fields #[.none,.none,.bool true]}|.ki x i,a=>∃t,h.IsStrIter a (jM x) x t i|.gc n i,a=>acW own h n i a|.iz,a=>(∃n,h.get? a=some (BY [] n))∧(a==sysModules)=false|.qg,a=>∃o,h.get? a=some o∧¬FU o
structure sT (s s':az):Prop where
 os:s'.os=s.os
 gens:∀(i:Nat) (g:vK),s.gens[i]?=some g->s'.gens[i]?=some g
theorem sT.of (h:s'.os=s.os)(hg:s'.gens=s.gens):sT s s':=⟨h,λi g e=>by rwa[hg]⟩
theorem sT.trans (a:sT s s₁)(b:sT s₁ aR):sT s aR:=⟨b.os.trans a.os,λi g e=>b.gens i g<|a.gens i g e⟩
structure a9 (own:List ai)(s:az)(av:List ai)(s':az):Prop where
 pre:∃r,av=own++r
 new:∀a∈av,a∈own∨s.heap.get? a=none
 bj:∀b o,s.heap.get? b=some o->b∉own->b∉X.P->s'.heap.get? b=some o
 cU:∀q∈X.P,∀o,s.heap.get? q=some o->∃o',s'.heap.get? q=some o'
 os:sT s s'
theorem Obj.uq {o:Obj}{T:String}(h1:o.cls=.type T)(h2:o.data=.fields vs)(h4:T≠"slice")(h5:T≠"range")(h6:rB vs=false):¬eO o:=λh=>by unfold eO at h;rw[h1,h2] at h;have h:(decide (T="slice")||(decide (T="range")||(rB vs&&!mc (.type T) "callable_iterator")))=true:=h;rw[h6,decide_eq_false h4,decide_eq_false h5] at h;exact nB h
theorem FV {o:Obj}(h:o.data=D)(hD:∀c,T4 c D=false):¬eO o:=λq=>nB<|(hD o.cls).symm.trans<|h▸q
theorem T7 vs:¬eO {cls:=.type "callable_iterator",data:=.fields vs}:=λh=>by have h:(decide ("callable_iterator"="slice")||(decide ("callable_iterator"="range")||(rB vs&&!decide ("callable_iterator"="callable_iterator"))))=true:=h;rw[abg] at h;exact nB h
theorem Rep.ob {o:ae}(r:Rep own h o a):∃ob,h.get? a=some ob∧¬eO ob:=by cases o with|list=>obtain⟨_,_,e,_⟩:=r;exact⟨_,e,λq=>nB q⟩|frame=>obtain⟨_,⟨_,_,_,e,e2,_⟩,_⟩:=r;exact⟨_,e,FV e2 λx=>rfl⟩|cell=>obtain⟨_,⟨_,e,e2⟩,_⟩:=r;exact⟨_,e,FV e2 λx=>rfl⟩|bE=>obtain⟨_,_,e⟩:=r;exact⟨_,e,λq=>nB q⟩|bt=>obtain⟨_,_,e,_⟩:=r;exact⟨_,e,λq=>nB q⟩|map=>obtain⟨_,_,e,⟨_,_,_,e2,_⟩,_⟩:=r;exact⟨_,e,FV e2 λx=>rfl⟩|d3=>obtain⟨_,_,_,_,_,_,_,e,_⟩:=r;exact⟨_,e,λq=>nB q⟩|bg=>obtain⟨_,_,e⟩:=r;exact⟨_,e,Obj.uq rfl rfl (by decide) (by decide) rfl⟩|jf=>obtain⟨_,_,_,e⟩:=r;exact⟨_,e,T7 _⟩|mR=>exact⟨_,r,T7 _⟩|ki=>obtain⟨_,_,e,e2,e3⟩:=r;exact⟨_,e,Obj.uq e2 e3 (by unfold jM;split<;>decide) (by unfold jM;split<;>decide) rfl⟩|gc=>obtain⟨_,_,_,e⟩:=r;exact⟨_,e,Obj.uq rfl rfl (by decide) (by decide) rfl⟩|iz=>obtain⟨⟨_,e⟩,_⟩:=r;exact⟨_,e,λq=>nB q⟩|qg=>exact r
theorem Rep.rC {o:ae}(r:Rep own h o a){ob:Obj}(e:h.get? a=some ob):¬FU ob:=by obtain⟨_,e1,h1⟩:=r.ob;rw[e] at e1;obtain rfl:=dE e1;exact h1
theorem Rep.qh {o:ae}(r:Rep own h o a):∃ob,h.get? a=some ob:=r.ob.imp λx h=>h.1
inductive T8 (h:bf)(cv:an):Prop|mk (c':ai) (o:Obj) (vs:Array an) (q:Str) (t:Tok) (e1:cv=.ref c') (e2:c'∉X.P) (e3:h.get? c'=some o) (e4:o.data=.fields vs) (e5:vs[1]?=some (.str q t)) (e6:o.cls≠.type "callable_iterator")
def xT (h:bf)(ps:List an):Prop:=∀pos cv,vL pos ps=some cv->T8 h cv
def Ak (h:bf)(P:ai):Prop:=∃ps,h.get? P=some (xy ps)∧J9 ps.toList∧xT h ps.toList
theorem xT.bj (k:∀b o,h.get? b=some o->eO o->b∉X.P->h'.get? b=some o)(c:xT h ps):xT h' ps:=λpos cv e=>by obtain⟨c',o,vs,q,t,e1,e2,e3,e4,e5,e6⟩:=c pos cv e;exact⟨c',o,vs,q,t,e1,e2,k c' o e3 (FT e4 e5 e6) e2,e4,e5,e6⟩
structure Sx (own:List ai)(st:List ae)(s:az):Prop where
 bj:∀b o,X.H.get? b=some o->s.heap.get? b=some o
 len:own.length=st.length
 kj:own.Nodup
 fresh:∀a∈own,X.H.get? a=none∧a∉X.P
 iV:∀(i:Nat) (o:ae) (a:ai),st[i]?=some o->own[i]?=some a->Rep own s.heap o a
 cU:∀q∈X.P,Ak s.heap q
 bare:AllBare s.gens
 tk:s.toks≠0
 ok:X.Ok
section
variable {own av aO aS:List ai}{s s' s₁ aR:az}{h h':bf}{st:List ae}
theorem a9.refl:a9 own s own s:=
 ⟨⟨[],by simp⟩,λx h=>.inl h,λx x e x x=>e,λx x o e=>⟨o,e⟩,.of rfl rfl⟩
theorem a9.trans (a:a9 own s aO s₁)(b:a9 aO s₁ aS aR):a9 own s aS aR:=by
 obtain⟨r,hr⟩:=a.pre;obtain⟨r',fX⟩:=b.pre;have sU:∀x,s₁.heap.get? x=none->x∈own∨s.heap.get? x=none:=λx h=>by
  by_cases hq:x∈own
  ·exact .inl hq
  right;cases q:s.heap.get? x with
  |none=>rfl|some o=>
   by_cases hP:x∈X.P
   ·obtain⟨o',e⟩:=a.cU x hP o q;rw[h] at e;exact nS e
   rw[a.bj x o q hq hP] at h;cases h
 refine⟨⟨r++r',by rw[fX,hr,eJ]⟩,λx hx=>?_,λx o e hn hp=>?_,λq hq o e=>?_,a.os.trans b.os⟩
 ·rcases b.new x hx with h|h
  ·exact a.new x h
  exact sU x h
 ·refine b.bj x o (a.bj x o e hn hp) (λhx=>?_) hp;rcases a.new x hx with h|h
  ·exact hn h
  rw[h] at e;exact nS e
 obtain⟨o',e'⟩:=a.cU q hq o e;exact b.cU q hq o' e'
structure eD (own:List ai)(h:bf)(av:List ai)(h':bf):Prop where
 bD:∀(i:Nat) (a:ai),own[i]?=some a->av[i]?=some a
 bj:∀b o,h.get? b=some o->eO o->b∉own->b∉X.P->h'.get? b=some o
 new:∀a∈av,a∈own∨∀o,h.get? a=some o->¬eO o
theorem FW (e:h.get? a=none):∀o,h.get? a=some o->¬eO o:=λo e'=>by rw[e] at e';exact nS e'
theorem a9.aM (e:a9 own s av s'):eD own s.heap av s'.heap:=
 ⟨λi a hi=>by obtain⟨r,rfl⟩:=e.pre;rw[d2<|(bV.mp hi).1];exact hi,λb o h1 x h2 h3=>e.bj b o h1 h2 h3,λa ha=>(e.new a ha).imp id FW⟩
theorem eD.not (g:eD own h av h'){o:Obj}(e:h.get? a=some o)(hn:a∉own)(hv:eO o):a∉av:=λhx=>by
 rcases g.new a hx with q|q
 ·exact hn q
 exact q o e hv
mutual
noncomputable def CV.bI (f:Nat->Option Nat):CV->Option CV
 | .ab n=>(f n).map .ab
 | .cB xs=>(CV.gn f xs).map .cB
 | .sl xs=>(CV.gn f xs).map .sl
 | c=>some c
noncomputable def CV.gn (f:Nat->Option Nat):List CV->Option (List CV)
 | []=>some []
 | x::xs=>(x.bI f).bind λy=>(CV.gn f xs).map (y::·)
end
noncomputable def jh (f:Nat->Option Nat):List (Str×CV)->Option (List (Str×CV))
 |[]=>some []|(x,v)::r=>(v.bI f).bind λy=>(jh f r).map ((x,y)::·)
noncomputable def qi (f:Nat->Option Nat):List (Str×Nat)->Option (List (Str×Nat))
 |[]=>some []|(x,v)::r=>(f v).bind λy=>(qi f r).map ((x,y)::·)
noncomputable def ur (f:Nat->Option Nat):Option Nat->Option (Option Nat)
 |none=>some none|some k=>(f k).map some
noncomputable def ae.bI (f:Nat->Option Nat):ae->Option ae
 |.list xs=>(CV.gn f xs).map .list|.frame vars=>(jh f vars).map .frame|.cell (some v)=>(v.bI f).map λy=>.cell (some y)|.bE C d=>(f d).map (.bE C)|.bt es=>(jh f es).map .bt|.map es=>(jh f es).map .map|.d3 p b s cells dict=>(qi f cells).bind λcs=>(ur f dict).map (.d3 p b s cs)|.bg f' k=>(f k).map (.bg f')|.jf k Ah=>(f k).map λj=>.jf j Ah|.gc k i=>(f k).map λj=>.gc j i|o=>some o
theorem Cz (h:(a&&b)=true):a=true∧b=true:=(bz a b).mp h
theorem sI {P:α->Prop}(e:some a=some b)(r:P a):P b:=dE e▸r
theorem eE {o:Option α}{P:β->Prop}(h:o.map g=some c)(k:∀m,o=some m->P (g m)):P c:=by cases o with|none=>exact nS h|some m=>exact sI h<|k m rfl
theorem kl {o:Option α}{P:Prop}(h:o.bind g=some c)(k:∀m,o=some m->g m=some c->P):P:=by cases o with|none=>exact nS h|some m=>exact k m rfl h
structure Mv (own:List ai)(h:bf)(av:List ai)(h':bf)(f:Nat->Option Nat):Prop where
 bD:∀k j a,f k=some j->own[k]?=some a->av[j]?=some a
 bj:∀b o,h.get? b=some o->eO o->b∉own->b∉X.P->b∉av∧h'.get? b=some o
section
variable {f:Nat->Option Nat}
def CA (own:List ai)(h:bf)(av:List ai)(h':bf)(f:Nat->Option Nat)(c:CV):Prop:=∀c' v,c.bI f=some c'->RelV own h c v->RelV av h' c' v
def Al (own:List ai)(h:bf)(av:List ai)(h':bf)(f:Nat->Option Nat)(xs:List CV):Prop:=∀ys vs,CV.gn f xs=some ys->aF own h xs vs->aF av h' ys vs
theorem us (hc:c.bI f=some c)(r:∀v,RelV own h c v->RelV av h' c v):CA own h av h' f c:=λc' v e q=>sI (P:=λc=>RelV av h' c v) (hc.symm.trans e)<|r v q
theorem T9 x  xs (i1:CA own h av h' f x)(i2:Al own h av h' f xs):Al own h av h' f (x::xs):=λys vs e r=>by obtain⟨v,w,e1,hv,hr⟩:=r;exact kl e λy hy e=>eE (P:=λys=>aF av h' ys vs) e λys km=>⟨v,w,e1,i1 y v hy hv,i2 ys w km hr⟩
theorem Ua:Al own h av h' f []:=λys vs e r=>sI (P:=λc=>aF av h' c vs) e r
theorem RelV.mv (M:Mv own h av h' f) c:CA own h av h' f c:=
 CV.rec (us rfl λx r=>r) (λx=>us rfl λx r=>r) (λx=>us rfl λx r=>r) (λx=>us rfl λx r=>r)
  (λn c' v e r=>by obtain⟨a,e1,e2⟩:=r;exact eE (P:=λc=>RelV av h' c v) e λm hm=>⟨a,M.bD _ _ _ hm e1,e2⟩)
  ((λxs ih=>λc' v e r=>by
   obtain⟨a,vs,n,e1,h1,h2,ho,hr⟩:=r;have k:=M.bj a _ ho FS h1 h2;exact eE (P:=λc=>RelV av h' c v) e λys hy=>⟨a,vs,n,e1,k.1,h2,k.2,ih ys vs hy hr⟩)) ((λxs ih=>λc' v e r=>by
   obtain⟨a,vs,e1,h1,h2,ho,hr⟩:=r;have k:=M.bj a _ ho acJ h1 h2;exact eE (P:=λc=>RelV av h' c v) e λys hy=>⟨a,vs,e1,k.1,h2,k.2,ih ys vs hy hr⟩)) (λx x x=>us rfl λx r=>by obtain⟨a,t,u,w,e,h1,h2,ho⟩:=r;have k:=M.bj a _ ho acK h1 h2;exact⟨a,t,u,w,e,k.1,h2,k.2⟩)
  (λx=>us rfl λx r=>r) (λx=>us rfl λx r=>r) (λx=>us rfl λx r=>r) (us rfl λx r=>r) Ua T9 c
theorem aF.mv (M:Mv own h av h' f) xs:Al own h av h' f xs:=by induction xs with|nil=>exact Ua|cons x xs ih=>exact T9 x xs (RelV.mv M x) ih
theorem acZ {vars:List (Str×CV)}{x:Str}:∀{rD:List (Str×CV)},jh f vars=some rD->match vars.lookup x with|none=>rD.lookup x=none|some v=>∃v',v.bI f=some v'∧rD.lookup x=some v':=by
 induction vars with
 |nil=>intro rD e;exact sI (P:=λv=>BZ x v=none) e rfl|cons p r ih=>obtain⟨z,v⟩:=p;intro rD e;refine kl e λy hy e=>?_;refine eE (P:=λrD=>match((z,v)::r).lookup x with|none=>rD.lookup x=none|some v=>∃v',v.bI f=some v'∧rD.lookup x=some v') e λys km=>?_;rw[nD,nD];cases x==z with|true=>exact⟨y,hy,rfl⟩|false=>exact ih km
theorem gm.mv (M:Mv own h av h' f):∀{ls} {dA},jh f es=some ls->gm own h es dA->gm av h' ls dA:=by induction es with|nil=>intro _ dA e r;exact sI (P:=λes=>gm av h' es dA) e r|cons p es ih=>intro _ dA e r;obtain⟨t,v,r,e1,hv,hr⟩:=r;exact kl e λy hy e=>eE (P:=λes=>gm av h' es dA) e λys km=>⟨t,v,r,e1,RelV.mv M _ _ _ hy hv,ih km hr⟩
theorem cf.mv (M:Mv own h av h' f):∀{ls} {ks},jh f es=some ls->cf own h es ks->cf av h' ls ks:=by induction es with|nil=>intro _ ks e r;exact sI (P:=λes=>cf av h' es ks) e r|cons p es ih=>intro _ ks e r;obtain⟨v,r,e1,hv,hr⟩:=r;exact kl e λy hy e=>eE (P:=λes=>cf av h' es ks) e λys km=>⟨v,r,e1,RelV.mv M _ _ _ hy hv,ih km hr⟩
theorem gZ.mv (M:Mv own h av h' f){cs:List (Str×Nat)}:∀{iJ} {ad},qi f cs=some iJ->gZ own cs ad->gZ av iJ ad:=by induction cs with|nil=>intro _ ad e r;exact sI (P:=λes=>gZ av es ad) e r|cons p es ih=>intro _ ad e r;obtain⟨v,r,e1,hv,hr⟩:=r;exact kl e λy hy e=>eE (P:=λes=>gZ av es ad) e λys km=>⟨v,r,e1,M.bD _ _ _ hy hv,ih km hr⟩
theorem kQ.mv (M:Mv own h av h' f)(e:c.bI f=some c')(r:kQ own h (some c) v):kQ av h' (some c') v:=r.imp λy h=>⟨h.1,RelV.mv M c c' y e h.2⟩
theorem uo.mv (M:Mv own h av h' f)(e:jh f vars=some rD) x (r:uo own h (vars.lookup x) v):uo av h' (rD.lookup x) v:=by
 have h1:=acZ (x:=x) e;cases hl:vars.lookup x with
 |none=>rw[hl] at h1 r;exact h1▸r.imp nS id|some c=>
  rw[hl] at h1 r;obtain⟨c',e2,e3⟩:=h1;rw[e3];rcases r with r|r
  ·obtain rfl:=dE r;obtain rfl:=dE e2;exact .inl rfl
  exact .inr<|kQ.mv M e2 r
theorem xS.mv (M:Mv own h av h' f)(e:h.CodeRec jN q)(hc:xS own h jN):h'.CodeRec jN q∧xS av h' jN:=by obtain⟨c,o,vs,t,e1,e2,e3,e4⟩:=e;obtain⟨c',f1,f2,f3,f4⟩:=hc;rw[e1] at f1;cases f1;have k:=M.bj c o e2 (FT e3 e4<|f4 _ e2) f2 f3;exact⟨⟨c,o,vs,t,e1,k.2,e3,e4⟩,c,e1,k.1,f3,λo' h=>by rw[k.2] at h;obtain rfl:=dE h;exact f4 _ e2⟩
theorem Rep.mv (M:Mv own h av h' f){o:ae}(e:o.bI f=some o')(r:Rep own h o a)(ha:h'.get? a=h.get? a):Rep av h' o' a:=by
 cases o with
 |list xs=>obtain⟨vs,n,e1,q⟩:=r;exact eE (P:=λo=>Rep av h' o a) e λys hy=>⟨vs,n,ha.trans e1,aF.mv M _ _ _ hy q⟩|frame vars=>obtain⟨m,⟨o,es,ep,e1,r1⟩,q⟩:=r;exact eE (P:=λo=>Rep av h' o a) e λys hy=>⟨m,⟨o,es,ep,ha.trans e1,r1⟩,λx=>uo.mv M hy x<|q x⟩|cell c=>
  obtain⟨v,⟨o,e1,e2⟩,q⟩:=r;cases c with
  |none=>exact sI (P:=λo=>Rep av h' o a) e ⟨v,⟨o,ha.trans e1,e2⟩,q⟩|some c=>exact eE (P:=λo=>Rep av h' o a) e λys hy=>⟨v,⟨o,ha.trans e1,e2⟩,kQ.mv M hy q⟩
 |bE C d=>obtain⟨dx,e1,q⟩:=r;exact eE (P:=λo=>Rep av h' o a) e λys hy=>⟨dx,M.bD _ _ _ hy e1,ha.trans q⟩|bt es=>obtain⟨dA,n,e1,q⟩:=r;exact eE (P:=λo=>Rep av h' o a) e λys hy=>⟨dA,n,ha.trans e1,gm.mv M hy q⟩|map es=>obtain⟨kvs,o,e1,f,q⟩:=r;exact eE (P:=λo=>Rep av h' o a) e λys hy=>⟨kvs,o,ha.trans e1,f,cf.mv M hy q⟩|d3 p b s cells dict=>
  obtain⟨name,qual,cl,pm,jN,ct,d,e1,⟨q,c1⟩,c2,c3,c4⟩:=r;have k:=xS.mv M c1 c2;refine kl e λcs hc e=>eE (P:=λo=>Rep av h' o a) e λdd hd=>⟨name,qual,cl,pm,jN,ct,d,ha.trans e1,⟨q,k.1⟩,k.2,gZ.mv M hc c3,?_⟩;cases dict with
  |none=>exact sI (P:=λdd=>Lg av dd d) hd c4|some j=>obtain⟨y,b1,b2⟩:=c4;exact eE (P:=λdd=>Lg av dd d) hd λi hi=>⟨y,M.bD _ _ _ hi b1,b2⟩
 |bg f' k=>obtain⟨x,e1,q⟩:=r;exact eE (P:=λo=>Rep av h' o a) e λys hy=>⟨x,M.bD _ _ _ hy e1,ha.trans q⟩|jf k s=>obtain⟨x,t,e1,q⟩:=r;exact eE (P:=λo=>Rep av h' o a) e λys hy=>⟨x,t,M.bD _ _ _ hy e1,ha.trans q⟩|mR=>exact sI (P:=λo=>Rep av h' o a) e (ha.trans r)|ki x i=>obtain⟨t,o,e1,q⟩:=r;exact sI (P:=λo=>Rep av h' o a) e ⟨t,o,ha.trans e1,q⟩|gc k i=>obtain⟨it,jg,e1,q⟩:=r;exact eE (P:=λo=>Rep av h' o a) e λys hy=>⟨it,jg,M.bD _ _ _ hy e1,ha.trans q⟩|iz=>obtain⟨⟨n,e1⟩,q⟩:=r;exact sI (P:=λo=>Rep av h' o a) e ⟨⟨n,ha.trans e1⟩,q⟩|qg=>obtain⟨ob,e1⟩:=r;exact sI (P:=λo=>Rep av h' o a) e ⟨ob,ha.trans e1.1,e1.2⟩
end
theorem gC {α β:Type}{a:Option α}{b:Option (List β)}{x:α}{xs:List β}{g:α->β}(h1:a=some x)(h2:b=some xs):(a.bind λy=>b.map (g y::·))=some (g x::xs):=by rw[h1,h2];rfl
theorem CV.Am (c:CV):c.bI some=some c:=
 CV.rec (motive_2:=λxs=>CV.gn some xs=some xs) rfl (λu=>rfl) (λu=>rfl) (λu=>rfl) (λu=>rfl) (λu ih=>congrArg (dg CV.cB) ih) (λu ih=>congrArg (dg CV.sl) ih) (λu u u=>rfl) (λu=>rfl) (λu=>rfl) (λu=>rfl) rfl rfl
  (λx xs i1 i2=>gC i1 i2) c
theorem CV.Ub xs:CV.gn some xs=some xs:=by induction xs with|nil=>rfl|cons x xs ih=>exact gC (CV.Am x) ih
theorem CB es:jh some es=some es:=by induction es with|nil=>rfl|cons p es ih=>exact gC (CV.Am p.2) ih
theorem Uc es:qi some es=some es:=by induction es with|nil=>rfl|cons p es ih=>exact gC rfl ih
theorem ae.Am (o:ae):o.bI some=some o:=by
 cases o with
 |list xs=>exact congrArg (dg ae.list) (CV.Ub xs)|frame xs=>exact congrArg (dg ae.frame) (CB xs)|cell c=>cases c with
  |none=>rfl|some c=>exact congrArg (dg λy=>ae.cell<|some y)<|CV.Am c
 |bt xs=>exact congrArg (dg ae.bt) (CB xs)|map xs=>exact congrArg (dg ae.map) (CB xs)|d3 p b s cells d=>exact(congrArg (λo=>QZ o λcs=>(ur some d).map<|ae.d3 p b s cs)<|Uc cells).trans (by cases d<;>rfl)|_=>rfl
theorem eD.mv (g:eD own h av h'):Mv own h av h' some:=⟨λk j a e h=>by obtain rfl:=dE e;exact g.bD _ _ h,λb o e v hn hp=>⟨g.not e hn v,g.bj b o e v hn hp⟩⟩
theorem RelV.aM (g:eD own h av h') c (r:RelV own h c v):RelV av h' c v:=RelV.mv g.mv c c v c.Am r
theorem aF.aM (g:eD own h av h') xs (r:aF own h xs vs):aF av h' xs vs:=aF.mv g.mv xs xs vs (CV.Ub xs) r
theorem kQ.aM (g:eD own h av h')(e:kQ own h c v):kQ av h' c v:=by cases c with|none=>exact e|some c=>exact let ⟨y,a,b⟩:=e;⟨y,a,b.aM g⟩
theorem uo.aM (g:eD own h av h')(e:uo own h c v):uo av h' c v:=e.imp id λe=>e.aM g
theorem gm.aM (g:eD own h av h')(r:gm own h es dA):gm av h' es dA:=gm.mv g.mv (CB es) r
theorem cf.aM (g:eD own h av h'){k:List (Str×an)}(r:cf own h es k):cf av h' es k:=cf.mv g.mv (CB es) r
theorem gZ.aM (g:eD own h av h'){cs:List (Str×Nat)}{ad:List (Str×ai)}(r:gZ own cs ad):gZ av cs ad:=gZ.mv g.mv (Uc cs) r
theorem Rep.aM (g:eD own h av h'){o:ae}(r:Rep own h o a)(ha:h'.get? a=h.get? a):Rep av h' o a:=Rep.mv g.mv o.Am r ha
theorem Sx.bD (S:Sx own st s){i:Nat}{o:ae}(e:st[i]?=some o):∃a,own[i]?=some a∧Rep own s.heap o a:=by have aZ:i<own.length:=S.len▸(bV.mp e).1;exact⟨own[i],bA aZ,S.iV i o _ e<|bA aZ⟩
theorem Sx.rC (S:Sx own st s){o:Obj}(e:s.heap.get? a=some o)(t:FU o):a∉own:=λha=>by
 obtain⟨i,hi,e1⟩:=pN.mp ha;have hs:i<st.length:=by rwa[<-S.len]
 exact(S.iV i st[i] a (bA hs)<|by rw[bA hi,e1]).rC e t
theorem Sx.toks (S:Sx own st s)(t:Tok)(ht:t≠0:=by first|exact ka _|assumption|exact Sx.tk (by assumption)):Sx own st {s with toks:=t}:=⟨S.bj,S.len,S.kj,S.fresh,S.iV,S.cU,S.bare,ht,S.ok⟩
theorem a9.toks {t:Tok}:a9 own s own {s with toks:=t}:=⟨⟨[],by simp⟩,λx h=>.inl h,λx x e x x=>e,λx x o e=>⟨o,e⟩,.of rfl rfl⟩
theorem Sx.qh (S:Sx own st s)(ha:a∈own):∃ob,s.heap.get? a=some ob:=by
 obtain⟨i,hi,e⟩:=pN.mp ha;have hs:i<st.length:=by rwa[<-S.len]
 exact(S.iV i st[i] a (bA hs)<|by rw[bA hi,e]).qh
theorem Sx.jO (S:Sx own st s)(h:s.heap.get? a=none):a∉own:=λha=>by obtain⟨ob,e⟩:=S.qh ha;rw[h] at e;exact nS e
theorem Sx.mf (S:Sx own st s)(h:s.heap.get? a=none):a∉X.P:=λha=>by obtain⟨ps,e,_⟩:=S.cU a ha;rw[h] at e;exact nS e
theorem Sx.ut (S:Sx own st s)(h:s.heap.get? a=none):X.H.get? a=none:=by cases q:X.H.get? a with|none=>rfl|some o=>rw[S.bj a o q] at h;cases h
theorem Rep.more (g:eD own h av h')(hk:∀b o,h.get? b=some o->h'.get? b=some o){o:ae}(r:Rep own h o a):Rep av h' o a:=by obtain⟨ob,e⟩:=r.qh;exact r.aM g<|(hk _ _ e).trans e.symm
theorem Sx.more (S:Sx own st s){t:Tok}(hk:∀b o,s.heap.get? b=some o->h'.get? b=some o)(ht:t≠0:=by first|exact ka _|assumption|exact Sx.tk (by assumption)):Sx own st {s with heap:=h',toks:=t}:=by refine⟨λb o e=>hk _ _<|S.bj b o e,S.len,S.kj,S.fresh,λi o a e1 e2=>(S.iV i o a e1 e2).more ⟨λx x e=>e,λb o e x x x=>hk b o e,λx h=>.inl h⟩ hk,λq hq=>?_,S.bare,ht,S.ok⟩;obtain⟨ps,e,r,r'⟩:=S.cU q hq;exact⟨ps,hk _ _ e,r,r'.bj λb o e x x=>hk b o e⟩
theorem a9.more {t:Tok}(hk:∀b o,s.heap.get? b=some o->h'.get? b=some o):a9 own s own {s with heap:=h',toks:=t}:=
 ⟨⟨[],by simp⟩,λx h=>.inl h,λb o e x x=>hk b o e,λq x o e=>⟨o,hk _ _ e⟩,.of rfl rfl⟩
theorem eD.iW (hv:∀o,h.get? L=some o->¬eO o)(hk:f6 L h h'):eD own h own h':=
 ⟨λx x e=>e,λb o e v x x=>hk b o (λq=>hv o (q▸e) v) e,λx h=>.inl h⟩
theorem Sx.CC (S:Sx own st s)(hB:X.H.get? L=none)(hk:f6 L s.heap h'):∀b o,X.H.get? b=some o->h'.get? b=some o:=λb o e=>hk _ _ (λq=>by rw[q,hB] at e;exact nS e)<|S.bj b o e
theorem Sx.FX (S:Sx own st s)(hP:L∉X.P)(hv:∀o,s.heap.get? L=some o->¬eO o)(hk:f6 L s.heap h'):∀q∈X.P,Ak h' q:=λq hq=>by obtain⟨ps,e,r,r'⟩:=S.cU q hq;exact⟨ps,hk _ _ (λz=>hP<|z▸hq) e,r,r'.bj λb o e v x=>hk b o (λq=>hv o (q▸e) v) e⟩
theorem Rep.CD (g:eD own h av h')(hk:f6 L h h'){o:ae}(ha:a≠L)(r:Rep own h o a):Rep av h' o a:=by obtain⟨ob,e⟩:=r.qh;exact r.aM g<|(hk a ob ha e).trans e.symm
theorem Lh {i:Nat}(hL:L∉own)(e:own[i]?=some b):b≠L:=λq=>hL<|q▸c8 e
theorem Sx.iW (S:Sx own st s){t:Tok}(hL:L∉own)(hP:L∉X.P)(hB:X.H.get? L=none)(hv:∀o,s.heap.get? L=some o->¬eO o)(hk:f6 L s.heap h')(ht:t≠0:=by first|exact ka _|assumption|exact Sx.tk (by assumption)):Sx own st {s with heap:=h',toks:=t}:=by exact⟨S.CC hB hk,S.len,S.kj,S.fresh,λi o a e1 e2=>(S.iV i o a e1 e2).CD (eD.iW hv hk) hk<|Lh hL e2,S.FX hP hv hk,S.bare,ht,S.ok⟩
theorem a9.iW (E:a9 bx aT own s){t:Tok}(h0:aT.heap.get? L=none)(hP:∀q∈X.P,∃o,aT.heap.get? q=some o)(hk:f6 L s.heap h'):a9 bx aT own {s with heap:=h',toks:=t}:=
 ⟨E.pre,E.new,λb o e hb hp=>hk b o (λq=>by rw[q,h0] at e;exact nS e)<|E.bj b o e hb hp,λq hq o e=>by obtain⟨o',e'⟩:=E.cU q hq o e;exact⟨o',hk q o' (λz=>by rw[z,h0] at e;exact nS e) e'⟩,⟨E.os.1,E.os.2⟩⟩
theorem Sx.ne (S:Sx own st s){i j:Nat}(hi:own[i]?=some a)(hj:own[j]?=some b)(ii:i≠j):a≠b:=λe=>by subst e;obtain⟨h1,e1⟩:=bV.mp hi;obtain⟨h2,e2⟩:=bV.mp hj;exact ii<|(List.getElem_inj S.kj).mp<|e1.trans e2.symm
theorem Sx.set (S:Sx own st s){i:Nat}{t:Tok}(hi:own[i]?=some a)(hs:f6 a s.heap h')(hr:eD own s.heap own h'->Rep own h' o' a)(ht:t≠0:=by first|exact ka _|assumption|exact Sx.tk (by assumption)):Sx own (st.set i o') {s with heap:=h',toks:=t}:=by
 have ha:=c8 hi;have g:eD own s.heap own h':=⟨λx x e=>e,λb o e x hb x=>hs b o (λq=>hb<|q▸ha) e,λx h=>.inl h⟩;refine⟨S.CC (S.fresh a ha).1 hs,by rw[lY];exact S.len,S.kj,S.fresh,λj o b e1 e2=>?_,S.FX (S.fresh a ha).2 (λo e v=>S.rC e v ha) hs,S.bare,ht,S.ok⟩;by_cases ii:i=j
 ·subst ii;obtain rfl:=dE<|hi.symm.trans e2;rw[vM<|S.len▸(bV.mp hi).1] at e1;exact dE e1▸hr g
 rw[lZ ii] at e1;exact(S.iV j o b e1 e2).CD g hs (S.ne hi e2 ii).symm
theorem a9.set (S:Sx own st s){i:Nat}{t:Tok}(hi:own[i]?=some a)(hs:f6 a s.heap h'):a9 own s own {s with heap:=h',toks:=t}:=
 ⟨⟨[],by simp⟩,λx h=>.inl h,λb o e hb x=>hs b o (λq=>hb<|q▸c8 hi) e,λq hq o e=>⟨o,hs q o (λz=>(S.fresh a<|c8 hi).2<|z▸hq) e⟩,.of rfl rfl⟩
theorem Ud {x y:α}{i:Nat}(h:(xs++[x])[i]?=some y):xs[i]?=some y∨i=xs.length∧x=y:=by
 by_cases hi:i<xs.length
 ·left;rwa[d2 hi] at h
 rw[dT<|Q0 hi] at h;cases e:i-xs.length with|zero=>rw[e] at h;exact .inr ⟨abh (ap2 e)<|Q0 hi,dE h⟩|succ n=>rw[e] at h;exact nS h
theorem Li (hk:∀b o,h.get? b=some o->eO o->b∉own->b∉X.P->h'.get? b=some o)(hv:∀o,h.get? D=some o->¬eO o):eD own h (own++[D]) h':=
 ⟨λi b e=>by rw[d2 (bV.mp e).1];exact e,hk,λb hb=>(f7.mp hb).imp id λq=>by rwa[gV.mp q]⟩
theorem Sx.CE (S:Sx own st s){t:Tok}(hD:D∉own)(hf:X.H.get? D=none∧D∉X.P)(kp:∀b o,X.H.get? b=some o->h'.get? b=some o)(jg:∀(i:Nat) o  b,st[i]?=some o->own[i]?=some b->Rep own s.heap o b->Rep (own++[D]) h' o b)(new:Rep (own++[D]) h' o' D)(tb:∀q∈X.P,Ak h' q)(ht:t≠0):Sx (own++[D]) (st++[o']) {s with heap:=h',toks:=t}:=by
 refine⟨kp,by simp [S.len],?_,λb hb=>(f7.mp hb).elim (S.fresh b) λq=>gV.mp q▸hf,λi o b e1 e2=>?_,tb,S.bare,ht,S.ok⟩
 ·rw[xz];exact⟨S.kj,zJ.mpr ⟨List.not_mem_nil,EX⟩,λx hx y hy e=>hD<|gV.mp hy▸e▸hx⟩
 rcases Ud e1 with h1|⟨h1,e1⟩<;>rcases Ud e2 with h2|⟨h2,e2⟩
 ·exact jg i o b h1 h2<|S.iV i o b h1 h2
 ·exact absurd (bV.mp h1).1<|h2▸S.len▸J' _
 ·exact absurd (bV.mp h2).1<|h1▸S.len▸J' _
 exact e1▸e2▸new
theorem Sx.push (S:Sx own st s){t:Tok}(hk:∀b o,s.heap.get? b=some o->h'.get? b=some o)(ha:s.heap.get? a=none)(hr:eD own s.heap (own++[a]) h'->Rep (own++[a]) h' o' a)(ht:t≠0:=by first|exact ka _|assumption|exact Sx.tk (by assumption)):Sx (own++[a]) (st++[o']) {s with heap:=h',toks:=t}:=by have g:eD own s.heap (own++[a]) h':=Li (λb o e x x x=>hk b o e)<|FW ha;have S':=S.more hk ht;exact S.CE (S.jO ha) ⟨S.ut ha,S.mf ha⟩ S'.bj (λx x x x x r=>r.more g hk) (hr g) S'.cU ht
theorem a9.push {t:Tok}(hk:∀b o,s.heap.get? b=some o->h'.get? b=some o)(ha:s.heap.get? a=none):a9 own s (own++[a]) {s with heap:=h',toks:=t}:=
 ⟨⟨_,rfl⟩,λb hb=>(f7.mp hb).imp id λq=>by rw[gV.mp q];exact ha,λb o e x x=>hk b o e,λq x o e=>⟨o,hk _ _ e⟩,.of rfl rfl⟩
mutual
noncomputable def CV.lo (n:Nat):CV->Bool
 | .ab k=>decide (k<n)
 | .cB xs=>CV.cV n xs
 | .sl xs=>CV.cV n xs
 | _=>true
noncomputable def CV.cV (n:Nat):List CV->Bool
 | []=>true
 | x::xs=>x.lo n&&CV.cV n xs
end
noncomputable def Lj (n:Nat):Option Nat->Bool
 |none=>true|some k=>decide (k<n)
noncomputable def ae.lo (n:Nat):ae->Bool
 |.list xs=>CV.cV n xs|.frame vars=>vars.all λp=>p.2.lo n|.cell none=>true|.cell (some v)=>v.lo n|.bE x d=>decide (d<n)|.bt es=>es.all λp=>p.2.lo n|.map es=>es.all λp=>p.2.lo n|.d3 x u o cells d=>cells.all (λp=>decide (p.2<n))&&Lj n d|.bg x k=>decide (k<n)|.jf k x=>decide (k<n)|.mR=>true|.ki x u=>true|.gc k x=>decide (k<n)|.iz=>true|.qg=>true
theorem CV.uu {x:CV}:CV.cV n (x::xs)=(x.lo n&&CV.cV n xs):=rfl
theorem An:∀{xs},CV.cV n xs=true↔∀x∈xs,x.lo n=true
 |[]=>⟨λu u h=>(nomatch h),λu=>rfl⟩|x::xs=>by rw[CV.uu,bz,An,zK]
section
variable {n:Nat}{f:Nat->Option Nat}(hf:∀k,k<n->f k=some k)
include hf
theorem CV.kR (c:CV):c.lo n=true->c.bI f=some c:=
 CV.rec (motive_2:=λxs=>CV.cV n xs=true->CV.gn f xs=some xs) (λu=>rfl) (λu u=>rfl) (λu u=>rfl) (λu u=>rfl) (λk h=>congrArg (dg CV.ab)<|hf k<|of_decide_eq_true h) (λu ih h=>congrArg (dg CV.cB)<|ih h) (λu ih h=>congrArg (dg CV.sl)<|ih h) (λu u u u=>rfl) (λu u=>rfl) (λu u=>rfl) (λu u=>rfl) (λu=>rfl) (λu=>rfl)
  (λx xs i1 i2 h=>have h:=Cz h;gC (i1 h.1) (i2 h.2)) c
theorem CV.FY (h:CV.cV n xs=true):CV.gn f xs=some xs:=by induction xs with|nil=>rfl|cons x xs ih=>have h:=Cz h;exact gC (CV.kR hf x h.1)<|ih h.2
theorem CF (h:(es.all λp=>p.2.lo n)=true):jh f es=some es:=by induction es with|nil=>rfl|cons p es ih=>have h:=Cz h;exact gC (CV.kR hf _ h.1)<|ih h.2
theorem ac1 (h:(es.all λp=>decide (p.2<n))=true):qi f es=some es:=by induction es with|nil=>rfl|cons p es ih=>have h:=Cz h;exact gC (hf _<|of_decide_eq_true h.1)<|ih h.2
theorem ae.kR (o:ae)(h:o.lo n=true):o.bI f=some o:=by
 cases o with
 |list xs=>exact congrArg (dg ae.list) (CV.FY hf h)|frame xs=>exact congrArg (dg ae.frame) (CF hf h)|cell c=>cases c with
  |none=>rfl|some c=>exact congrArg (dg λy=>ae.cell<|some y)<|CV.kR hf c h
 |bE C k=>exact congrArg (dg<|ae.bE C) (hf k<|of_decide_eq_true h)|bt xs=>exact congrArg (dg ae.bt) (CF hf h)|map xs=>exact congrArg (dg ae.map) (CF hf h)|d3 p b s cells d=>
  have h:=h;have h:=Cz h;apply(congrArg (λo=>QZ o λcs=>(ur f d).map<|ae.d3 p b s cs)<|ac1 hf h.1).trans;cases d with
  |none=>rfl|some k=>exact congrArg (λo=>dg (ae.d3 p b s cells)<|dg some o)<|hf k<|of_decide_eq_true h.2
 |bg F k=>exact congrArg (dg<|ae.bg F) (hf k<|of_decide_eq_true h)|jf k s=>exact congrArg (dg λj=>ae.jf j s) (hf k<|of_decide_eq_true h)|gc k i=>exact congrArg (dg λj=>ae.gc j i) (hf k<|of_decide_eq_true h)|_=>rfl
end
section
variable {f:Nat->Option Nat}{x:Str}{k j:Nat}(hj:f k=some j)
include hj
theorem ij:CV.bI f (.ab k)=some (.ab j):=congrArg (dg CV.ab) hj
theorem Ue (hr:jh f r=some r'):jh f ((x,.ab k)::r)=some ((x,.ab j)::r'):=gC (ij hj) hr
theorem uv:ae.bI f (.bt [(x,.ab k)])=some (.bt [(x,.ab j)]):=congrArg (dg ae.bt)<|Ue hj rfl
theorem Uf:ae.bI f (.cell (some (.ab k)))=some (.cell (some (.ab j))):=congrArg (dg λy=>ae.cell<|some y)<|ij hj
theorem rE:ae.bI f (.bE C k)=some (.bE C j):=congrArg (dg<|ae.bE C) hj
theorem Ug (hr:qi f r=some r'):qi f ((x,k)::r)=some ((x,j)::r'):=gC hj hr
end
theorem FZ {f:Nat->Option Nat}{p:pL}{b:aq}{s:d8}{cells cs:List (Str×Nat)}{dd ds:Option Nat}(hc:qi f cells=some cs)(hd:ur f dd=some ds):ae.bI f (.d3 p b s cells dd)=some (.d3 p b s cs ds):=(congrArg (λo=>QZ o λcs=>(ur f dd).map<|ae.d3 p b s cs) hc).trans<|congrArg (dg<|ae.d3 p b s cs) hd
noncomputable def Lk (n k:Nat):Option Nat:=if k<n then some k else none
theorem Uh k (h:k<n):Lk n k=some k:=if_pos h
theorem Ui:Mv (own++r) h own h (Lk own.length):=⟨λk j a e h=>(by
 unfold Lk at e;by_cases hk:k<own.length
 ·rw[if_pos hk] at e;obtain rfl:=dE e;exact by rwa[d2 hk] at h
 rw[if_neg hk] at e;exact nS e),λb o e x hn x=>⟨λq=>hn<|EY _ q,e⟩⟩
theorem RelV.drop c (hb:c.lo own.length=true)(q:RelV (own++r) h c v):RelV own h c v:=RelV.mv Ui c c v (c.kR Uh hb) q
theorem Uj [BEq α] [LawfulBEq α]:∀{l:List (α×β)} {x} {v},l.lookup x=some v->(x,v)∈l
 |(y,u)::r,x,v,h=>by rw[nD] at h;cases xU:x==y with|true=>rw[xU] at h;obtain rfl:=dE h;exact eq_of_beq xU▸.head _|false=>rw[xU] at h;exact .tail _<|Uj h
theorem Rep.drop {o:ae}(hb:o.lo own.length=true)(q:Rep (own++r) h o a):Rep own h o a:=Rep.mv Ui (o.kR Uh hb) q rfl
theorem Sx.drop {g:List ae}{r:List ai}(S:Sx (own++r) (st++g) s)(hl:own.length=st.length)(hb:(st.all λo=>o.lo st.length)=true):Sx own st s:=by refine⟨S.bj,hl,(xz.mp S.kj).1,λa ha=>S.fresh a<|EY _ ha,λi o a e1 e2=>?_,S.cU,S.bare,S.tk,S.ok⟩;have hi:=(bV.mp e1).1;refine Rep.drop ?_ (S.iV i o a (by rwa[d2 hi])<|by rwa[d2<|by exact o1 hi hl]);exact hl▸dI.mp hb o (c8 e1)
end
end
section
def Rm (d:Nat)(A:Around):Prop:=A.handled=none∧A.depth+d<Ka∧A.units+8*d<xA
theorem Rm.le (r:Rm d A)(h:d'<=d):Rm d' A:=⟨r.1,by have:=r.2.1;exact ah [_,_,_,_] (.lt (.a .o .i) .u<|.le .w .i<|.gt (.a .o .w) .u) rfl this h,by exact ah [_,_,_,_] (.lt (.a .o<|.m 8 .i) .u<|.c 8 0 (.le .w .i)<|.gt (.a .o<|.m 8 .w) .u) rfl r.2.2 h⟩
theorem Rm.in1 (r:Rm (d+1) A):Rm d A.in1:=⟨r.1,by have:=r.2.1;simp;exact ab' this,by simp;exact ah [_,_,_,_] (.lt (.a .o<|.m 8<|.a .i .u) .w<|.gt (.a (.a .o .u)<|.m 8 .i) .w) rfl r.2.2⟩
theorem Rm.deeper (r:Rm (d+1) A):Rm d (A.deeper env):=⟨r.1,by have:=r.2.1;simp [Around.deeper];exact KJ this,by simp;exact ah [_,_,_] (.lt (.a .o<|.m 8<|.a .i .j) .u<|.gt (.a (.a .o<|.n 3)<|.m 8 .i) .u) rfl r.2.2⟩
theorem Rm.units (r:Rm d A):A.units<xA:=by exact Fs r.2.2
theorem Rm.depth (r:Rm d A):A.depth<Ka:=by exact Fs r.2.1
inductive Ao {α:Type}(own:List ai)(s:az)(P:List ai->α->az->Prop)(v:α)(s':az):Prop|mk (av:List ai) (e:a9 own s av s') (p:P av v s')
def Tr (A:Around)(own:List ai)(s:az)(t:Sem α)(P:List ai->α->az->Prop):Prop:=be (aQ X.prog X.w) A t (Ao own s P) (λx x=>False) s
structure PV (st:List ae)(v:CV)(own:List ai)(x:an)(s:az):Prop where
 S:Sx own st s
 r:RelV own s.heap v x
structure Uk (st:List ae)(v:List CV)(own:List ai)(x:List an)(s:az):Prop where
 S:Sx own st s
 r:aF own s.heap v x
structure PE {α:Type}(st:List ae)(v:α)(own:List ai)(x:α)(s:az):Prop where
 S:Sx own st s
 e:x=v
section
variable {α β:Type}{A:Around}{own:List ai}{s:az}
theorem Tr.pure {P:List ai->α->az->Prop}(h:P own v s):Tr A own s (pure v) P:=bH ⟨own,.refl,h⟩
theorem Tr.bind {m:Sem α}{P:List ai->α->az->Prop}(h:Tr A own s m P)(k:∀av v s',a9 own s av s'->P av v s'->Tr A av s' (f v) Q):Tr A own s (m>>=f) Q:=
 aB (bC h (λv s' ⟨av,e,p⟩=>bC (k av v s' e p) (λu u ⟨aS,cY,q⟩=>⟨aS,e.trans cY,q⟩) λu u x=>x) λu u x=>x)
theorem Tr.ac2 {m:Sem α}{P:List ai->α->az->Prop}(h:Tr A own s m P)(k:∀av v s',a9 own s av s'->P av v s'->Q av v s'):Tr A own s m Q:=
 bC h (λv s' ⟨av,e,p⟩=>⟨av,e,k av v s' e p⟩) λu u x=>x
theorem Tr.holding {m:Sem α}{P:List ai->α->az->Prop}(h:Tr A own s m P):Tr A own s (holding vs m) P:=vN h
theorem Tr.operate {m:Sem an}{P:List ai->an->az->Prop}(h:Tr A own s m P):Tr A own s (operate vs m) P:=abi h
theorem Tr.skip {m:Sem Unit}{k:Sem α}{P:List ai->α->az->Prop}(hm:∀Q:Unit->az->Prop,Q () s->be (aQ X.prog X.w) A m Q (λx x=>False) s)(h:Tr A own s k P):Tr A own s (m>>=λx=>k) P:=aB<|hm _ h
theorem Tr.eh {pos:Pos}{k:Sem α}{P:List ai->α->az->Prop}(h:Tr A own s k P):Tr A own s (nE pos>>=λx=>k) P:=Tr.skip (λx q=>zM q) h
theorem Tr.eq {m:Sem α}{P:List ai->α->az->Prop}(e:m=m')(h:Tr A own s m' P):Tr A own s m P:=e▸h
end
structure aY where
 scope:d8
 locals:Nat
 cells:List (Str×Nat)
 tab:Option (ai×ai):=none
 deriving Inhabited
structure dK (own:List ai)(c:aY)(env:Env):Prop where
 scope:env.scope=c.scope
 kind:c.scope.kind = .function
 wc:own[c.locals]?=some env.locals
 cells:gZ own c.cells env.cells
 globals:env.globals=jy
 builtins:env.builtins=Kb
 tab:∀q,c.tab=some q->q∈X.cU∧env.code = .ref q.1
theorem dK.ext (R:dK own c env)(e:a9 own s av s'):dK av c env:=
 ⟨R.scope,R.kind,e.aM.bD _ _ R.wc,R.cells.aM e.aM,R.globals,R.builtins,R.tab⟩
theorem dK.hk (R:dK own c env):env.scope.kind=.function:=R.scope▸R.kind
theorem dK.kd (R:dK own c env){x:Str}:env.kindOf x=c.scope.names.lookup x:=congrArg (λz:d8=>z.names.lookup x) R.scope
inductive cZ where|next|brk|cont|ret (v:CV)
 deriving Inhabited
noncomputable def cZ.ctorIdx (x:cZ):Nat:=cZ.casesOn x 0 1 2 (λx=>3)
def xV (own:List ai)(h:bf):cZ->Flow->Prop
 |.next,f=>f=.next|.brk,f=>f=.brk|.cont,f=>f=.cont|.ret v,f=>∃x,f=.ret x∧RelV own h v x
structure PF (st:List ae)(f:cZ)(own:List ai)(x:Flow)(s:az):Prop where
 S:Sx own st s
 r:xV own s.heap f x
def a8 (d:Nat)(c:aY)(e:aq)(st:List ae)(v:CV)(ag:List ae):Prop:=∀A own s env,Rm d A->Sx own st s->dK own c env->Tr A own s (d9 e env) (PV ag v)
def fx (d:Nat)(c:aY)(e:aq)(st:List ae)(b:Bool)(ag:List ae):Prop:=∀A own s env,Rm d A->Sx own st s->dK own c env->Tr A own s (xB e env (d9 e env)) (PE ag b)
def dB (d:Nat)(c:aY)(e:bl)(st:List ae)(f:cZ)(ag:List ae):Prop:=∀A own s env,Rm d A->Sx own st s->dK own c env->Tr A own s (exec e env) (PF ag f)
def aI (d:Nat)(c:aY)(e:List bl)(st:List ae)(f:cZ)(ag:List ae):Prop:=∀A own s env,Rm d A->Sx own st s->dK own c env->Tr A own s (l4 e env) (PF ag f)
def bk (d:Nat)(f:CV)(args:List CV)(kw:List (Str×CV))(st:List ae)(v:CV)(ag:List ae):Prop:=∀A own s fv vs ks,Rm d A->Sx own st s->RelV own s.heap f fv->aF own s.heap args vs->cf own s.heap kw ks->Tr A own s (call fv vs ks) (PV ag v)
theorem gZ.lookup:∀{cs} {ad} {x} {n},gZ own cs ad->cs.lookup x=some n->∃a,ad.lookup x=some a∧own[n]?=some a
 |(y,m)::r,u,x,n,⟨a,iJ,e,hv,hr⟩,h=>by subst e;rw[nD] at h ⊢;cases xU:x==y with|true=>rw[xU] at h;obtain rfl:=dE h;exact⟨a,rfl,hv⟩|false=>rw[xU] at h;exact gZ.lookup hr h
theorem fE {o:Option α}{y:β}{P:Prop}(h:o.bind f=some y)(k:∀x,o=some x->f x=some y->P):P:=by cases o with|none=>nomatch h|some x=>exact k x rfl h
noncomputable def CV.uw:CV->Bool
 |.any=>true|_=>false
noncomputable def ae.Ul (o:ae):Option {vars // o=.frame vars}:=match o with
 |.frame v=>some ⟨v,rfl⟩|_=>none
noncomputable def ae.Um (o:ae):Option {v // o=.cell v}:=match o with
 |.cell v=>some ⟨v,rfl⟩|_=>none
noncomputable def ae.ls? (o:ae):Option {v // o=.list v}:=match o with
 |.list v=>some ⟨v,rfl⟩|_=>none
noncomputable def Ll (c:aY)(st:List ae)(x:Str):Option CV:=(st[c.locals]?).bind λo=>o.Ul.bind λf=>(f.1.lookup x).bind λv=>bif v.uw then none else some v
noncomputable def Ap (c:aY)(st:List ae)(x:Str):Option CV:=(c.cells.lookup x).bind λn=>(st[n]?).bind λo=>o.Um.bind λf=>f.1
def ji (c:aY)(st:List ae)(x:Str):Option CV:=
 match c.scope.names.lookup x with
 |some .local=>Ll c st x
 |some .cell=>Ap c st x
 |some .free=>Ap c st x
 |_=>none
theorem ac4 {c:aY}{st:List ae}{x:Str}{v:CV}{P:Prop}(h:Ll c st x=some v)(k:∀vars,st[c.locals]?=some (.frame vars)->vars.lookup x=some v->v≠.any->P):P:=
 fE h λo ho h=>fE h λf z h=>fE h λu hu h=>by cases ha:u.uw with|true=>rw[ha] at h;nomatch h|false=>rw[ha] at h;obtain rfl:=dE h;exact k f.1 (f.2▸ho) hu λe=>fL<|ha.symm.trans<|congrArg CV.uw e
theorem ac5 {c:aY}{st:List ae}{x:Str}{v:CV}{P:Prop}(h:Ap c st x=some v)(k:∀n,c.cells.lookup x=some n->st[n]?=some (.cell (some v))->P):P:=
 fE h λn hn h=>fE h λo ho h=>fE h λf u h=>k n hn<|h▸f.2▸ho
theorem Lm {A:Around}{own:List ai}{s:az}{c:aY}{env:Env}{st:List ae}{x:Str}{v:CV}(S:Sx own st s)(R:dK own c env) (h:ji c st x=some v)(mh:(x==("__classdict__":Str))=false){Q:an->az->Prop}(hQ:∀y,RelV own s.heap v y->Q y s):be (aQ X.prog X.w) A (loadName env x) Q (λu u=>False) s:=
 ((show (c.scope.names.lookup x=some .local∧Ll c st x=some v)∨((c.scope.names.lookup x=some .cell∨c.scope.names.lookup x=some .free)∧Ap c st x=some v) from by
  unfold ji at h;generalize c.scope.names.lookup x=k at h;cases k with
  |none=>nomatch h|some k=>cases k<;>first|exact .inl ⟨rfl,h⟩|exact .inr ⟨.inl rfl,h⟩|exact .inr ⟨.inr rfl,h⟩|nomatch h)).elim (λh=>ac4 h.2 λvars hf hl hn=>by
  obtain⟨a,ha,m,hm,hv⟩:=S.bD hf;obtain rfl:=dE<|R.wc.symm.trans ha;have:=hv x;rw[hl] at this;obtain⟨y,hy,hr⟩:=this.resolve_left λe=>hn<|dE e;exact wpAny_loadName_local R.hk (R.kd.trans h.1) hm hy<|hQ y hr) λh=>ac5 h.2 λn hn hc=>by
  obtain⟨a,ha,cv,hm,y,rfl,hr⟩:=S.bD hc;obtain⟨a',h1,h2⟩:=R.cells.lookup hn;obtain rfl:=dE<|ha.symm.trans h2;exact h.1.elim (λhk=>wpAny_loadName_cell R.hk (R.kd.trans hk) h1 hm<|hQ y hr) λhk=>wpAny_loadName_free R.hk (R.kd.trans hk) h1 hm (hQ y hr) mh
theorem CG {c:aY}{x:Str}{st:List ae}{vars:List (Str×CV)}{v:CV}(h1:c.scope.names.lookup x=some .local)(h2:st[c.locals]?=some (.frame vars))(h3:vars.lookup x=some v)(h4:v.uw=false):ji c st x=some v:=by unfold ji;rw[h1];show(st[c.locals]?).bind _=_;rw[h2];show(vars.lookup x).bind _=_;rw[h3];show(bif v.uw then none else some v)=_;rw[h4];rfl
theorem Un {c:aY}{x:Str}{st:List ae}{v:CV}{n:Nat}(h2:c.cells.lookup x=some n)(h3:st[n]?=some (.cell (some v))):Ap c st x=some v:=by unfold Ap;rw[h2];show(st[n]?).bind _=_;rw[h3];rfl
theorem Aq {c:aY}{x:Str}{st:List ae}{v:CV}{n:Nat}(h1:c.scope.names.lookup x=some .cell)(h2:c.cells.lookup x=some n)(h3:st[n]?=some (.cell (some v))):ji c st x=some v:=by unfold ji;exact h1▸Un h2 h3
theorem F3 {c:aY}{x:Str}{st:List ae}{v:CV}{n:Nat}(h1:c.scope.names.lookup x=some .free)(h2:c.cells.lookup x=some n)(h3:st[n]?=some (.cell (some v))):ji c st x=some v:=by unfold ji;exact h1▸Un h2 h3
def F4 (x:Str):CV->Prop
 |.aH a=>nsIn X.K jy x=some (some (.ref a))|.bi id=>nsIn X.K jy x=some none∧Q8 x=some (.builtin id)∧x≠"__name__"|.ty n=>nsIn X.K jy x=some none∧Q8 x=some (.type n)∧x≠"__name__"|_=>False
def Gl (gl:List (Str×CV)):Prop:=∀x v,gl.lookup x=some v->F4 x v
noncomputable def Uo (K:Frag)(p:Str×CV):Bool:=match p.2 with
 |.aH a=>decide (nsIn K jy p.1=some (some (.ref a)))|.bi id=>decide (nsIn K jy p.1=some none)&&(decide (Q8 p.1=some (.builtin id))&&decide (p.1≠"__name__"))|.ty id=>decide (nsIn K jy p.1=some none)&&(decide (Q8 p.1=some (.type id))&&decide (p.1≠"__name__"))|_=>false
theorem Up [Decidable a] [Decidable b] [Decidable c] (h:(decide a&&(decide b&&decide c))=true):a∧b∧c:=
 have q:=(bz _ _).mp h;have r:=(bz _ _).mp q.2
 ⟨of_decide_eq_true q.1,of_decide_eq_true r.1,of_decide_eq_true r.2⟩
theorem ac7 {p:Str×CV}(h:Uo X.K p=true):F4 p.1 p.2:=by obtain⟨x,v⟩:=p;cases v with|aH a=>exact of_decide_eq_true (p:=nsIn X.K jy x=some (some<|.ref a)) h|bi id=>exact Up h|ty id=>exact Up h|_=>exact nB h
theorem ac8 {gl:List (Str×CV)}(h:gl.all (Uo (kF P0))=true):Gl gl:=λx v e=>by
 rw[<-hX] at h;have:(x,v)∈gl:=by
  clear h;induction gl with
  |nil=>exact nS e|cons p gl ih=>rw[nD] at e;cases hb:x==p.1 with|true=>rw[hb] at e;obtain rfl:=dE e;exact eq_of_beq hb▸.head _|false=>rw[hb] at e;exact .tail _<|ih e
 exact ac7<|dI.mp h _ this
noncomputable def Uq:List (Str×CV):=[("len",.bi "len"),("range",.ty "range"),("list",.ty "list"),("bisect_right",.aH 206),("bisect_left",.aH 224),("min",.bi "min"),("max",.bi "max"),("Headers",.aH 184),("type",.ty "type"),("str",.ty "str"),("sorted",.bi "sorted"),("sum",.bi "sum"),("iter",.bi "iter"),("enumerate",.ty "enumerate"),("_iter_escaped_chars",.aH 231),("_strip_quoted_realnames",.aH 238),("_netrclex",.aH 283),("_name_disallowed_re",.aH 48),("_value_disallowed_re",.aH 53),("_law_spelled",.aH 301),("_law_desk",.aH 294),("insort_left",.aH 215),("insort_right",.aH 197),("_check_parenthesis",.aH 245),("_law_even",.aH 308),("_law_turned",.aH 313),("_law_table",.aH 318),("_law_chains",.aH 323),("_law_pairings",.aH 328)]
theorem ac9:Gl Uq:=ac8 (by kernel_rfl)
theorem ac' {A:Around}{own:List ai}{s:az}{c:aY}{env:Env}{st:List ae}{x:Str}{v:CV}(S:Sx own st s)(R:dK own c env) (hk:c.scope.names.lookup x=some .globalImplicit)(h:F4 x v){Q:an->az->Prop}(hQ:∀y,RelV own s.heap v y->Q y s):be (aQ X.prog X.w) A (loadName env x) Q (λu u=>False) s:=by
 have T:=S.ok.fw;have go:be (aQ X.prog X.w) A (loadGlobal env x) Q (λu u=>False) s:=by cases v with|aH a=>exact loadGlobal_global (by rw[R.globals];exact T.g.keeps S.bj) (mg_of S.ok.k T.g h) (hQ _ rfl)|bi id=>exact loadGlobal_builtin (by rw[R.globals];exact T.g.keeps S.bj) (mg_none_of S.ok.k T.g h.1) (by rw[R.builtins];exact T.b.keeps S.bj) ((T.builtins x h.2.2).trans h.2.1) (hQ _ rfl)|ty id=>exact loadGlobal_builtin (by rw[R.globals];exact T.g.keeps S.bj) (mg_none_of S.ok.k T.g h.1) (by rw[R.builtins];exact T.b.keeps S.bj) ((T.builtins x h.2.2).trans h.2.1) (hQ _ rfl)|_=>exact h.elim
 have hx:=R.kd.trans hk;unfold loadName;simp [Env.blockKind,R.hk,hx,ScopeKind.isAnnotationScope,if_false];exact go
noncomputable def mj (vars:List (Str×CV))(x:Str)(v:CV):List (Str×CV):=match vars with
 |[]=>[(x,v)]|(y,u)::r=>if x==y then(x,v)::r else(y,u)::mj r x v
theorem Ur {y:Str}{u:CV}{x:Str}:mj ((y,u)::r) x v=if x==y then(x,v)::r else(y,u)::mj r x v:=rfl
theorem Us:∀vars x y v,(mj vars x v).lookup y=if y=x then some v else vars.lookup y
 |[],x,y,v=>by
  show([(x,v)]).lookup y=_;rw[nD];by_cases h:y=x
  ·simp [h]
  simp [h,beq_eq_false_iff_ne.mpr h]
 |(z,u)::r,x,y,v=>by
  rw[Ur];by_cases hz:x=z
  ·subst hz;simp [beq_self_eq_true,if_true,nD];by_cases h:y=x
   ·simp [h]
   simp [h,beq_eq_false_iff_ne.mpr h]
  simp [beq_eq_false_iff_ne.mpr hz,gJ,if_false,nD];by_cases hy:y=z
  ·subst hy;simp [rc hz]
  simp [beq_eq_false_iff_ne.mpr hy];exact Us r x y v
def Ut (c:aY)(st:List ae)(x:Str)(v:CV):Option (List ae):=(st[c.locals]?).bind λo=>o.Ul.bind λf=>match f with
 |⟨vars,u⟩=>some (st.set c.locals (.frame (mj vars x v)))
noncomputable def Uu (c:aY)(st:List ae)(x:Str)(v:CV):Option (List ae):=(c.cells.lookup x).bind λn=>(st[n]?).bind λo=>o.Um.bind λu=>some (st.set n (.cell (some v)))
def kn (c:aY)(st:List ae)(x:Str)(v:CV):Option (List ae):=
 match c.scope.names.lookup x with
 |some .local=>Ut c st x v
 |some .cell=>Uu c st x v
 |_=>none
theorem ada {c:aY}{x:Str}{st:List ae}{vars:List (Str×CV)}{v:CV}(h1:c.scope.names.lookup x=some .local)(h2:st[c.locals]?=some (.frame vars)):kn c st x v=some (st.set c.locals (.frame (mj vars x v))):=by unfold kn;rw[h1];show(st[c.locals]?).bind _=_;rw[h2];rfl
theorem F5 {A:Around}{own:List ai}{s:az}{c:aY}{env:Env}{st ag:List ae}{x:Str}{v:CV}{y:an}(S:Sx own st s)(R:dK own c env) (h:kn c st x v=some ag)(hr:RelV own s.heap v y){P:List ai->Unit->az->Prop}(hP:∀s',a9 own s own s'->Sx own ag s'->P own () s'):Tr A own s (bindName env x y) P:=
 wpAny_bindName (show Tr A own s (storeName env x y) P from((show (c.scope.names.lookup x=some .local∧Ut c st x v=some ag)∨(c.scope.names.lookup x=some .cell∧Uu c st x v=some ag) from by
  unfold kn at h;generalize c.scope.names.lookup x=k at h;cases k with
  |none=>nomatch h|some k=>cases k<;>first|exact .inl ⟨rfl,h⟩|exact .inr ⟨rfl,h⟩|nomatch h)).elim (λh=>fE h.2 λo hf h'=>fE h' λf u h'=>by
  obtain⟨vars,f⟩:=f;rw[f] at hf;obtain rfl:=dE h';obtain⟨a,ha,m,hm,hv⟩:=S.bD hf;obtain rfl:=dE<|R.wc.symm.trans ha;exact wpAny_storeName_local (R.kd.trans h.1) hm (λh' hn hs=>⟨own,a9.set S R.wc hs.extBut,hP _ (a9.set S R.wc hs.extBut) (S.set R.wc hs.extBut λg=>⟨_,hn,λz=>by
   rw[Us];by_cases hz:z=x
   ·rw[if_pos hz,if_pos hz];exact .inr ⟨y,rfl,hr.aM g⟩
   rw[if_neg hz,if_neg hz];exact(hv z).aM g⟩)⟩)<|by rw[R.hk];rfl) λh=>fE h.2 λn hn h'=>fE h' λo hc h'=>fE h' λf u h'=>by
  rw[f.2] at hc;obtain rfl:=dE h';obtain⟨a,ha,cv,hm,_⟩:=S.bD hc;obtain⟨a',h1,h2⟩:=R.cells.lookup hn;obtain rfl:=dE<|ha.symm.trans h2;exact wpAny_storeName_cell R.hk (R.kd.trans h.1) h1 hm λh' hv hs=>⟨own,a9.set S ha hs.extBut,hP _ (a9.set S ha hs.extBut)<|S.set ha hs.extBut λg=>⟨_,hv,y,rfl,hr.aM g⟩⟩)
theorem aF.append:∀{xs ys} {vs ws},aF own h xs vs->aF own h ys ws->aF own h (xs++ys) (vs++ws)
 |[],u,o,z,e,r=>by subst e;exact r|x::xs,u,o,z,⟨v,r,e,hv,hr⟩,q=>by subst e;exact⟨v,_,rfl,hv,aF.append hr q⟩
theorem aF.length:∀{xs} {vs},aF own h xs vs->xs.length=vs.length
 |[],u,e=>by subst e;rfl|x::xs,u,⟨v,r,e,o,hr⟩=>by subst e;simp [aF.length hr]
theorem aF.get:∀{xs} {vs} {i:Nat} {x},aF own h xs vs->xs[i]?=some x->∃v,vs[i]?=some v∧RelV own h x v
 |[],u,o,z,t,e=>by exact nS e|x::xs,u,0,o,⟨v,r,e,hv,hr⟩,q=>by subst e;obtain rfl:=dE q;exact⟨v,rfl,hv⟩|x::xs,u,i+1,o,⟨v,r,e,z,hr⟩,q=>by subst e;rw[re] at q;obtain⟨w,h1,h2⟩:=aF.get hr q;exact⟨w,by rw[re];exact h1,h2⟩
theorem Sx.newList {own:List ai}{st:List ae}{s:az}{xs:List CV}{vs:List an}{n:Nat}(S:Sx own st s)(r:aF own s.heap xs vs):Ao own s (PV (st++[.list xs]) (.ab st.length)) (.ref s.heap.objs.size) {s with heap:=s.heap.push {cls:=.type "list",data:=.seq vs.toArray n}}:=by have ml:∀b o,s.heap.get? b=some o->(s.heap.push {cls:=.type "list",data:=.seq vs.toArray n}).get? b=some o:=λb o e=>fT _ e;have iA:s.heap.get? s.heap.objs.size=none:=iI<|aG _;refine⟨own++[s.heap.objs.size],a9.push ml iA,S.push ml iA λg=>⟨vs,n,iy _ rfl,aF.aM g _ r⟩,_,?_,rfl⟩;rw[<-S.len,dT<|aG _];simp
theorem Sx.adc {own:List ai}{st:List ae}{s:az}{xs:List CV}{vs:List an}{n:Nat}(S:Sx own st s)(r:aF own s.heap xs vs):Ao own s (PV st (.cB xs)) (.ref s.heap.objs.size) {s with heap:=s.heap.push {cls:=.type "tuple",data:=.seq vs.toArray n}}:=by have ml:∀b o,s.heap.get? b=some o->(s.heap.push {cls:=.type "tuple",data:=.seq vs.toArray n}).get? b=some o:=λb o e=>fT _ e;have iA:s.heap.get? s.heap.objs.size=none:=iI<|aG _;have E3:a9 own s own {s with heap:=s.heap.push {cls:=.type "tuple",data:=.seq vs.toArray n},toks:=s.toks}:=a9.more ml;exact⟨own,E3,S.more ml,_,vs,n,rfl,S.jO iA,S.mf iA,iy _ rfl,aF.aM E3.aM _ r⟩
end
section
def ade (d:Nat)(t:an->Sem an)(a:CV)(st:List ae)(v:CV)(ag:List ae):Prop:=∀A own s x,Rm d A->Sx own st s->RelV own s.heap a x->Tr A own s (t x) (PV ag v)
def Ar (d:Nat)(t:an->an->Sem an)(a b:CV)(st:List ae)(v:CV)(ag:List ae):Prop:=∀A own s x y,Rm d A->Sx own st s->RelV own s.heap a x->RelV own s.heap b y->Tr A own s (t x y) (PV ag v)
def rF (d:Nat)(a:CV)(st:List ae)(b:Bool)(ag:List ae):Prop:=∀A own s x,Rm d A->Sx own st s->RelV own s.heap a x->Tr A own s (zN x) (PE ag b)
structure PM (st:List ae)(f:CV)(first:List CV)(own:List ai)(r:an×List an)(s:az):Prop where
 S:Sx own st s
 hf:RelV own s.heap f r.1
 hs:aF own s.heap first r.2
def gM (d:Nat)(name:Str)(a:CV)(st:List ae)(f:CV)(first:List CV):Prop:=∀A own s x pl,Rm d A->Sx own st s->RelV own s.heap a x->Tr A own s (getMethod x name pl) (PM st f first)
def oM (f:CV)(st:List ae):Prop:=∀own s x,Sx own st s->RelV own s.heap f x->∃k,Looks (aQ X.prog X.w) s.heap (keeperOf x) k
noncomputable abbrev rG (d:Nat)(name:Str):=ade d λx=>getAttr x name true
noncomputable abbrev oN (d:Nat)(op:B0):=Ar d (binaryOp op)
noncomputable abbrev xW (d:Nat)(op:B0):=Ar d (inplaceOp op)
noncomputable abbrev jj (d:Nat)(op:ua):=Ar d (compareOp op)
noncomputable abbrev fF (d:Nat)(adf:aq):=Ar d λo i=>do Kd adf (<-abj o) o i
inductive iB|cw|yes|no|aE (v:CV) (st:List ae)|val (v:CV)|iX (f:cZ) (st:List ae)|c7 (v:CV) (f:List ae->List ae)|fl (f:cZ) (g:List ae->List ae)|bg (f:CV) (first:List CV)
structure Z where
 st:List ae
 sc:List iB:=[]
 ob:List Prop:=[]
def Z.ok (z:Z):Prop:=∀p∈z.ob,p
theorem aX {st:List ae}{sc:List iB}:Z.ok ⟨st,sc,[]⟩:=λp hp=>nomatch hp
theorem am {st:List ae}{sc:List iB}{p:Prop}{ob:List Prop}(h:p)(k:Z.ok ⟨st,sc,ob⟩):Z.ok ⟨st,sc,p::ob⟩:=λq hq=>
 (pO.mp hq).elim (λe=>e▸h) (k q)
theorem As {st ag:List ae}{sc mm:List iB}{p:Prop}{ob:List Prop}(k:Z.ok ⟨st,sc,p::ob⟩):Z.ok ⟨ag,mm,ob⟩:=λq hq=>k q<|.tail _ hq
theorem At {st:List ae}{sc:List iB}{p:Prop}{ob:List Prop}(k:Z.ok ⟨st,sc,p::ob⟩):p:=k _<|.head _
structure RZ (α:Type)(P:List ae->α->List ae->Prop)(z:Z) where
 v:α
 z':Z
 ok:z'.ok->z.ok∧P z.st v z'.st
noncomputable def EZ (α:Type)(P:List ae->α->List ae->Prop):=(z:Z)->Option (RZ α P z)
abbrev KZ (P:List ae->α->List ae->Prop)(S:List ae->β->List ae->Prop)(a:α):List ae->β->List ae->Prop:=λaw v aJ=>∀st,P st a aw->S st v aJ
section
variable {α β:Type}{P Q:List ae->α->List ae->Prop}{S:List ae->β->List ae->Prop}
noncomputable def Ln (o:Option α)(k:(v:α)->o=some v->Option β):Option β:=match o,k with
 |some v,k=>k v rfl|none,x=>none
noncomputable def EZ.no:EZ α P:=λx=>none
noncomputable def EZ.ret (v:α)(h:∀st,P st v st):EZ α P:=λz=>some ⟨v,z,λk=>⟨k,h _⟩⟩
noncomputable def RZ.to (o:Option (RZ α Q z))(h:∀(v:α)(z':Z),(z'.ok->z.ok∧Q z.st v z'.st)->z'.ok->Lo.ok∧P Lo.st v z'.st):Option (RZ α P Lo):=match o with
 |none=>none|some ⟨v,z',ok⟩=>some ⟨v,z',h v z' ok⟩
def EZ.imp (p:EZ α Q)(h:∀{st v ag},Q st v ag->P st v ag):EZ α P:=λz=>RZ.to (p z) λx x ok k=>⟨(ok k).1,h (ok k).2⟩
def EZ.bind (p:EZ α P)(q:∀a,EZ β (KZ P S a)):EZ β S:=λz=>match p z with
 |none=>none|some ⟨a,z',ok⟩=>RZ.to (q a z') λx x Lp k=>⟨(ok (Lp k).1).1,(Lp k).2 _ (ok (Lp k).1).2⟩
noncomputable def EZ.ux (p:Prop)(v:α)(h:p->∀st,P st v st):EZ α P:=λz=>match z with
 |⟨st,sc,ob⟩=>some ⟨v,⟨st,sc,p::ob⟩,λk=>⟨As k,h (At k) _⟩⟩
def EZ.Uv (p:List ae->Prop)(q:EZ α (λst v ag=>p st->P st v ag)):EZ α P:=λz=>match z with
 |⟨st,sc,ob⟩=>RZ.to (q ⟨st,sc,p st::ob⟩) λx x ok k=>⟨As (ok k).1,(ok k).2 (At (ok k).1)⟩
def EZ.F6 (o:Option γ)(q:(v:γ)->o=some v->EZ α P):EZ α P:=λz=>Ln o λv h=>q v h z
def EZ.Lq (f:List ae->Option γ)(q:(v:γ)->EZ α (λst a ag=>f st=some v->P st a ag)):EZ α P:=λz=>match z with
 |⟨st,sc,ob⟩=>Ln (f st) λv h=>RZ.to (q v ⟨st,sc,ob⟩) λx x ok k=>⟨(ok k).1,(ok k).2 h⟩
noncomputable def EZ.F7 (b:Bool)(y:b=true->EZ α P)(n:b=false->EZ α P):EZ α P:=match b,y,n with
 |true,y,x=>y rfl|false,x,n=>n rfl
noncomputable def EZ.adg (vs:List CV){P:List ae->CV->List ae->Prop}(h:vs.length<=cX->∀st,P st (.ab st.length) (st++[.list vs])):EZ CV P:=λz=>match z with
 |⟨st,sc,ob⟩=>some ⟨.ab st.length,⟨st++[.list vs],sc,(vs.length<=cX)::ob⟩,λk=>⟨As k,h (At k) _⟩⟩
noncomputable def iB.adh:iB->List ae->Option (CV×List ae)
 |.aE v ag,x=>some (v,ag)|.val v,st=>some (v,st)|.c7 v f,st=>some (v,f st)|x,u=>none
noncomputable def iB.adi:iB->List ae->Option (cZ×List ae)
 |.iX f ag,x=>some (f,ag)|.fl f g,st=>some (f,g st)|x,u=>none
noncomputable def EZ.Au (f:iB->List ae->Option (α×List ae))(P:List ae->α->List ae->Prop):EZ α P:=λz=>match z with
 |⟨st,sc,ob⟩=>match sc with
   |[]=>none|s::r=>match f s st with
     |none=>none|some (v,ag)=>some ⟨v,⟨ag,r,P st v ag::ob⟩,λk=>⟨As k,At k⟩⟩
abbrev EZ.ask (P:List ae->CV->List ae->Prop):EZ CV P:=.Au iB.adh P
noncomputable def EZ.Uw (q:Bool)(y:EZ α (λst v ag=>q=true->P st v ag))(n:EZ α (λst v ag=>q=false->P st v ag)):EZ α P:=match q,y,n with
 |true,y,x=>y.imp λh=>h rfl|false,x,n=>n.imp λh=>h rfl
def EZ.by (p:Prop)(y:EZ α (λst v ag=>p->P st v ag)):EZ α P:=λz=>match z with
 |⟨st,sc,ob⟩=>RZ.to (y ⟨st,sc,p::ob⟩) λx x ok k=>⟨As (ok k).1,(ok k).2 (At (ok k).1)⟩
def EZ.xX (q:Bool)(y:EZ α (λst v ag=>q=true->P st v ag))(n:EZ α (λst v ag=>q=false->P st v ag)):EZ α P:=λz=>match z with
 |⟨st,sc,ob⟩=>match sc with
   |.yes::r=>RZ.to (EZ.by _ y ⟨st,r,ob⟩) λx x ok k=>ok k|.no::r=>RZ.to (EZ.by _ n ⟨st,r,ob⟩) λx x ok k=>ok k|.cw::r=>RZ.to (EZ.Uw q y n ⟨st,r,ob⟩) λx x ok k=>ok k|sc=>EZ.Uw q y n ⟨st,sc,ob⟩
noncomputable def EZ.bg {d:Nat}(name:Str)(a:CV){P:List ae->CV->List ae->Prop}(q:∀f first,EZ CV (λst v ag=>gM d name a st f first->P st v ag)):EZ CV P:=λz=>match z with
 |⟨st,sc,ob⟩=>match sc with
   |.bg f first::r=>RZ.to (q f first ⟨st,r,gM d name a st f first::ob⟩) λx x ok k=>⟨As (ok k).1,(ok k).2 (At (ok k).1)⟩
   |_=>none
noncomputable def RZ.out (o:Option (RZ α P z)):Option (α×Z):=match o with
 |none=>none|some ⟨v,z',x⟩=>some (v,z')
theorem EZ.run {o:Option (RZ α P z)}(h:RZ.out o=some (v,z'))(k:z'.ok):P z.st v z'.st:=by cases o with|none=>nomatch h|some r=>obtain⟨v,z',ok⟩:=r;obtain rfl:=(Prod.mk.inj<|dE h).1;obtain rfl:=(Prod.mk.inj<|dE h).2;exact(ok k).2
end
noncomputable def Ux:Const->Option CV
 |.none=>some .none|.bool b=>some (.bool b)|.int i=>some (.int i)|.str x=>some (.str x)|_=>none
noncomputable def d4 (x y:Str):Bool:=x.cps.toList==y.cps.toList
noncomputable def bP (x y:Str):Bool:=decide (x.cps.toList<y.cps.toList)
noncomputable def ko (x y:Str):Bool:=!(Builtin.Str.occurrences y x 0 y.length 1).isEmpty
noncomputable def adj (e:aq):Bool:=match e with
 |.Name id x=>id==("super":Str)|_=>false
def xY (o:aq):Bool:=match o with
 |.Call f x u z=>!adj f|_=>true
noncomputable def lu (e:aq):Bool:=bT e.ctorIdx 22
noncomputable def Av (e:aq):Bool:=bT e.ctorIdx 20
end
section
set_option backward.match.sparseCases true
variable {d:Nat}{c:aY}
structure qj (d:Nat)(c:aY)(es:List aq)(st:List ae)(vs:List CV)(ag:List ae):Prop where
 ns:∀env pos,(pP pos (l6 es env)).any (·.1)=false
 h:∀A own s env pos,Rm d A->Sx own st s->dK own c env->Tr A own s (zO (pP pos (l6 es env))) (Uk ag vs)
structure PKs (st:List ae)(ks:List (Str×CV))(zs:List Str)(own:List ai)(xs:List an)(s:az):Prop where
 S:Sx own st s
 r:cf own s.heap ks (zs.zip xs)
structure sV (d:Nat)(c:aY)(fg:List ub)(st:List ae)(ks:List (Str×CV))(ag:List ae):Prop where
 all:∀env pos,(vO pos (vP fg env)).all (·.1.isSome)=true
 any:∀env pos,(vO pos (vP fg env)).any (·.1.isNone)=false
 h:∀A own s env pos,Rm d A->Sx own st s->dK own c env->
  Tr A own s (evalAll ((vO pos (vP fg env)).map (·.2))) (PKs ag ks ((vO pos (vP fg env)).filterMap (·.1)))
def Aw (d:Nat)(c:aY)(e:Option aq)(st:List ae)(v:CV)(ag:List ae):Prop:=∀A own s env,Rm d A->Sx own st s->dK own c env->Tr A own s (valueOrNone (evalOpt e env)) (PV ag v)
def Ax (d:Nat)(c:aY)(op:zP)(es:List aq)(st:List ae)(b:Bool)(ag:List ae):Prop:=∀A own s env,Rm d A->Sx own st s->dK own c env->Tr A own s (allTrue op es env) (PE ag b)
section
variable {st aw aJ cE ag:List ae}{a b v f:CV}
theorem CH {k:Const}{x:Nat}{pos:Pos}(h:Ux k=some v):a8 d c (.Constant k x pos) st v st:=λA own s env u S R=>by
 cases k<;>first|(obtain rfl:=dE h)|nomatch h
 ·exact Tr.pure ⟨S,rfl⟩
 ·exact Tr.pure ⟨S,rfl⟩
 ·exact wpAny_mkInt ⟨own,.toks,S.toks _,_,rfl⟩
 exact B1 ⟨own,.toks,S.toks _,_,rfl⟩
theorem eu {x:Str}{pos:Pos}(hd:(x==("__debug__":Str))=false)(hc:(x==("__classdict__":Str))=false)(h:ji c st x=some v):a8 d c (.Name x pos) st v st:=λA own s env u S R=>
 Tr.eh (Tr.eq (if_neg<|Q9.mp hd)<|Lm S R h hc λy hy=>⟨own,.refl,S,hy⟩)
theorem Uy {l:aq}{pos:Pos}(hl:a8 d c l st a aw)(hr:a8 d c r aw b aJ)(ho:oN d op a b aJ v cE):a8 d c (.BinOp l op r pos) st v cE:=λA own s env q S R=>
 (hl A own s env q S R).bind λaO x s₁ bF p=>(Tr.holding<|hr A aO s₁ env q p.S<|R.ext bF).bind λaS y aR cY t=>
  Tr.eh (Tr.operate<|ho A aS aR x y q t.S (p.r.aM cY.aM) t.r)
theorem Uz (hm:B2 op r=false):markedEach [op] [r] (evalEach [r] env)=[d9 r env]:=
 congrArg (λx=>[x]) (ap3 hm)
theorem adn {l:aq}{pos:Pos}(hm:B2 op r=false)(hl:a8 d c l st a aw)(hr:a8 d c r aw b aJ)(ho:jj d op a b aJ v cE):a8 d c (.Compare l [op] [r] pos) st v cE:=λA own s env q S R=>by
 rw[arm_eval_Compare,Uz hm];exact(hl A own s env q S R).bind λaO x s₁ bF p=>(Tr.holding<|hr A aO s₁ env q p.S<|R.ext bF).bind λaS y aR cY t=>
  Tr.eh (Tr.operate<|ho A aS aR x y q t.S (p.r.aM cY.aM) t.r)
theorem ado {x:aq}{pos:Pos}{b:Bool}(h:a8 d c x st a aw)(ht:rF d a aw b aJ):a8 d c (.UnaryOp .Not x pos) st (.bool !b) aJ:=λA own s env q S R=>
 (h A own s env q S R).bind λaO x s₁ bF p=>Tr.eh (Tr.holding (Tr.holding (
  (ht A aO s₁ x q p.S p.r).bind λaS y aR cY t=>Tr.pure ⟨t.S,congrArg (λz=>an.bool !z) t.e⟩)))
theorem UA {x:aq}{pos:Pos}{i:Int}(h:a8 d c x st (.int i) aw):a8 d c (.UnaryOp .USub x pos) st (.int (-i)) aw:=λA own s env q S R=>
 (h A own s env q S R).bind λaO x s₁ bF p=>p.r.elim λt e=>by subst e;exact Tr.eh<|Tr.holding<|P.neg_int ⟨aO,.toks,p.S.toks _,_,rfl⟩
theorem UB {t x y:aq}{pos:Pos}{b:Bool}(h:fx d c t st b aw)(hx:b=true->a8 d c x aw v aJ)(hy:b=false->a8 d c y aw v aJ):a8 d c (.IfExp t x y pos) st v aJ:=λA own s env q S R=>
 (h A own s env q S R).bind λaO r s₁ bF p=>match r,p with
  |true,p=>hx p.e.symm A aO s₁ env q p.S (R.ext bF)|false,p=>hy p.e.symm A aO s₁ env q p.S<|R.ext bF
set_option tactic.hygienic true in
theorem adp o {w:Sem an}:bif xY o then attributeBase o name env w=w else True:=by
 cases o<;>try rfl
 rename_i f args fg pos;cases f<;>try rfl
 rename_i id p
 match args,fg with
 |x::u,z=>show bif !(id==_) then _ else _;cases (id==("super"))<;>first|rfl|trivial
 |[],x::u=>show bif !(id==_) then _ else _;cases (id==("super"))<;>first|rfl|trivial
 |[],[]=>
  show bif !(id==("super")) then(if(!(id==("super"))||(name==("__class__"))||_||_)=true then w else _)=w else True;cases (id==("super"))
  ·rfl
  trivial
theorem Lr {o:aq}(h:xY o=true){P:List ai->an->az->Prop}(k:Tr A own s (d9 o env) P):Tr A own s (attributeBase o name env (d9 o env)) P:=by have e:=adp o (name:=name) (env:=env) (w:=d9 o env);rw[h] at e;exact Tr.eq e k
theorem Ls {k:Keeper}(hk:Looks (aQ X.prog X.w) s.heap (keeperOf fv) k)(h:be (aQ X.prog X.w) A (call fv ps ks) Q (λu u=>False) s):
 be (aQ X.prog X.w) A (do
  let r<-match<-keeperOf fv,false with
   |.frame,true=>Ra starredCall fv ps ks
   |.frame,false=>if n>30 then call fv ps ks else Ra plainCall fv ps ks
   |.boundFrame,false=>if n>30 then call fv ps ks else Ra callOfAMethodObject fv ps ks
   |.machine,false=>call fv ps ks
   |o,z=>operate vs (call fv ps ks)
  holding [r] point
  pure r) Q (λu u=>False) s:=by
 refine aB<|hk.here ?_;have tail:∀{t:Sem an},be (aQ X.prog X.w) A t Q (λu u=>False) s->be (aQ X.prog X.w) A (t>>=λr=>holding [r] point>>=λu=>pure r) Q (λu u=>False) s:=
  λht=>aB<|bC ht (λr s' p=>aB<|vN<|wpAny_point<|bH p) λu u x=>x
 have UC mk:be (aQ X.prog X.w) A (if n>30 then call fv ps ks>>=λr=>holding [r] point>>=λu=>pure r else Ra mk fv ps ks>>=λr=>holding [r] point>>=λu=>pure r) Q (λu u=>False) s:=by
  by_cases hn:n>30
  ·rw[if_pos hn];exact tail h
  rw[if_neg hn];exact tail<|Calls.wpAny_keep h
 cases k
 ·exact UC _
 ·exact UC _
 ·exact tail h
 exact tail<|abi h
structure PA (st:List ae)(vs:List CV)(ks:List (Str×CV))(own:List ai)(a:Args)(s:az):Prop where
 S:Sx own st s
 p:aF own s.heap vs a.pos
 k:cf own s.heap ks a.kw
theorem ads (hL:L.any (·.1)=false)(hW:W.all (·.1.isSome)=true):Ke fv true L W=(do
 let p<-zO L
 holding (p++(none:Option an).toList) (do
  let kw:=(W.filterMap (·.1)).zip (<-evalAll (W.map (·.2)))
  return ⟨p,kw⟩)):=by
 unfold Ke;rw[hW]
 match L,hL with
 |[],x=>rfl|(false,x)::u,o=>rfl|(true,x)::u,h=>nomatch h
theorem UD {pos:Pos}(hv:qj d c es st vs aw)(hk:sV d c fg aw ks aJ)(q:Rm d A)(S:Sx own st s)(R:dK own c env):Tr A own s (Ke fv true (pP pos (l6 es env)) (vO rH (vP fg env))) (PA aJ vs ks):=
 Tr.eq (ads (hv.ns _ _)<|hk.all _ _) ((hv.h A own s env pos q S R).bind λaO p s₁ bF t=>Tr.holding ((hk.h A aO s₁ env rH q t.S<|R.ext bF).bind λaS k aR cY u=>
  Tr.pure ⟨u.S,aF.aM cY.aM _ t.r,u.r⟩))
theorem UE {pos:Pos}(hv:qj d c es st vs aw)(hk:sV d c fg aJ ks cE):((pP pos (l6 es env)).any (·.1)||(vO rH (vP fg env)).any (·.1.isNone))=false:=by rw[hv.ns,hk.any];rfl
theorem UF {f:aq}{args:List aq}{fg:List ub}{pos:Pos}{vs:List CV}{ks:List (Str×CV)}{Q:an->az->Prop}(hp:Av f=false) (hf:a8 d c f st a aw)(hv:qj d c args aw vs aJ)(hk:sV d c fg aJ ks cE)(uy:oM a cE){A:Around}{own:List ai}{s:az}{env:Env}(q:Rm d A)(S:Sx own st s)(R:dK own c env) (hc:∀aS aR fv ws kk,a9 own s aS aR->Sx aS cE aR->RelV aS aR.heap a fv->aF aS aR.heap vs ws->cf aS aR.heap ks kk->be (aQ X.prog X.w) A (call fv ws kk) Q (λu u=>False) aR):be (aQ X.prog X.w) A (d9 (.Call f args fg pos) env) Q (λu u=>False) s:=by have e:=(show bif Av f then True else  d9 (.Call f args fg pos) env=(do callWith pos (<-d9 f env) [] (pP pos<|l6 args env) (vO pos<|vP fg env)) from by cases f<;>first|exact trivial|rfl);rw[hp] at e;refine Eq.mpr (congrArg (λt=>be _ _ t _ _ _) e)<|aB<|bC (hf A own s env q S R) (λfv s₁ t=>?_) λu u x=>x;obtain⟨aO,bF,iC⟩:=t;refine aB<|bC (Tr.holding<|UD hv hk q iC.S<|R.ext bF) (λp aR t=>aB<|zM ?_) λu u x=>x;obtain⟨aS,cY,kT⟩:=t;rw[UE hv hk];have cx:=iC.r.aM cY.aM;exact(uy aS aR fv kT.S cx).elim λk eV=>Ls eV<|hc aS aR fv _ _ (bF.trans cY) kT.S cx kT.p kT.k
theorem adu {f:aq}{args:List aq}{fg:List ub}{pos:Pos}{vs:List CV}{ks:List (Str×CV)}{mS:List ae}(hp:Av f=false) (hf:a8 d c f st a aw)(hv:qj d c args aw vs aJ)(hk:sV d c fg aJ ks cE)(uy:oM a cE)(hc:bk d a vs ks cE v mS):a8 d c (.Call f args fg pos) st v mS:=λA own s env q S R=>UF hp hf hv hk uy q S R λaS aR fv ws kk bX bw fQ cx di=>
 bC (hc A aS aR fv ws kk q bw fQ cx di) (λu u t=>match t with|⟨av,e,p⟩=>⟨av,bX.trans e,p⟩) λu u x=>x
end
end
section
variable {d:Nat}{c:aY}
section
variable {st aw aJ cE mS ag:List ae}{a b v f:CV}
theorem adv {l:List (Bool×α)}(h:l.any (·.1)=false):l.all (λp=>!p.1)=true:=by rw[List.all_eq_not_any_not,E0];rw[<-h];congr 1;funext p;exact abk _
theorem adw (hL:L.any (·.1)=false)(hW:W.all (·.1.isSome)=true)(hn:n<29):Rb n L W=true:=by unfold Rb;rw[hW,cP,bz];exact⟨adv hL,decide_eq_true<|by split<;>(first|exact ah [_] (.lt .o (.n 29)<|.gt (.a .o .k)<|.n 30) rfl hn|exact ah [_] (.lt .o (.n 29)<|.gt (.a .o .j)<|.n 30) rfl hn)⟩
theorem Lu {o:aq}{pos:Pos}(hb:xY o=true)(bJ:args.length+fg.length<29)(ho:a8 d c o st a aw)(hm:gM d name a aw f first)(hv:qj d c args aw vs aJ)(hk:sV d c fg aJ ks cE)(uy:oM f cE)(hc:bk d f (first++vs) ks cE v mS)(xZ:mn.endLine=pos.line):a8 d c (.Call (.Attribute o name mn) args fg pos) st v mS:=λA own s env q S R=>by refine(Lr hb<|ho A own s env q S R).bind λaO ov s₁ bF p=>Tr.eh ?_;unfold methodCall;rw[adw (hv.ns _ _) (hk.all _ _) bJ];refine(Tr.holding<|hm A aO s₁ ov _ q p.S p.r).bind λaS ff aR cY t=>?_;have e:methodCallPos true o env mn pos=pure pos:=if_pos (by rw[xZ];simp);dsimp only;rw[e,pure_bind];refine(Tr.holding<|UD hv hk q t.S<|(R.ext bF).ext cY).bind λdt g bu jP u=>Tr.eh ?_;rw[UE hv hk];have di:=t.hf.aM jP.aM;exact(uy dt bu _ u.S di).elim λk eV=>Ls eV<|hc A dt bu _ _ _ q u.S di (aF.append (aF.aM jP.aM _ t.hs) u.p) u.k
theorem adx {o:aq}{pos:Pos}(hb:xY o=true)(ho:a8 d c o st a aw)(h:rG d name a aw v aJ):a8 d c (.Attribute o name pos) st v aJ:=λA own s env q S R=>
 (Lr hb<|ho A own s env q S R).bind λaO ov s₁ bF p=>Tr.eh<|(Tr.holding<|h A aO s₁ ov q p.S p.r).bind λaS r aR cY t=>Tr.skip (λx q=>wpAny_letTemporaryGo q)<|Tr.pure t
theorem jC {o i:aq}{pos:Pos}(ho:a8 d c o st a aw)(hi:a8 d c i aw b aJ)(h:fF d i a b aJ v cE):a8 d c (.Subscript o i pos) st v cE:=λA own s env q S R=>
 (ho A own s env q S R).bind λaO ov s₁ bF p=>(Tr.holding<|hi A aO s₁ env q p.S<|R.ext bF).bind λaS iv aR cY t=>Tr.eh
  (Tr.eq (bind_assoc (abj ov) (λg=>Kd i g ov iv)<|λr=>letTemporaryGo o ov r>>=λx=>pure r).symm ((h A aS aR ov iv q t.S (p.r.aM cY.aM) t.r).bind λdt r bu jP u=>Tr.skip (λx q=>wpAny_letTemporaryGo q)<|Tr.pure u))
theorem UG {l u k:Option aq}{x y:CV}{pos:Pos}(hl:Aw d c l st x aw)(hu:Aw d c u aw y aJ)(hk:Aw d c k aJ z cE):a8 d c (.Slice l u k pos) st (.sl [x,y,z]) cE:=λA own s env q S R=>
 (hl A own s env q S R).bind λaO xv s₁ bF iC=>(Tr.holding<|hu A aO s₁ env q iC.S<|R.ext bF).bind λaS yv aR cY kT=>
  (Tr.holding<|hk A aS aR env q kT.S<|(R.ext bF).ext cY).bind λdt zv bu jP CI=>by have cF:=CI.S;have ml:∀b o,bu.heap.get? b=some o->(bu.heap.push {cls:=.type "slice",data:=.fields #[xv,yv,zv]}).get? b=some o:=λb o e=>fT _ e;have iA:bu.heap.get? bu.heap.objs.size=none:=iI<|aG _;have E3:=a9.more (own:=dt) (t:=bu.toks) ml;exact vQ ⟨dt,E3,CI.S.more ml,_,[xv,yv,zv],rfl,CI.S.jO iA,CI.S.mf iA,iy _ rfl,_,_,rfl,((iC.r.aM cY.aM).aM jP.aM).aM E3.aM,_,_,rfl,(kT.r.aM jP.aM).aM E3.aM,_,_,rfl,CI.r.aM E3.aM,rfl⟩ (by size_fits)
theorem UH {own:List ai}{s:az}{vs:List CV}{xs:List an}(r:aF own s.heap vs xs)(h:vs.length<=cX):xs.toArray.size<=cX:=by rwa[ig,<-aF.length r]
theorem Lv {pos:Pos}(h:qj d c es st vs aw)(bn:vs.length<=cX):a8 d c (.List es pos) st (.ab aw.length) (aw++[.list vs]):=λA own s env q S R=>
 Tr.eh ((h.h A own s env pos q S R).bind λaO xs s₁ bF p=>vQ (p.S.newList p.r)<|UH p.r bn)
theorem CJ {k:Nat}{pos:Pos}(h:qj d c es st vs aw)(bn:vs.length<=cX):a8 d c (.Tuple es k pos) st (.cB vs) aw:=λA own s env q S R=>
 Tr.eh ((h.h A own s env pos q S R).bind λaO xs s₁ bF p=>vQ (p.S.adc p.r)<|UH p.r bn)
theorem sW:qj d c [] st [] st:=⟨λx x=>rfl,λA own s env pos x S R=>Tr.pure ⟨S,rfl⟩⟩
theorem Lw {t:Sem an}:zO ((false,t)::r)=(t>>=λv=>holding [v] (zO r)>>=λvs=>pure ([v]++vs)):=by rw[zO];rfl
theorem UI {e:aq}(h:lu e=false){pos:Pos}:pP pos (l6 (e::es) env)=(false,d9 e env)::pP pos (l6 es env):=by rw[(show l6 (e::es) env=(false,d9 e env)::l6 es env from by have:=(show bif lu e then True else l6 (e::es) env=(false,d9 e env)::l6 es env from by cases e<;>first|exact trivial|rfl);rwa[h] at this)];rfl
theorem oO {e:aq}(hs:lu e=false)(h:a8 d c e st v aw)(hr:qj d c es aw vs aJ):qj d c (e::es) st (v::vs) aJ:=
 ⟨λenv pos=>UI hs▸hr.ns env pos,λA own s env pos q S R=>Tr.eq ((congrArg zO<|UI hs).trans Lw)
  ((h A own s env q S R).bind λaO x s₁ bF p=>(Tr.holding<|hr.h A aO s₁ env pos q p.S<|R.ext bF).bind λaS xs aR cY t=>Tr.pure ⟨t.S,_,_,rfl,p.r.aM cY.aM,t.r⟩)⟩
theorem F8:sV d c [] st [] st:=⟨λx x=>rfl,λx x=>rfl,λA own s env pos x S R=>Tr.pure ⟨S,rfl⟩⟩
theorem ady {x:Str}{e:aq}{p:Pos}(h:a8 d c e st v aw)(hr:sV d c fg aw ks aJ):sV d c (⟨some x,e,p⟩::fg) st ((x,v)::ks) aJ:=
 ⟨λenv pos=>hr.all env pos,λenv pos=>hr.any env pos,λA own s env pos q S R=>
  Tr.bind ((h A own s env q S R).bind λaO x s₁ bF p=>Tr.eh<|Tr.pure p) λaO x s₁ bF p=>(Tr.holding<|hr.h A aO s₁ env pos q p.S<|R.ext bF).bind λaS xs aR cY t=>
   Tr.pure ⟨t.S,_,_,rfl,p.r.aM cY.aM,t.r⟩⟩
theorem Lx:Aw d c none st .none st:=λA own s env x S R=>Tr.pure ⟨S,rfl⟩
theorem UJ {e:aq}(h:a8 d c e st v aw):Aw d c (some e) st v aw:=h
theorem adz:rF d .none st false st:=λA own s x q S r=>by subst r;exact truthy_none ⟨own,.refl,S,rfl⟩
theorem Ly {x:Str}(h:¬(x.length:Int)>=2^63):rF d (.str x) st ((x.length:Int) != 0) st:=λA own s u q S r=>r.elim λt e=>by subst e;exact P.truthy_str h ⟨own,.toks,S.toks _,rfl⟩
theorem adC (hx:st[n]?=some (.list xs))(h:(xs.length:Int)<2^63):rF d (.ab n) st (!xs.isEmpty) st:=λA own s x q S r=>by obtain⟨a,ha,rfl⟩:=r;obtain⟨a',b8,vs,m,ho,hr⟩:=S.bD hx;obtain rfl:=dE<|ha.symm.trans b8;have hl:=aF.length hr;refine wpAny_truthy_list ⟨_,ho,rfl,m,rfl⟩ (by rwa[ig,<-hl]) ⟨own,.toks,S.toks _,?_⟩;show(!decide (vs.toArray.size=0))=_;rw[ig,<-hl];cases xs<;>rfl
theorem Lz {x:aq}{pos:Pos}{b:Bool}(h:fx d c x st b aw):fx d c (.UnaryOp .Not x pos) st (!b) aw:=λA own s env q S R=>
 (h A own s env q S R).bind λaO y s₁ bF p=>Tr.pure ⟨p.S,congrArg Bool.not p.e⟩
theorem adD {op:zP}{es:List aq}{pos:Pos}{b:Bool}(h:Ax d c op es st b aw):fx d c (.BoolOp op es pos) st b aw:=h
theorem LA (p:PV st (.bool q) own z s):Tr A own s (holding vs (zN z)) (PE st q):=
 Tr.holding (Tr.eq (congrArg zN p.r)<|wpAny_truthy_bool ⟨own,.refl,p.S,rfl⟩)
theorem F9 {l:aq}{pos:Pos}(hm:B2 op r=false)(hl:a8 d c l st a aw)(hr:a8 d c r aw b aJ)(ho:jj d op a b aJ (.bool q) cE):fx d c (.Compare l [op] [r] pos) st q cE:=λA own s env q S R=>by
 rw[arm_isTrue_Compare,Uz hm];exact(hl A own s env q S R).bind λaO x s₁ bF p=>(Tr.holding<|hr A aO s₁ env q p.S<|R.ext bF).bind λaS y aR cY t=>Tr.eh
  ((Tr.operate<|ho A aS aR x y q t.S (p.r.aM cY.aM) t.r).bind λdt z bu jP u=>LA u)
theorem UK {l:aq}{pos:Pos}(hm:B2 wd r'=false)(hl:a8 d c l st a aw)(hr:a8 d c r aw b aJ)(ho:jj d op a b aJ (.bool LB) aJ)(hn:LB=false->q'=false∧cE=aJ)(hy:LB=true->∃e,a8 d c r' aJ e cE∧jj d wd b e cE (.bool q') cE):fx d c (.Compare l [op,wd] [r,r'] pos) st q' cE:=λA own s env q S R=>by
 have e:markedEach [op,wd] [r,r'] (evalEach [r,r'] env)=[d9 r env,d9 r' env]:=congrArg (λx=>[d9 r env,x])<|ap3 hm;rw[arm_isTrue_Compare,e];refine(hl A own s env q S R).bind λaO x s₁ bF p=>?_;refine(Tr.holding<|hr A aO s₁ env q p.S<|R.ext bF).bind λaS y aR cY t=>Tr.eh ((Tr.holding<|ho A aS aR x y q t.S (p.r.aM cY.aM) t.r).bind λdt z bu jP u=>
  Tr.skip (λo q=>Rc q) ((LA u).bind λqk adE kq Ay w=>?_))
 obtain⟨jQ,et⟩:=w;subst et;cases adE with
 |false=>obtain⟨h1,h2⟩:=hn rfl;subst h1;subst h2;exact Tr.pure ⟨jQ,rfl⟩|true=>
  obtain⟨ev,h1,h2⟩:=hy rfl;exact(Tr.holding<|h1 A qk kq env q jQ<|(((R.ext bF).ext cY).ext jP).ext Ay).bind λx0 y' nM UN g=>Tr.eh
   ((Tr.operate<|h2 A x0 nM y y' q g.S (((t.r.aM jP.aM).aM Ay.aM).aM UN.aM) g.r).bind λaqZ z Ga aq0 u=>LA u)
theorem adF:Ax d c op [] st (op==.And) st:=λA own s env q S R=>Tr.pure ⟨S,rfl⟩
set_option backward.match.sparseCases true in
theorem UO {x:aq}:allTrue op (x::r) env=(xB x env (d9 x env)>>=λt=>match op,t with|.And,false=>pure false|.Or,true=>pure true|u,o=>allTrue op r env):=by rfl
theorem UP {op:zP}{x:aq}{r:List aq}{b:Bool}(h:fx d c x st b aw)(hs:b=(op==.Or)):Ax d c op (x::r) st (op==.Or) aw:=λA own s env rm S R=>Tr.eq UO<|(h A own s env rm S R).bind λaO t s₁ bF p=>by obtain⟨bq,et⟩:=p;subst et;subst hs;cases op<;>exact Tr.pure ⟨bq,rfl⟩
theorem UQ {op:zP}{x:aq}{r:List aq}{b q:Bool}(h:fx d c x st b aw)(hs:b=(op==.And))(hg:Ax d c op r aw q aJ):Ax d c op (x::r) st q aJ:=λA own s env rm S R=>Tr.eq UO<|(h A own s env rm S R).bind λaO t s₁ bF p=>by obtain⟨bq,et⟩:=p;subst et;subst hs;cases op<;>exact hg A aO s₁ env rm bq<|R.ext bF
noncomputable def LC (e:aq):Bool:=!(bT e.ctorIdx 0||bT e.ctorIdx 3||bT e.ctorIdx 5||bT e.ctorIdx 15)
theorem LD {e:aq}{b:Bool}(he:LC e=true)(h:a8 d c e st a aw)(ht:rF d a aw b aJ):fx d c e st b aJ:=λA own s env q S R=>by have e:=(show bif LC e then xB e env (d9 e env)=(do let v<-(d9 e env);nE e.pos;holding [v] (zN v)) else True from by cases e<;>first|exact trivial|rfl);rw[he] at e;exact Tr.eq e<|(h A own s env q S R).bind λaO x s₁ bF p=>Tr.eh<|Tr.holding<|ht A aO s₁ x q p.S p.r
theorem UR {x y:Str}(h:(x.length==0)=true):x++y=y:=xC (by rw[vR,show x.cps= #[] from Rd<|eq_of_beq h,Array.empty_append])
theorem US {x y:Str}(h:(y.length==0)=true):x++y=x:=xC (by rw[vR,show y.cps= #[] from Rd<|eq_of_beq h,abl])
theorem UT {c d:Prop}[Decidable c] [Decidable d] {a b e:Made}{Q:an->az->Prop}{s:az}(h1:c->a.post Q s)(h2:d->b.post Q s)(h3:e.post Q s):(if c then a else if d then b else e).post Q s:=by
 by_cases hc:c
 ·rw[if_pos hc];exact h1 hc
 rw[if_neg hc];by_cases hd:d
 ·rw[if_pos hd];exact h2 hd
 rwa[if_neg hd]
theorem Gb {x y:Str}{t:Tok}(e:x=y):RelV own h (.str x) (.str y t):=⟨t,by rw[e]⟩
theorem nN {t:an->an->Sem an}{i j:Int}{v:CV}(h:∀A own s k l,Sx own st s->Tr A own s (t (.int i k) (.int j l)) (PV st v)):Ar d t (.int i) (.int j) st v st:=λA own s x x q S cx di=>cx.elim λk bF=>di.elim λl cY=>by subst bF;subst cY;exact h A own s k l S
theorem CK {t:an->an->Sem an}{i j:Str}{v:CV}(h:∀A own s k l,Sx own st s->Tr A own s (t (.str i k) (.str j l)) (PV st v)):Ar d t (.str i) (.str j) st v st:=λA own s x x q S cx di=>cx.elim λk bF=>di.elim λl cY=>by subst bF;subst cY;exact h A own s k l S
set_option backward.match.sparseCases true in
theorem Gc {x y:aq}{pos:Pos}(h:a8 d c x st a aw)(ht:rF d a aw q aw):(q=(op==.Or)->a8 d c (.BoolOp op [x,y] pos) st a aw)∧(q=(op==.And)->∀v aJ,a8 d c y aw v aJ->a8 d c (.BoolOp op [x,y] pos) st v aJ):=by
 have go:∀A own s env P,Rm d A->Sx own st s->dK own c env->(∀aS u aR,a9 own s aS aR->PV aw a aS u aR->Tr A aS aR (match op,q with
  |.And,false|.Or,true=>pure u|z,b=>d9 y env) P)->Tr A own s (d9 (.BoolOp op [x,y] pos) env) P:=λA own s env P rm S R k=>by
  exact(h A own s env rm S R).bind λaO u s₁ bF p=>Tr.eh ((Tr.holding<|ht A aO s₁ u rm p.S p.r).bind λaS t aR cY w=>by obtain⟨bw,et⟩:=w;subst et;exact k aS u aR (bF.trans cY) ⟨bw,p.r.aM cY.aM⟩)
 exact⟨λe A own s env rm S R=>go A own s env _ rm S R λaS u aR E p=>(by subst e;cases op<;>exact Tr.pure p),λe v aJ hy A own s env rm S R=>go A own s env _ rm S R λaS u aR E p=>(by subst e;cases op<;>exact hy A aS aR env rm p.S<|R.ext E)⟩
end
end
section
variable {d:Nat}
noncomputable def uz {α:Type}{P:CV->CV->List ae->α->List ae->Prop}(a b:CV)(f:∀i j,EZ α (P (.int i) (.int j)))(g:EZ α (P a b)):EZ α (P a b):=match a,b,g with
 |.int i,.int j,x=>f i j|x,u,g=>g
noncomputable def LF {α:Type}{P:CV->CV->List ae->α->List ae->Prop}(a b:CV)(f:∀i j,EZ α (P (.str i) (.str j)))(g:EZ α (P a b)):EZ α (P a b):=match a,b,g with
 |.str i,.str j,x=>f i j|x,u,g=>g
theorem UU {i j:Int}{st:List ae}(h:IntMulOk i j):oN d .Mult (.int i) (.int j) st (.int (i*j)) st:=nN λA own s k l S=>P.mul_int ⟨own,.toks,S.toks _,_,rfl⟩ h
def adH (op:B0)(a b:CV):EZ CV (oN d op a b):=match op with
 |.Add=>uz (P:=oN d .Add) a b (λi j=>.ret (.int (i+j)) λst=>nN λA own s k l S=>P.add_int ⟨own,.toks,S.toks _,_,rfl⟩)
  (LF (P:=oN d .Add) a b (λx y=>.ux ((x++y).length<=cX) (.str (x++y)) λh st=>(λA own s o o q S cx di=>cx.elim λt bF=>di.elim λu cY=>by
   subst bF;subst cY
   exact P.add_str (UT (λh=>⟨own,.refl,S,Gb (UR h)⟩) (λh=>⟨own,.refl,S,Gb (US h)⟩) ⟨h,own,.toks,S.toks _,_,rfl⟩))) (.ask _))
 |.Sub=>uz (P:=oN d .Sub) a b (λi j=>.ret (.int (i-j)) λst=>nN λA own s k l S=>P.sub_int ⟨own,.toks,S.toks _,_,rfl⟩) (.ask _)
 |.Mult=>uz (P:=oN d .Mult) a b (λi j=>.ux (IntMulOk i j) (.int (i*j)) λh st=>UU h) (.ask _)
 |.FloorDiv=>uz (P:=oN d .FloorDiv) a b (λi j=>.ux (j≠0∧Re i j=false) (.int (i.fdiv j)) λh st=>nN λA own s k l S=>PyProof.Rows.floordiv_int h.1 ⟨own,.toks,S.toks _,_,rfl⟩ (.inl h.2)) (.ask _)
 |.Mod=>uz (P:=oN d .Mod) a b (λi j=>.ux (j≠0) (.int (i.fmod j)) λh st=>nN λA own s k l S=>mod_int' h ⟨own,.toks,S.toks _,_,rfl⟩) (.ask _)
 |.Pow=>uz (P:=oN d .Pow) a b (λi j=>.ux (0<=j∧j<=1000000∧i.natAbs<2^64) (.int (i^j.toNat)) λh st=>nN λA own s k l S=>pow_int_small h.1 h.2.1 h.2.2 ⟨own,.toks,S.toks _,_,rfl⟩) (.ask _)
 |_=>.ask _
def CL (d:Nat)(op:ua)(a b:CV)(st:List ae)(q:Bool)(ag:List ae):Prop:=jj d op a b st (.bool q) ag∧ag=st
theorem UV {i j:Int}{st:List ae}:jj d .Lt (.int i) (.int j) st (.bool (decide (i<j))) st:=nN λA own s k l S=>PyProof.Rows.lt_int ⟨own,.refl,S,rfl⟩
theorem UW {i j:Int}{st:List ae}:jj d .Gt (.int i) (.int j) st (.bool (decide (i>j))) st:=nN λA own s k l S=>P.gt_int ⟨own,.refl,S,rfl⟩
noncomputable def adI (op:ua)(i j:Int):EZ Bool (CL d op (.int i) (.int j)):=match op with
 |.Eq=>.ret (i==j) λst=>⟨nN λA own s k l S=>PyProof.Rows.eq_int ⟨own,.refl,S,rfl⟩,rfl⟩|.NotEq=>.ret (i != j) λst=>⟨nN λA own s k l S=>PyProof.Rows.ne_int ⟨own,.refl,S,rfl⟩,rfl⟩|.Lt=>.ret (decide (i<j)) λst=>⟨UV,rfl⟩|.LtE=>.ret (decide (i<=j)) λst=>⟨nN λA own s k l S=>P.le_int ⟨own,.refl,S,rfl⟩,rfl⟩|.Gt=>.ret (decide (i>j)) λst=>⟨UW,rfl⟩|.GtE=>.ret (decide (i>=j)) λst=>⟨nN λA own s k l S=>P.ge_int ⟨own,.refl,S,rfl⟩,rfl⟩|_=>.no
def adJ (op:ua)(x y:Str):EZ Bool (CL d op (.str x) (.str y)):=match op with
 |.Eq=>.ret (d4 x y) λst=>⟨CK λA own s k l S=>P.eq_str ⟨own,.refl,S,rfl⟩,rfl⟩|.NotEq=>.ret (!d4 x y) λst=>⟨CK λA own s k l S=>P.ne_str ⟨own,.refl,S,rfl⟩,rfl⟩|.Lt=>.ret (bP x y) λst=>⟨CK λA own s k l S=>P.lt_str ⟨own,.refl,S,rfl⟩,rfl⟩|.In=>.ret (ko x y) λst=>⟨CK λA own s k l S=>P.in_str ⟨own,.refl,S,rfl⟩,rfl⟩|.NotIn=>.ret (!ko x y) λst=>⟨CK λA own s k l S=>P.notIn_str ⟨own,.refl,S,rfl⟩,rfl⟩|_=>.no
def Ge (op:ua)(a b:CV):EZ Bool (CL d op a b):=uz (P:=CL d op) a b (adI op) (LF (P:=CL d op) a b (adJ op) .no)
noncomputable def EZ.or {P:List ae->α->List ae->Prop}(p q:EZ α P):EZ α P:=λz=>match p z with
 |some r=>some r|none=>q z
noncomputable def adK {P:List ae->CV->List ae->Prop}(p:EZ CV P):EZ Bool (λst q ag=>P st (.bool q) ag):=λz=>match p z with
 |some ⟨.bool q,z',ok⟩=>some ⟨q,z',ok⟩|_=>none
def adL (op:ua)(a b:CV):EZ Bool (λst q ag=>jj d op a b st (.bool q) ag):=.or ((Ge op a b).imp λh=>h.1) (adK (.ask _))
def adM (op:ua)(a b:CV):EZ CV (jj d op a b):=.or (λz=>match Ge op a b z with
 |none=>none|some ⟨q,z',ok⟩=>some ⟨.bool q,z',λk=>⟨(ok k).1,(ok k).2.1⟩⟩) (.ask _)
abbrev adN (d:Nat)(a:CV)(st:List ae)(b:Bool)(ag:List ae):Prop:=rF d a st b ag∧ag=st
noncomputable def LG (a:CV):EZ Bool (adN d a):=match a with
 |.none=>.ret false λu=>⟨adz,rfl⟩
 |.bool b=>.ret b λu=>⟨(λA own s x q S r=>by subst r;exact wpAny_truthy_bool ⟨own,.refl,S,rfl⟩),rfl⟩
 |.int i=>.ret (i != 0) λu=>⟨(λA own s x q S r=>r.elim λt e=>by subst e;exact P.truthy_int ⟨own,.refl,S,rfl⟩),rfl⟩
 |.str x=>.ux (¬(x.length:Int)>=2^63) ((x.length:Int) != 0) λh u=>⟨Ly h,rfl⟩
 |.ab n=>.Lq (λst=>(st[n]?).bind λo=>o.ls?.bind λf=>match f with|⟨xs,w⟩=>some xs) λxs=>.ux ((xs.length:Int)<2^63) (!xs.isEmpty) λh st e=>⟨fE e λo ho e=>fE e λf u e=>adC (by obtain⟨ys,f⟩:=f;rw[ho,f];exact congrArg (λz=>some (ae.list z)) (dE e)) h,rfl⟩
 |_=>.no
noncomputable def UX (k:Option sD):Bool:=match k with
 |some k=>bT k.ctorIdx sD.globalImplicit.ctorIdx|none=>false
theorem adO {k:Option sD}(h:UX k=true):k=some .globalImplicit:=by
 cases k with
 |none=>nomatch h|some k=>cases k<;>first|rfl|nomatch h
theorem nO {p:Bool}(h:(!p)=true):p=false:=by cases p<;>first|rfl|nomatch h
noncomputable def mo {P:List ae->α->List ae->Prop}(b:Bool)(y:b=true->EZ α P):EZ α P:=.F7 b y λx=>.no
section
def adP (c:aY)(x:Str)(pos:Pos):EZ CV (a8 d c (.Name x pos)):=.F7 (x==("__debug__":Str)) (λh=>.ret (.bool true) λu=>(λA own s env u S R=>Tr.eh (Tr.eq (if_pos h) (Tr.skip (λu q=>sC q) (Tr.pure ⟨S,rfl⟩))))) λhd=>.F7 (UX (c.scope.names.lookup x)) (λhk=>.F6 (Uq.lookup x) λv hv=>.ret v λu=>(λA own s env u S R=>Tr.eh (Tr.eq (if_neg (Q9.mp hd)) (ac' S R (adO hk) (ac9 _ _ hv) λy hy=>⟨own,.refl,S,hy⟩)))) λu=>mo (!(x==("__classdict__":Str))) λhc=>.Lq (λst=>ji c st x) λv=>.ret v λu=>eu hd (nO hc)
variable (d)
mutual
noncomputable def fh:Nat->(c:aY)->(e:aq)->EZ CV (a8 d c e)
 | 0,w,y=>.no
 | n+1,c,e=>match e with
   | .Constant k w y=>.F6 (Ux k) λv h=>.ret v λz=>CH h
   | .Name x pos=>adP c x pos
   | .BinOp l op r w=>(fh n c l).bind λa=>(fh n c r).bind λb=>(adH op a b).imp λh z hr z hl=>Uy hl hr h
   | .UnaryOp op x w=>match op with
     | .Not=>(fh n c x).bind λa=>(LG a).bind λq=>.ret (.bool !q) λz z h z he=>ado he h.1
     | .USub=>(fh n c x).bind λa=>match a with
       | .int i=>.ret (.int (-i)) λz z h=>UA h
       | _=>.no
     | _=>.ask _
   | .IfExp t a b w=>(CM n c t).bind λq=>.xX q ((fh n c a).imp λh hq z ht=>UB ht (λz=>h) λe=>E4 (hq.symm.trans e)) ((fh n c b).imp λh hq z ht=>UB ht (λe=>E4 (e.symm.trans hq)) λz=>h)
   | .Compare l [op] [r] w=>mo (!B2 op r) λhm=>(fh n c l).bind λa=>(fh n c r).bind λb=>(adM op a b).imp λh z hr z hl=>adn (nO hm) hl hr h
   | .Call f args fg pos=>match f with
     | .Attribute o name mn=>mo (xY o&&mn.endLine == pos.line&&decide (args.length+fg.length<29)) λhg=>(fh n c o).bind λov=>.bg (d:=d) name ov λf first=>
      (CN n c args).bind λvs=>(LH n c fg).bind λks=>.Uv (oM f) ((EZ.ask (bk d f (first++vs) ks)).imp λhc hf z hk z hv hm z ho=>
       Lu (iR.mp (iR.mp hg).1).1 (of_decide_eq_true (iR.mp hg).2) ho hm hv hk hf hc (eq_of_beq (iR.mp (iR.mp hg).1).2))
     | f=>mo (!Av f) λhp=>(fh n c f).bind λfv=>(CN n c args).bind λvs=>(LH n c fg).bind λks=>.Uv (oM fv) ((EZ.ask (bk d fv vs ks)).imp λhc hf z hk z hv z he=>adu (nO hp) he hv hk hf hc)
   | .Attribute o name w=>mo (xY o) λhb=>(fh n c o).bind λov=>(EZ.ask (rG d name ov)).imp λh z ho=>adx hb ho h
   | .Subscript o i w=>(fh n c o).bind λov=>(fh n c i).bind λiv=>(EZ.ask (fF d i ov iv)).imp λh z hi z ho=>jC ho hi h
   | .Slice l u s w=>(LI n c l).bind λa=>(LI n c u).bind λb=>(LI n c s).bind λk=>.ret (.sl [a,b,k]) λz z eF z gf z c9=>UG c9 gf eF
   | .List es w=>(CN n c es).bind λvs=>.adg vs λhs z z h=>Lv h hs
   | .Tuple es w y=>(CN n c es).bind λvs=>.ux (vs.length<=cX) (.cB vs) λhs z z h=>CJ h hs
   | .BoolOp op [a,b] w=>(fh n c a).bind λv=>(LG v).bind λq=>match op with
     | .And=>.xX q ((fh n c b).imp λh hq z ht z ha=>by obtain⟨ht,rfl⟩:=ht;exact(Gc (op:=.And) ha ht).2 hq _ _ h) (.ret v λz hq z ht z ha=>by obtain⟨ht,rfl⟩:=ht;exact(Gc (op:=.And) ha ht).1 hq)
     | .Or=>.xX q (.ret v λz hq z ht z ha=>by obtain⟨ht,rfl⟩:=ht;exact(Gc (op:=.Or) ha ht).1 hq) ((fh n c b).imp λh hq z ht z ha=>by obtain⟨ht,rfl⟩:=ht;exact(Gc (op:=.Or) ha ht).2 hq _ _ h)
   | e=>.ask _
noncomputable def CM:Nat->(c:aY)->(e:aq)->EZ Bool (fx d c e)
 | 0,w,y=>.no
 | n+1,c,e=>match e with
   | .UnaryOp op x w=>match op with
     | .Not=>(CM n c x).bind λb=>.ret (!b) λz z h=>Lz h
     | _=>.no
   | .BoolOp op xs w=>(LJ n c op xs).imp λh=>adD h
   | .Compare l [op] [r] w=>mo (!B2 op r) λhm=>(fh n c l).bind λa=>(fh n c r).bind λb=>(adL op a b).imp λh z hr z hl=>F9 (nO hm) hl hr h
   | .Compare l [op,wd] [r,r'] w=>mo (!B2 wd r') λhm=>(fh n c l).bind λa=>(fh n c r).bind λb=>(Ge op a b).bind λq=>
    .xX q ((fh n c r').bind λe=>(Ge wd b e).imp λeF z gf hq z c9 z hr z hl=>by obtain⟨c9,rfl⟩:=c9;obtain⟨eF,rfl⟩:=eF;exact UK (nO hm) hl hr c9 (λe=>E4 (hq.symm.trans e)) λz=>⟨_,gf,eF⟩)
     (.ret false λz hq z c9 z hr z hl=>by obtain⟨c9,rfl⟩:=c9;exact UK (nO hm) hl hr c9 (λz=>⟨rfl,rfl⟩) λe=>E4 (e.symm.trans hq))
   | e=>mo (LC e) λhp=>(fh n c e).bind λv=>(LG v).imp λh z he=>LD hp he h.1
noncomputable def LJ:Nat->(c:aY)->(op:zP)->(es:List aq)->EZ Bool (Ax d c op es)
 | 0,w,y,g=>.no
 | n+1,c,op,es=>match es with
   | []=>.ret (op == .And) λz=>adF
   | x::r=>(CM n c x).bind λb=>match op with
     | .And=>.xX b ((LJ n c .And r).imp λh hb z ht=>UQ ht hb h) (.ret false λz hb z ht=>UP (op:=.And) ht hb)
     | .Or=>.xX b (.ret true λz hb z ht=>UP (op:=.Or) ht hb) ((LJ n c .Or r).imp λh hb z ht=>UQ ht hb h)
noncomputable def CN:Nat->(c:aY)->(es:List aq)->EZ (List CV) (qj d c es)
 | 0,w,y=>.no
 | n+1,c,es=>match es with
   | []=>.ret [] λz=>sW
   | e::r=>mo (!lu e) λhs=>(fh n c e).bind λv=>(CN n c r).bind λvs=>.ret (v::vs) λz z hr z h=>oO (nO hs) h hr
noncomputable def LH:Nat->(c:aY)->(es:List ub)->EZ (List (Str×CV)) (sV d c es)
 | 0,w,y=>.no
 | n+1,c,es=>match es with
   | []=>.ret [] λz=>F8
   | ⟨some x,e,w⟩::r=>(fh n c e).bind λv=>(LH n c r).bind λvs=>.ret ((x,v)::vs) λz z hr z h=>ady h hr
   | _=>.no
noncomputable def LI:Nat->(c:aY)->(e:Option aq)->EZ CV (Aw d c e)
 | 0,w,y=>.no
 | n+1,c,e=>match e with
   | none=>.ret .none λz=>Lx
   | some e=>(fh n c e).imp λh=>UJ h
end
end
end
section
variable {d:Nat}{c:aY}
theorem aF.reverse:∀{xs} {vs},aF own h xs vs->aF own h xs.reverse vs.reverse
 |[],u,e=>by subst e;rfl|x::xs,u,⟨v,r,e,hv,hr⟩=>by subst e;rw[B3,B3];exact aF.append (aF.reverse hr) ⟨v,[],rfl,hv,rfl⟩
def Gf (d:Nat)(a:CV)(n:Nat)(st:List ae)(xs:List CV)(ag:List ae):Prop:=∀A own s x,Rm d A->Sx own st s->RelV own s.heap a x->Tr A own s (unpackItems x n none) (Uk ag xs)
theorem UY {xs:List CV}{st:List ae}{n:Nat}(hn:xs.length=n):Gf d (.cB xs) n st xs st:=λA own s x q S r=>by
 obtain⟨a,vs,m,rfl,h1,h2,ho,hr⟩:=r;have:(vs.toArray).size=n:=by rw[ig,<-aF.length hr,hn]
 subst this;exact wpAny_unpackItems_tuple q.1 ⟨_,ho,rfl,m,rfl⟩ λh' hk=>by have we:=λb o e=>hk b o (pQ<|sE e) e;have E1:=a9.more (own:=own) (t:=s.toks) we;exact⟨own,E1,S.more we,aF.aM E1.aM _ hr⟩
structure PS {α:Type}(st:List ae)(own:List ai)(x:α)(s:az):Prop where
 S:Sx own st s
def dj (d:Nat)(c:aY)(t:aq)(v:CV)(st ag:List ae):Prop:=∀A own s env x,Rm d A->Sx own st s->dK own c env->RelV own s.heap v x->Tr A own s (oE t env x) λav u s'=>Sx av ag s'
def adQ (d:Nat)(c:aY)(ts:List aq)(vs:List CV)(st ag:List ae):Prop:=∀A own s env xs,Rm d A->Sx own st s->dK own c env->aF own s.heap vs xs->Tr A own s (assignInOrder ((xD ts env).map (·.2)) xs) λav x s'=>Sx av ag s'
def uA (d:Nat)(name:Str)(a v:CV)(st ag:List ae):Prop:=∀A own s x y,Rm d A->Sx own st s->RelV own s.heap a x->RelV own s.heap v y->Tr A own s (setAttr x name y) λav u s'=>Sx av ag s'
def Gg (d:Nat)(a i v:CV)(st ag:List ae):Prop:=∀A own s x k y,Rm d A->Sx own st s->RelV own s.heap a x->RelV own s.heap i k->RelV own s.heap v y->Tr A own s (setItem x k y) λav u s'=>Sx av ag s'
structure CO (d:Nat)(c:aY)(ts:List aq)(vs:List CV)(st ag:List ae):Prop where
 ns:∀env,(xD ts env).findIdx? (·.1)=none
 h:adQ d c ts vs st ag
section
variable {st aw aJ cE ag:List ae}{a b v:CV}
theorem wg {x:Str}{pos:Pos}(h:kn c st x v=some ag):dj d c (.Name x pos) v st ag:=λA own s env y q S R r=>
 Tr.eh (F5 S R h r λs' u S'=>S')
theorem adR {o:aq}{pos:Pos}(ho:a8 d c o st a aw)(h:uA d name a v aw ag):dj d c (.Attribute o name pos) v st ag:=λA own s env y q S R r=>
 (Tr.holding<|ho A own s env q S R).bind λaO ov s₁ bF p=>Tr.eh<|(Tr.holding<|h A aO s₁ ov y q p.S p.r<|r.aM bF.aM).bind λaS x aR cY bw=>Rc ⟨aS,.refl,bw⟩
theorem adS {o i:aq}{pos:Pos}(ho:a8 d c o st a aw)(hi:a8 d c i aw b aJ)(h:Gg d a b v aJ ag):dj d c (.Subscript o i pos) v st ag:=λA own s env y q S R r=>
 (Tr.holding<|ho A own s env q S R).bind λaO ov s₁ bF p=>(Tr.holding<|hi A aO s₁ env q p.S<|R.ext bF).bind λaS iv aR cY t=>Tr.eh
  ((Tr.holding<|h A aS aR ov iv y q t.S (p.r.aM cY.aM) t.r<|(r.aM bF.aM).aM cY.aM).bind λdt x bu jP cF=>Rc ⟨dt,.refl,cF⟩)
theorem Gh {t:aq}(h:lu t=false):xD (t::ts) env=(false,oE t env)::xD ts env:=by have:=(show bif lu t then True else xD (t::ts) env=(false,oE t env)::xD ts env from by cases t<;>first|exact trivial|rfl);rwa[h] at this
theorem UZ:CO d c [] [] st st:=⟨λx=>rfl,λA own s env xs q S R r=>by subst r;exact bH ⟨own,.refl,S⟩⟩
theorem LK {t:aq}(hs:lu t=false)(h:dj d c t v st aw)(hr:CO d c ts vs aw ag):CO d c (t::ts) (v::vs) st ag:=
 ⟨λenv=>by rw[Gh hs,ap4];exact congrArg (dg _)<|hr.ns env,λA own s env xs q S R r=>by obtain⟨y,ys,rfl,cx,di⟩:=r;rw[Gh hs];exact(Tr.holding<|h A own s env y q S R cx).bind λaO x s₁ bF bq=>hr.h A aO s₁ env ys q bq (R.ext bF)<|aF.aM bF.aM _ di⟩
theorem U0:∀{ts},(xD ts env).length=ts.length
 |[]=>rfl|t::r=>by have ih:=U0 (env:=env) (ts:=r);cases hs:lu t with|false=>exact Gh hs▸congrArg (· + 1) ih|true=>cases t<;>exact congrArg (· + 1) ih
theorem U1 {k:Nat}{pos:Pos}(hu:Gf d v ts.length st xs aw)(h:CO d c ts xs aw ag):dj d c (.Tuple ts k pos) v st ag:=λA own s env y q S R r=>by refine Tr.eh<|?_;unfold unpack;rw[U0,h.ns];exact(Tr.holding<|hu A own s y q S r).bind λaO vs s₁ bF p=>h.h A aO s₁ env vs q p.S (R.ext bF) p.r
theorem adU {pos:Pos}:dB d c (.Pass pos) st .next st:=λA own s env q S R=>Tr.eh<|Tr.pure ⟨S,rfl⟩
theorem adV {pos:Pos}:dB d c (.Break pos) st .brk st:=λA own s env q S R=>Tr.eh<|Tr.pure ⟨S,rfl⟩
theorem adW {pos:Pos}:dB d c (.Continue pos) st .cont st:=λA own s env q S R=>Tr.eh<|Tr.pure ⟨S,rfl⟩
theorem U2 {e:aq}{pos:Pos}(h:a8 d c e st v aw):dB d c (.Return (some e) pos) st (.ret v) aw:=λA own s env q S R=>
 Tr.eh (Tr.bind (h A own s env q S R) λaO x s₁ bF p=>Tr.pure ⟨p.S,_,rfl,p.r⟩)
theorem U3 {t:aq}{x y:List bl}{pos:Pos}(h:fx d c t st q aw)(hx:q=true->aI d c x aw f aJ)(hy:q=false->aI d c y aw f aJ):dB d c (.If t x y pos) st f aJ:=λA own s env rm S R=>
 Tr.eh (Tr.bind (h A own s env rm S R) λaO b s₁ bF p=>match b,p with
  |true,p=>hx p.e.symm A aO s₁ env rm p.S (R.ext bF)|false,p=>hy p.e.symm A aO s₁ env rm p.S<|R.ext bF)
theorem U4:aI d c [] st .next st:=λA own s env q S R=>Tr.pure ⟨S,rfl⟩
set_option backward.match.sparseCases true in
theorem Gi:l4 (aT::r) env=(exec aT env>>=λfl=>match fl with|.next=>l4 r env|fl=>pure fl):=rfl
theorem U5 (h:dB d c aT st .next aw)(k:aI d c r aw f aJ):aI d c (aT::r) st f aJ:=λA own s env q S R=>
 Tr.eq Gi ((h A own s env q S R).bind λaO fl s₁ bF p=>by obtain⟨bq,rf⟩:=p;subst rf;exact k A aO s₁ env q bq<|R.ext bF)
noncomputable def cZ.LM:cZ->Bool
 |.next=>true|_=>false
theorem U6 (h:dB d c aT st f aw)(hf:f.LM=false):aI d c (aT::r) st f aw:=λA own s env q S R=>
 Tr.eq Gi ((h A own s env q S R).bind λaO fl s₁ bF p=>by
  cases f with
  |next=>nomatch hf|brk=>cases p.r;exact Tr.pure ⟨p.S,rfl⟩|cont=>cases p.r;exact Tr.pure ⟨p.S,rfl⟩|ret v=>obtain⟨x,rfl,hv⟩:=p.r;exact Tr.pure ⟨p.S,x,rfl,hv⟩)
theorem U7 (h:dB d c aT st f aw)(hn:f=.next->aI d c r aw f' aJ)(ho:f≠.next->f'=f∧aJ=aw):aI d c (aT::r) st f' aJ:=by
 cases hf:f.LM with
 |true=>
  have:f=.next:=by cases f<;>first|rfl|nomatch hf
  subst this;exact U5 h<|hn rfl
 |false=>
  obtain⟨rfl,rfl⟩:=ho λe=>by subst e;nomatch hf
  exact U6 h hf
noncomputable def wh (e:aq):Bool:=bT e.ctorIdx 8||bT e.ctorIdx 9||bT e.ctorIdx 10
noncomputable def Gj (e:aq):Bool:=bT e.ctorIdx 23
theorem Gk {e:aq}{t:Option aq}(h:wh e=false):zQ e t n env=pure false:=by have:=(show bif wh e then True else zQ e t n env=pure false from by cases e<;>first|exact trivial|rfl);rwa[h] at this
theorem dK.U8 (R:dK own c env):interactive env=false:=by unfold interactive;rw[R.hk];rfl
theorem adY {e:aq}{pos:Pos}(hc:wh e=false)(h:a8 d c e st v aw):dB d c (.Expr e pos) st .next aw:=λA own s env q S R=>
 wpAny_Expr_any (bC (h A own s env q S R) (λx s' t=>match t with|⟨av,e',p⟩=>⟨av,e',p.1,rfl⟩) λu u x=>x) R.U8 (Gk hc)
noncomputable def adZ (t:Sem α):Option {r // t=pure r}:=match t with
 |.pure r=>some ⟨r,rfl⟩|_=>none
def U9 (c:aY)(Gm:List aq)(value:aq):Option {r // xE Gm value { (default:Env) with scope:=c.scope}=pure r}:=adZ _
theorem ad0 (R:dK own c env)(h:xE Gm value { (default:Env) with scope:=c.scope}=pure r):xE Gm value env=pure r:=by rw[<-h];unfold xE Env.blockKind Env.kindOf;rw[R.scope]
noncomputable def CP (c:aY):List Str->List CV->List ae->Option (List ae)
 |[],vs,st=>match vs with
   |[]=>some st|_=>none
 |x::xs,vs,st=>match vs with
   |v::vs=>(kn c st x v).bind λst=>CP c xs vs st|_=>none
structure PO (own:List ai)(st:List ae)(av:List ai)(x:Unit)(s:az):Prop where
 eo:av=own
 S:Sx own st s
theorem U':∀{xs} {vs} {st ag},CP c xs vs st=some ag->∀A own s env ys,Rm d A->Sx own st s->dK own c env->aF own s.heap vs ys->Tr A own s (assignInOrder (xs.map λn=>bindName env n) ys) λav u s'=>Sx av ag s'
 |[],vs,st,ag,h,A,own,s,env,ys,q,S,R,r=>by
  match vs,h,r with
  |[],h,r=>obtain rfl:=dE h;subst r;exact bH ⟨own,.refl,S⟩
 |x::xs,vs,st,ag,h,A,own,s,env,ys,q,S,R,r=>by
  match vs,h,r with
  |v::vs,h,r=>obtain⟨y,ys,rfl,cx,di⟩:=r;exact fE h λaw c9 h=>Tr.bind (P:=PO own aw) (Tr.holding<|F5 S R c9 cx λs' u S'=>⟨rfl,S'⟩) λaO u s₁ bF p=>by obtain⟨eo,bq⟩:=p;subst eo;exact U' h A aO s₁ env ys q bq (R.ext bF)<|aF.aM bF.aM _ di
theorem Va {t:aq}{pos:Pos}(R:dK own c env)(h0:zQ value (some t) pos.line env=pure false)(hw:xE [t] value { (default:Env) with scope:=c.scope}=pure r):exec (.Assign [t] value pos) env=(nE pos>>=λx=>d9 value env>>=λv=>assignStores env v r ((xD [t] env).map (·.2))):=by rw[exec_Assign_arm];show(nE pos>>=λx=>zQ value (some t) pos.line env>>=_)=_;rw[h0,ad0 R hw];rfl
theorem Vb {t:aq}{pos:Pos}(h0:∀env,zQ value (some t) pos.line env=pure false)(hw:xE [t] value { (default:Env) with scope:=c.scope}=pure none)(h:a8 d c value st v aw)(hs:lu t=false)(ha:dj d c t v aw aJ):dB d c (.Assign [t] value pos) st .next aJ:=λA own s env q S R=>
 Tr.eq (Va R (h0 env) hw) (Tr.eh<|(h A own s env q S R).bind λaO x s₁ bF p=>by unfold assignStores;rw[(show assignAll x ((xD [t] env).map (·.2))=oE t env x from by rw[Gh hs];rfl)];exact(ha A aO s₁ env x q p.S (R.ext bF) p.r).bind λaS u aR cY bw=>Tr.pure ⟨bw,rfl⟩)
theorem Vc {t:aq}{pos:Pos}(hc:wh value=false)(hw:xE [t] value { (default:Env) with scope:=c.scope}=pure none)(h:a8 d c value st v aw)(hs:lu t=false)(ha:dj d c t v aw aJ):dB d c (.Assign [t] value pos) st .next aJ:=Vb (λenv=>Gk hc) hw h hs ha
theorem ad3 {t:aq}{pos:Pos}(hc:Gj t=false)(hw:xE [t] value { (default:Env) with scope:=c.scope}=pure none)(h:a8 d c value st v aw)(hs:lu t=false)(ha:dj d c t v aw aJ):dB d c (.Assign [t] value pos) st .next aJ:=Vb (λenv=>by
 have:=(show bif Gj t then True else zQ value (some t) pos.line env=pure false from by
  cases hc:wh value with
  |false=>rw[Gk hc];cases Gj t<;>first|rfl|exact trivial
  |true=>cases value<;>first|exact absurd hc fL|(cases t<;>first|exact trivial|rfl))
 rwa[hc] at this) hw h hs ha
structure PU (own:List ai)(s:az)(a:CV)(av:List ai)(y:an)(s':az):Prop where
 eo:av=own
 es:s'=s
 r:RelV own s.heap a y
theorem ad5 {x:Str}{p pos:Pos}{e:aq}(hr:ji c st x=some a)(hd:(x==("__classdict__":Str))=false)(h:a8 d c e st b aw)(ho:xW d op a b aw v aJ)(hw:kn c aJ x v=some cE):dB d c (.AugAssign (.Name x p) op e pos) st .next cE:=λA own s env q S R=>by
 refine Tr.eq (arm_exec_AugAssign ..)<|Tr.eh<|Tr.bind (P:=PU own s a) (Lm S R hr hd λy hy=>⟨own,.refl,rfl,rfl,hy⟩) λbx jg aT aq1 u=>?_;obtain⟨h1,h2,fQ⟩:=u;subst h1;subst h2;exact(Tr.holding<|h A bx aT env q S R).bind λaO y s₁ bF p=>Tr.eh ((Tr.operate<|ho A aO s₁ jg y q p.S (fQ.aM bF.aM) p.r).bind λaS z aR cY t=>Tr.eh
  (Tr.bind (P:=PS cE) (F5 t.S ((R.ext bF).ext cY) hw t.r λs' o S'=>⟨S'⟩) λdt o bu jP w=>Tr.pure ⟨w.S,rfl⟩))
structure PV2 (st:List ae)(v a:CV)(x:an)(own:List ai)(z:an)(s:az):Prop where
 S:Sx own st s
 r:RelV own s.heap v z
 r':RelV own s.heap a x
theorem ad7 {o e:aq}{pos:Pos}{u:CV}(ho:a8 d c o st a aw)(hg:rG d name a aw b aJ)(h:a8 d c e aJ v cE)(hi:xW d op b v cE u mS)(x6:uA d name a u mS ag):dB d c (.AugAssign (.Attribute o name ad8) op e pos) st .next ag:=λA own s env q S R=>
 Tr.eq (arm_exec_AugAssign_2 ..) (Tr.eh ((ho A own s env q S R).bind λaO ov s₁ bF p=>Tr.bind (P:=PV2 mS u a ov) (Tr.holding (Tr.eh
  ((hg A aO s₁ ov q p.S p.r).bind λaS jg aR cY t=>(Tr.holding<|h A aS aR env q t.S<|(R.ext bF).ext cY).bind λdt y bu jP w=>Tr.eh
   ((Tr.operate<|hi A dt bu jg y q w.S (t.r.aM jP.aM) w.r).ac2 λqk z kq Ay k=>⟨k.S,k.r,((p.r.aM cY.aM).aM jP.aM).aM Ay.aM⟩))))
  λaS z aR cY t=>Tr.eh<|(Tr.holding<|x6 A aS aR ov z q t.S t.r' t.r).bind λdt x bu jP cF=>Tr.skip (λx q=>Rc q)<|Tr.pure ⟨cF,rfl⟩))
end
end
section
variable {d:Nat}{c:aY}
def lx (d:Nat)(c:aY)(e:aq)(st:List ae)(v:CV)(ag:List ae):Prop:=∀x p q LN,kn c ag x v=some LN->dB d c (.Assign [.Name x p] e q) st .next LN
def Vd (op:B0)(a b:CV):EZ CV (xW d op a b):=match op with
 |.Add=>uz (P:=xW d .Add) a b (λi j=>.ret (.int (i+j)) λst=>nN λA own s k l S=>P.iadd_int ⟨own,.toks,S.toks _,_,rfl⟩)
  (LF (P:=xW d .Add) a b (λx y=>.ux ((x++y).length<=cX) (.str (x++y)) λh st=>(λA own s o o q S cx di=>cx.elim λt bF=>di.elim λu cY=>by
   subst bF;subst cY
   exact P.iadd_str (UT (λh=>⟨own,.refl,S,Gb (UR h)⟩) (λh=>⟨own,.refl,S,Gb (US h)⟩) ⟨h,own,.toks,S.toks _,_,rfl⟩))) (.ask _))
 |.Sub=>uz (P:=xW d .Sub) a b (λi j=>.ret (.int (i-j)) λst=>nN λA own s k l S=>P.isub_int ⟨own,.toks,S.toks _,_,rfl⟩) (.ask _)
 |_=>.ask _
noncomputable def iB.items:iB->List ae->Option (List CV×List ae)
 |.aE (.cB xs) ag,x=>some (xs,ag)|.c7 (.cB xs) f,st=>some (xs,f st)|x,u=>none
def Ve (v:CV)(n:Nat):EZ (List CV) (Gf d v n):=match v with
 |.cB xs=>match Nat.decEq xs.length n with
   |.isTrue h=>.ret xs λx=>UY h|.isFalse u=>.no
 |v=>.Au iB.items _
def EZ.set {P:List ae->Unit->List ae->Prop}(F:List ae->Option (List ae))(h:∀{st ag},F st=some ag->P st () ag):EZ Unit P:=λz=>match z with
 |⟨st,sc,ob⟩=>Ln (F st) λag e=>some ⟨(),⟨ag,sc,ob⟩,λk=>⟨k,h e⟩⟩
noncomputable def iB.only (s:iB)(st:List ae):Option (Unit×List ae):=match s with
 |.aE x ag=>some ((),ag)|.c7 x f=>some ((),f st)|_=>none
abbrev U (P:List ae->List ae->Prop):List ae->Unit->List ae->Prop:=λst x ag=>P st ag
section
variable (d)
mutual
noncomputable def Gn:Nat->(c:aY)->(t:aq)->(v:CV)->EZ Unit (U (dj d c t v))
 | 0,z,w,q=>.no
 | n+1,c,t,v=>match t with
   | .Name x z=>.set (λst=>kn c st x v) λh=>wg h
   | .Attribute o name z=>(fh d n c o).bind λov=>(EZ.Au iB.only (U (uA d name ov v))).imp λh u ho=>adR ho h
   | .Subscript o i z=>(fh d n c o).bind λov=>(fh d n c i).bind λiv=>(EZ.Au iB.only (U (Gg d ov iv v))).imp λh u hi u ho=>adS ho hi h
   | .Tuple ts z w=>(Ve v ts.length).bind λxs=>(Vf n c ts xs).imp λh u hu=>U1 hu h
   | _=>.no
noncomputable def Vf:Nat->(c:aY)->(ts:List aq)->(vs:List CV)->EZ Unit (U (CO d c ts vs))
 | 0,z,w,q=>.no
 | n+1,c,ts,vs=>match ts,vs with
   | [],[]=>.ret () λu=>UZ
   | t::ts,v::vs=>mo (!lu t) λhs=>(Gn n c t v).bind λu=>(Vf n c ts vs).imp λh u ht=>LK (nO hs) ht h
   | z,w=>.no
end
def ad9 (n:Nat)(c:aY)(t e:aq)(pos:Pos):EZ cZ (dB d c (.Assign [t] e pos)):=.F7 (wh e) (λu=>match t with
  |.Name x p=>(EZ.ask (lx d c e)).bind λv=>.bind (P:=λst u ag=>kn c st x v=some ag) (.set (λst=>kn c st x v) λh=>h) λu=>.ret .next λu u h u c9=>c9 _ _ _ _ h|t=>mo (!Gj t) λhn=>mo (!lu t) λhs=>.F6 (U9 c [t] e) λw u=>match w with
    |⟨none,hw⟩=>(fh d n c e).bind λv=>(Gn d n c t v).bind λu=>.ret .next λu u h u he=>ad3 (nO hn) hw he (nO hs) h|_=>.no) λhc=>.F6 (U9 c [t] e) λw u=>match w with
   |⟨none,hw⟩=>mo (!lu t) λhs=>(fh d n c e).bind λv=>(Gn d n c t v).bind λu=>.ret .next λu u h u he=>Vc hc hw he (nO hs) h|⟨some names,hw⟩=>(fh d n c e).bind λv=>(Ve v names.length).bind λxs=>.bind (P:=λst u ag=>CP c names.reverse xs.reverse st=some ag) (.set (λst=>CP c names.reverse xs.reverse st) λh=>h) λu=>.ret .next λu u h u hu u he=>λA own s env q S R=>Tr.eq (Va R (Gk hc) hw) (Tr.eh ((he A own s env q S R).bind λaO x s₁ bF p=>Tr.skip (λu q=>sC q) ((hu A aO s₁ x q p.S p.r).bind λaS vs aR cY t=>Tr.bind (U' h A aS aR env _ q t.S ((R.ext bF).ext cY) t.r.reverse) λdt u bu jP cF=>Tr.pure ⟨cF,rfl⟩)))
mutual
noncomputable def Vg:Nat->(c:aY)->(s:bl)->EZ cZ (dB d c s)
 | 0,w,g=>.no
 | n+1,c,s=>match s with
   | .Pass w=>.ret .next λz=>adU
   | .Break w=>.ret .brk λz=>adV
   | .Continue w=>.ret .cont λz=>adW
   | .Return (some e) w=>(fh d n c e).bind λv=>.ret (.ret v) λz z h=>U2 h
   | .If t x y w=>(CM d n c t).bind λq=>.xX q ((Go n c x).imp λh hq z ht=>U3 ht (λz=>h) λe=>E4 (hq.symm.trans e)) ((Go n c y).imp λh hq z ht=>U3 ht (λe=>E4 (e.symm.trans hq)) λz=>h)
   | .Expr e w=>mo (!wh e) λhc=>(fh d n c e).bind λz=>.ret .next λz z h=>adY (nO hc) h
   | .Assign [t] e pos=>ad9 d n c t e pos
   | .AugAssign t op e pos=>match t with
     | .Name x w=>mo (!(x == ("__classdict__":Str))) λhd=>.Lq (λst=>ji c st x) λa=>(fh d n c e).bind λb=>(Vd op a b).bind λv=>.bind (P:=λst z ag=>kn c st x v=some ag) (.set (λst=>kn c st x v) λh=>h) λz=>
      .ret .next λz z hw z ho z h hr=>ad5 hr (nO hd) h ho hw
     | .Attribute o name w=>(fh d n c o).bind λa=>(EZ.ask (rG d name a)).bind λb=>(fh d n c e).bind λv=>(Vd op b v).bind λu=>(EZ.Au iB.only (U (uA d name a u))).bind λz=>
      .ret .next λz z hs z hi z h z hg z ho=>ad7 ho hg h hi hs
     | _=>.no
   | s=>.Au iB.adi _
noncomputable def Go:Nat->(c:aY)->(b:List bl)->EZ cZ (aI d c b)
 | 0,w,g=>.no
 | n+1,c,b=>match b with
   | []=>.ret .next λz=>U4
   | s::r=>(Vg n c s).bind λf=>match f with
     | .next=>(Go n c r).imp λh z hs=>U5 hs h
     | f=>mo (!f.LM) λhf=>.ret f λz z hs=>U6 hs (nO hf)
end
end
end
section
set_option backward.match.sparseCases true
variable {d:Nat}{c:aY}
noncomputable def fy (names:List (Str×sD)):List Str:=(names.filter λp=>p.2==.cell).map (·.1)
noncomputable def CQ (sc:d8)(binds:List (Str×CV)):List (Str×CV):=(binds.filter λp=>sc.names.lookup p.1==some .local).reverse
noncomputable def LO (sc:d8)(binds:List (Str×CV)):List (Str×CV):=(binds.filter λp=>!(sc.names.lookup p.1==some .local)).reverse
def dU (sc:d8)(binds:List (Str×CV)):List ae:=.frame (CQ sc binds)::(fy sc.names).map λx=>.cell ((LO sc binds).lookup x)
noncomputable def da (sc:d8)(n:Nat)(tab:Option (ai×ai)):aY:={scope:=sc,locals:=n,cells:=je (n+1) sc.names [],tab:=tab}
def Az (n:Nat)(names:List (Str×sD)):List ai:=(aK (fy names).length).map (n + ·)
theorem Gp:∀names n m acc oP,gZ own acc oP->(∀i,i<(fy names).length->own[n+i]?=some (m+i))->gZ own (je n names acc) (je m names oP)
 |[],u,o,z,w,h,v=>h|(x,k)::r,n,m,acc,oP,h,ho=>by
  unfold je;by_cases hk:(k==sD.cell)=true
  ·rw[if_pos hk,if_pos hk];have hn:fy ((x,k)::r)=x::fy r:=by simp [fy,hk]
   refine Gp r (n+1) (m+1) _ _ ⟨m,oP,rfl,by simpa using ho 0 (by rw[hn];simp),h⟩ λi hi=>?_;have:=ho (i+1) (by rw[hn];simp;omega);rwa[show n+1+i=n+(i+1) by exact Aa,show m+1+i=m+(i+1) by exact Aa]
  rw[if_neg hk,if_neg hk];have hn:fy ((x,k)::r)=fy r:=by simp [fy,hk]
  exact Gp r n m acc oP h (by rwa[hn] at ho)
theorem CR:∀names m acc i x,(fy names)[i]?=some x->(x,m+i)∈je m names acc
 |[],u,o,i,x,h=>by simp [fy] at h|(y,k)::r,m,acc,i,x,h=>by
  unfold je;by_cases hk:(k==sD.cell)=true
  ·rw[if_pos hk];have hn:fy ((y,k)::r)=y::fy r:=by simp [fy,hk]
   rw[hn] at h;cases i with
   |zero=>
    obtain rfl:=dE h;have bj:∀names m acc (p),p∈acc->p∈je m names acc:=λnames=>by
     induction names with
     |nil=>exact λm acc p hp=>hp|cons q r ih=>
      obtain⟨z,k'⟩:=q;intro m acc p hp;unfold je;split
      ·exact ih _ _ _<|.tail _ hp
      exact ih _ _ _ hp
    exact bj r _ _ _<|.head _
   |succ i=>have:=CR r (m+1) ((y,m)::acc) i x (by simpa using h);rwa[show m+(i+1)=m+1+i by exact z9]
  rw[if_neg hk];have hn:fy ((y,k)::r)=fy r:=by simp [fy,hk]
  rw[hn] at h;exact CR r m acc i x h
theorem LP {own:List ai}{h:bf}{sc:d8} kindOf (ly:∀x,kindOf x=sc.names.lookup x):∀binds bs m vars,cf own h binds bs->(∀x,kQ own h (vars.lookup x) (m x))->∀x,kQ own h (((binds.filter λp=>sc.names.lookup p.1==some .local).reverse++vars).lookup x) (bindL kindOf bs m x)
 |[],u,m,vars,r,hv=>by subst r;exact hv|(y,cv)::r,u,m,vars,⟨v,bs,e,hr,hq⟩,hv=>by
  subst e;intro x;unfold bindL;by_cases hl:(sc.names.lookup y==some sD.local)=true
  ·have h1:kindOf y=some .local:=by rw[ly];simpa using hl
   rw[if_pos h1,ap5 (by exact hl),B3,eJ];refine LP kindOf ly r bs _ ([(y,cv)]++vars) hq (λz=>?_) x;show kQ own h (((y,cv)::vars).lookup z) _;rw[nD];by_cases hz:z=y
   ·subst hz;simp [beq_self_eq_true];exact⟨v,rfl,hr⟩
   rw[beq_eq_false_iff_ne.mpr hz,if_neg hz];exact hv z
  have h1:¬kindOf y=some .local:=λe=>hl (by rw[<-ly,e];rfl);rw[if_neg h1,ap6<|by exact hl];exact LP kindOf ly r bs m vars hq hv x
theorem LQ {own:List ai}{h:bf}{sc:d8} kindOf (ly:∀x,kindOf x=sc.names.lookup x):∀binds bs m vars,cf own h binds bs->(∀x,kQ own h (vars.lookup x) (m x))->∀x,kQ own h (((binds.filter λp=>!(sc.names.lookup p.1==some .local)).reverse++vars).lookup x) (bindC kindOf bs m x)
 |[],u,m,vars,r,hv=>by subst r;exact hv|(y,cv)::r,u,m,vars,⟨v,bs,e,hr,hq⟩,hv=>by
  subst e;intro x;unfold bindC;by_cases hl:(sc.names.lookup y==some sD.local)=true
  ·have h1:kindOf y=some .local:=by rw[ly];simpa using hl
   rw[if_pos h1,ap6<|by simp only [hl];decide];exact LQ kindOf ly r bs m vars hq hv x
  rw[if_neg (λe=>hl<|by rw[<-ly,e];rfl),ap5 (by simp only [Q9.mpr hl];decide),B3,eJ];refine LQ kindOf ly r bs _ ([(y,cv)]++vars) hq (λz=>?_) x;show kQ own h (((y,cv)::vars).lookup z) _;rw[nD];by_cases hz:z=y
  ·subst hz;simp [beq_self_eq_true];exact⟨v,rfl,hr⟩
  rw[beq_eq_false_iff_ne.mpr hz,if_neg hz];exact hv z
theorem Sx.Gq {own:List ai}{st:List ae}{s:az}(S:Sx own st s){as:List ai}{os:List ae}{h':bf}{t:Tok}(hk:∀b o,s.heap.get? b=some o->h'.get? b=some o)(ha:∀a∈as,s.heap.get? a=none) (hn:as.Nodup)(bJ:as.length=os.length) (hr:eD own s.heap (own++as) h'->∀(i:Nat) o a,os[i]?=some o->as[i]?=some a->Rep (own++as) h' o a) (ht:t≠0:=by first|exact ka _|assumption|exact Sx.tk (by assumption)):Sx (own++as) (st++os) {s with heap:=h',toks:=t}∧a9 own s (own++as) {s with heap:=h',toks:=t}∧eD own s.heap (own++as) h':=by
 have nw:∀b∈own++as,b∈own∨s.heap.get? b=none:=λb hb=>by
  rcases f7.mp hb with q|q
  ·exact .inl q
  exact .inr<|ha b q
 have g:eD own s.heap (own++as) h':=⟨λi b e=>d2 (bV.mp e).1▸e,λb o e u u u=>hk b o e,λb hb=>(nw b hb).imp id FW⟩;have S':=S.more hk;refine⟨⟨S'.bj,by simp [S.len,bJ],?_,λb hb=>?_,λi o b e1 e2=>?_,S'.cU,S.bare,S'.tk,S.ok⟩,⟨⟨_,rfl⟩,nw,λb o e u u=>hk b o e,λq u o e=>⟨o,hk _ _ e⟩,.of rfl rfl⟩,g⟩
 ·rw[xz];exact⟨S.kj,hn,λx hx y hy e=>S.jO (ha y hy)<|e▸hx⟩
 ·rcases f7.mp hb with q|q
  ·exact S.fresh b q
  exact⟨S.ut<|ha b q,S.mf<|ha b q⟩
 by_cases hi:i<own.length
 ·rw[d2 hi] at e2;rw[d2<|S.len▸hi] at e1;exact(S.iV i o b e1 e2).more g hk
 rw[dT<|by exact o8 hi] at e2;rw[dT<|S.len▸o8 hi,<-S.len] at e1;exact hr g _ _ _ e1 e2
theorem Vh {own:List ai}{st:List ae}{s s':az}{sc:d8}{binds:List (Str×CV)}{bs:List (Str×an)}{env:Env}{L:ai}(S:Sx own st s)(hb:cf own s.heap binds bs)(hL:L=s.heap.objs.size) (mT:env.locals=L)(hsc:env.scope=sc)(sX:env.cells=je (L+1) sc.names [])(Gr:(fy sc.names).Nodup)(aeb:((je 0 sc.names []).map (·.1)).Nodup) (x:InCallC s env.locals (bindL env.kindOf bs λu=>none) env.cells (bindC env.kindOf bs λu=>none) s')(lz:s'.toks≠0):∃av,a9 own s av s'∧Sx av (st++dU sc binds) s'∧av[st.length]?=some env.locals∧gZ av (je (st.length+1) sc.names []) env.cells:=by
 obtain⟨h',tk,rfl,hk⟩:=x.done;have iA:∀a,s.heap.objs.size<=a->s.heap.get? a=none:=λa h=>iI h;have ly:∀y,env.kindOf y=sc.names.lookup y:=λy=>by show env.scope.names.lookup y=_;rw[hsc]
 let as:=L::Az (L+1) sc.names;have bJ:as.length=(dU sc binds).length:=by simp [as,Az,dU]
 have eG:∀i,i<(fy sc.names).length->as[1+i]?=some (L+1+i):=λi hi=>by rw[zR 1 i,re];simp [Az,hi]
 obtain⟨S',E',g⟩:=S.Gq hk (λa ha=>by
  rcases pO.mp ha with e|ha
  ·exact iA _<|ll<|hL.symm.trans e.symm
  ·obtain⟨i,hi,e⟩:=cu.mp ha;rw[<-e];apply iA _;exact hL▸fC (ke L) (vH (L+1) i)) (by
  refine zJ.mpr ⟨λha=>?_,?_⟩
  ·obtain⟨i,hi,e⟩:=cu.mp ha;exact absurd e.symm<|pQ<|sF (rg L)<|vH (L+1) i
  ·exact Rf _ (λa b oQ e=>oQ<|Rg e) xF) bJ (λg i o a e1 e2=>by
  cases i with
  |zero=>obtain rfl:=dE e1;obtain rfl:=dE e2;refine⟨_,mT▸x.toInCall.ns,λy=>?_⟩;have:=LP env.kindOf ly binds bs (λu=>none) [] (hb.aM g) (λu=>rfl) y;rw[dM] at this;exact .inr this|succ i=>
   have oR:((fy sc.names).map λy=>ae.cell<|(LO sc binds).lookup y)[i]?=some o:=by simpa [dU] using e1
   rw[dN] at oR;cases hy:(fy sc.names)[i]? with
   |none=>rw[hy] at oR;exact nS oR|some y=>
    rw[hy] at oR;obtain rfl:=dE oR;have hi:=(bV.mp hy).1;have e3:=eG i hi;rw[zR 1 i] at e3;rw[e3] at e2;obtain rfl:=dE e2;have hm:(y,L+1+i)∈env.cells:=sX▸CR _ _ _ _ _ hy;have oS:env.cells.lookup y=some (L+1+i):=by refine abm ?_ hm;rwa[sX,<-cellsFrom_names sc.names 0 (L+1) [] [] rfl]
    refine⟨_,x.cell y _ oS,?_⟩;have:=LQ env.kindOf ly binds bs (λu=>none) [] (hb.aM g) (λu=>rfl) y;rwa[dM] at this)
 refine⟨own++as,E',S',(by rw[<-S.len,dT<|aG _,fk,mT];rfl),?_⟩;rw[sX];refine Gp sc.names _ _ _ _ rfl λi hi=>?_;rw[<-S.len,show own.length+1+i=own.length+(1+i) by exact SO,dT (by exact pY),sG];exact eG i hi
structure CS (a:ai)(fd:el)(body:List bl):Prop where
 bD:∃oc od kU,X.K.lookup a=some ⟨oc,od,.func fd,kU⟩
 body:fd.body = .stmts body
 aH:fd.globals=jy
 d3:fd.closure = []
 blt:fd.builtins=Kb
 code:codeIn X.K fd.code fd.qualname=true
 kind:fd.scope.kind = .function
 co:fd.scope.isCoroutine=false
 nd:(fy fd.scope.names).Nodup
 Gs:((je 0 fd.scope.names []).map (·.1)).Nodup
def db (fd:el)(st:List ae)(args:List CV)(kw:List (Str×CV))(binds:List (Str×CV))(aw:List ae):Prop:=∀own s vs ks,Sx own st s->aF own s.heap args vs->cf own s.heap kw ks->∀(M:Model) (A:Around) (E:an->az->Prop) (Q:List (Str×an)->az->Prop),(∀av bs s',a9 own s av s'->Sx av aw s'->cf av s'.heap binds bs->Q bs s')->be M A (sH fd ⟨vs,ks⟩) Q E s
theorem Vi {fd:el}{st:List ae}{args:List CV}{kw binds:List (Str×CV)}(h:∀own hp vs ks,aF own hp args vs->cf own hp kw ks->∃bs,(∀S,pR X.K S (sH fd ⟨vs,ks⟩)=some bs)∧((∀b o,X.H.get? b=some o->hp.get? b=some o)->cf own hp binds bs)):db fd st args kw binds st:=λown s vs ks S cx di M A E Q hQ=>by obtain⟨bs,h1,h2⟩:=h own s.heap vs ks cx di;exact(Rh (vS S.ok.k S.bj)<|h1 _).here<|hQ own bs s .refl S<|h2 S.bj
def Gu (sc:d8)(binds:List (Str×CV)):Bool:=binds.all λp=>sc.names.lookup p.1==some .local||(sc.names.lookup p.1==some .cell&&(fy sc.names).contains p.1)
theorem cf.names:∀{es:List (Str×CV)} {k:List (Str×an)},cf own h es k->k.map (·.1)=es.map (·.1)
 |[],x,e=>by subst e;rfl|(x,u)::o,z,⟨v,k',e,hv,hr⟩=>by subst e;simp [cf.names hr]
theorem aF.Gv {own r:List ai}{h:bf}{c:CV}{v:an}{n:Nat}(hn:own.length=n)(hb:c.lo n=true)(e:RelV (own++r) h c v):RelV own h c v:=RelV.drop c (hn▸hb) e
def bM (d:Nat)(f:CV)(args:List CV)(kw:List (Str×CV))(st:List ae)(v:CV)(ag:List ae):Prop:=∀A own s fv vs ks,Rm d A->Sx own st s->RelV own s.heap f fv->aF own s.heap args vs->cf own s.heap kw ks->gK (aQ X.prog X.w) A (.call fv ⟨vs,ks⟩) (λr s'=>match r with
   |.ok (.ret x)=>Ao own s (PV ag v) x s'|.ok u=>False|.error u=>False) s
theorem bM.call {f:CV}{args:List CV}{kw:List (Str×CV)}{st ag:List ae}{v:CV}(h:bM d f args kw st v ag):bk d f args kw st v ag:=λA own s fv vs ks q S fQ cx di=>
 Ri (h A own s fv vs ks q S fQ cx di)
theorem aec {a:ai}{fd:el}{body:List bl}{args:List CV}{kw binds:List (Str×CV)}{st aw ag g:List ae}{f:cZ}{v:CV}{tab:Option (ai×ai)} (F:CS a fd body)(x7:fd.scope.isGenerator=false)(hb:db fd st args kw binds aw)(hk:Gu fd.scope binds=true)(wi:∀q,tab=some q->q∈X.cU∧fd.code=.ref q.1) (h:aI d (da fd.scope aw.length tab) body (aw++dU fd.scope binds) f (ag++g))(hv:f=.ret v∨f=.next∧v=.none) (bJ:st.length<=ag.length)(b9:(ag.all λo=>o.lo ag.length)=true)(uB:v.lo ag.length=true):bM (d+2) (.aH a) args kw st v ag:=λA own s fv vs ks q S fQ cx di=>by
 subst fQ;obtain⟨oc,od,kU,LR⟩:=F.bD;refine codeAny_call_function q.depth (S.bj _ _<|S.ok.k _ _ LR) rfl F.co x7 F.body (codeRec_of (λa o e=>S.bj _ _<|S.ok.k a o e) F.code) (hb own s vs ks S cx di _ _ _ _ λaO bs s₁ bK bq wj=>?_);rw[F.aH,F.d3,F.blt];refine bC (xG (l7.mpr bq.tk) (E:=λu u=>False) (Q:=λenv s'=>env=_∧InCallC s₁ env.locals (bindL env.kindOf bs λu=>none) env.cells (bindC env.kindOf bs λu=>none) s')
  (ap7 F.kind (λx hx=>?_) λenv he s' x=>⟨he,x⟩)) (λenv s' hx=>?_) λu u x=>x.2.elim
 ·have hm:x.1∈binds.map (·.1):=cf.names wj▸Kf hx;obtain⟨p,hp,e⟩:=cu.mp hm;have:=dI.mp hk p hp;rw[e] at this;rcases ap8.mp this with h1|h1
  ·exact .inl (by simpa using h1)
  rw[bz] at h1;obtain⟨h2,h3⟩:=h1;refine .inr ⟨by simpa using h2,?_⟩;obtain⟨i,hi,e2⟩:=pN.mp<|ap9.mp h3;rw[abm (cellsFrom_names fd.scope.names 0 (s₁.heap.objs.size+1) [] [] rfl▸F.Gs)<|CR fd.scope.names (s₁.heap.objs.size+1) [] i x.1<|by rw[bA hi,e2]];rfl
 obtain⟨ku,he,x⟩:=hx;subst he;obtain⟨h',tk,rfl,eV⟩:=x.done;refine⟨(S.ok.fw.nolimit.keeps bq.bj).keeps eV,codeAny_func ?_⟩;obtain⟨av,E',S',mT,Vj⟩:=Vh bq wj rfl rfl rfl rfl F.nd F.Gs x (l7.mp ku);have R:dK av (da fd.scope aw.length tab) (newEnv fd.scope s₁.heap.objs.size jy (je (s₁.heap.objs.size+1) fd.scope.names []) (fd.qualname++".<locals>.") (some a) fd.code none Kb):=
  ⟨rfl,F.kind,mT,Vj,rfl,rfl,λq hq=>wi q hq⟩
 refine bC (h _ av _ _ (Rm.deeper<|Rm.le q<|Tq) S' R) (λfl aR ⟨aS,bX,bw,rf⟩=>?_) λu u x=>x.elim;have E:=bK.trans<|E'.trans bX;obtain⟨r,hr⟩:=E.pre;have CT:aS=aS.take ag.length++aS.drop ag.length:=(E5 ..).symm;have CU:(aS.take ag.length).length=ag.length:=by rw[nG];exact Sj (by rw[bw.len,dJ])
 have cF:=Sx.drop (CT▸bw) CU b9;have dC:a9 own s (aS.take ag.length) aR:=by refine⟨⟨r.take<|ag.length-own.length,?_⟩,λa ha=>E.new a<|B4 ha,E.bj,E.cU,E.os⟩;rw[hr,List.take_append,uc<|by rwa[S.len]]
 rcases hv with rfl|⟨rfl,rfl⟩
 ·obtain⟨y,rfl,hy⟩:=rf;exact⟨_,dC,cF,aF.Gv CU uB<|by rw[<-CT];exact hy⟩
 subst rf;exact⟨_,dC,cF,rfl⟩
end
section
variable {d:Nat}{c:aY}
structure iY (a:CV)(items:List CV)(P:List ae->Prop) where
 It:Nat->List ai->ai->bf->Prop
 dG:∀{A:Around} {own st s x} {Q:an->az->Prop},A.handled=none->Sx own st s->P st->RelV own s.heap a x->
  (∀ia h' tk,tk≠0->s.heap.get? ia=none->(∀b o,s.heap.get? b=some o->h'.get? b=some o)->It 0 own ia h'->Q (.ref ia) { s with heap:=h',toks:=tk})->be (aQ X.prog X.w) A (ud x) Q (λu u=>False) s
 qf:∀{A:Around} {i own ia s} {Q:an->az->Prop} {E:an->az->Prop},It i own ia s.heap->Q (.ref ia) s->be (aQ X.prog X.w) A (ud (.ref ia)) Q E s
 ab:∀{i own ia h},It i own ia h->∃o n,h.get? ia=some o∧¬eO o∧o.cls = .type n∧(["enumerate","zip","dict_itemiterator","dict_reverseitemiterator","odict_iterator","itertools.zip_longest","itertools.pairwise"]:List String).contains n=false
 uC:∀{i own av ia h h'},It i own ia h->eD own h av h'->h'.get? ia=h.get? ia->It i av ia h'
 next:∀{A:Around} {i own st ia s v} {Q:Option an->az->Prop},A.handled=none->Sx own st s->P st->It i own ia s.heap->ia∉own->items[i]?=some v->
  (∀y h' tk,tk≠0->RelV own s.heap v y->f6 ia s.heap h'->It (i+1) own ia h'->Q (some y) { s with heap:=h',toks:=tk})->be (aQ X.prog X.w) A (l8 (.ref ia)) Q (λu u=>False) s
 jk:∀{A:Around} {own st ia s} {Q:Option an->az->Prop},A.handled=none->Sx own st s->P st->It items.length own ia s.heap->ia∉own->
  (∀h' tk,tk≠0->f6 ia s.heap h'->Q none { s with heap:=h',toks:=tk})->be (aQ X.prog X.w) A (l8 (.ref ia)) Q (λu u=>False) s
def rI (k:Nat)(items:List CV):iY (.ab k) items (λst=>st[k]?=some (.list items)) where
 It:=λi own ia h=>∃l,own[k]?=some l∧h.IsListIter ia l i
 dG:=λhh S hp hr hQ=>by
  obtain⟨l,hl,rfl⟩:=hr
  obtain⟨l',nP,vs,n,ho,hv⟩:=S.bD hp
  rw[hl] at nP;obtain rfl:=dE nP
  exact abn ⟨_,ho,rfl,n,rfl⟩ (hQ _ _ _ (by first|exact ka _|exact S.tk) (iI (aG _)) (λb o e=>fT _ e) ⟨l,hl,_,iy _ rfl,rfl,rfl⟩)
 qf:=λ⟨l,hl,hi⟩ hQ=>wpAny_pyIter_listiter hi hQ
 ab:=λ⟨l,hl,o,h1,h2,h3⟩=>⟨o,_,h1,Obj.uq h2 h3 (by decide) (by decide) rfl,h2,by decide⟩
 uC:=λ⟨l,hl,o,h1,h2⟩ g e=>⟨l,g.bD _ _ hl,o,e.trans h1,h2⟩
 next:=λhh S hp ⟨l,hl,hi⟩ hn hx hQ=>by
  obtain⟨l',nP,vs,n,ho,hv⟩:=S.bD hp
  rw[hl] at nP;obtain rfl:=dE nP
  obtain⟨y,hy,hr⟩:=aF.get hv hx
  exact wpAny_pyNext_list_item hi ⟨_,ho,rfl,n,rfl⟩ (by simpa using hy) λh' jl hs=>hQ y h' _ (by first|exact ka _|exact S.tk) hr hs.extBut ⟨l,hl,jl⟩
 jk:=λhh S hp ⟨l,hl,hi⟩ hn hQ=>by
  obtain⟨l',nP,vs,n,ho,hv⟩:=S.bD hp
  rw[hl] at nP;obtain rfl:=dE nP
  exact wpAny_pyNext_list_end hh hi ⟨_,ho,rfl,n,rfl⟩ (by rw[aF.length hv];simp) λh' he=>hQ h' _ (by first|exact ka _|exact S.tk) he
inductive aed (items:List CV)(i:Nat)(own:List ai)(ia:ai)(h:bf):Prop|mk (t:ai) (vs:List an) (n:Nat) (h1:t∉own) (h2:t∉X.P) (h3:h.get? t=some {cls:=.type "tuple",data:=.seq vs.toArray n}) (h4:aF own h items vs) (hi:h.IsTupleIter ia t i)
def Vk (items:List CV):iY (.cB items) items (λu=>True) where
 It:=aed items
 dG:=λ{A own st s x Q} hh S hp hr hQ=>by
  obtain⟨t,vs,n,rfl,h1,h2,ho,hv⟩:=hr
  have hk:∀b o,s.heap.get? b=some o->(s.heap.push {cls:=.type "tuple_iterator",data:=.fields #[.ref t,.int 0 0]}).get? b=some o:=λb o e=>fT _ e
  refine wpAny_pyIter_tuple ⟨_,ho,rfl,n,rfl⟩ (hQ _ _ _ (by first|exact ka _|exact S.tk) (iI (aG _)) hk ⟨t,vs,n,h1,h2,hk _ _ ho,?_,_,iy _ rfl,rfl,rfl⟩)
  exact aF.aM ⟨λu u e=>e,λb o e u u u=>hk b o e,λu h=>.inl h⟩ _ hv
 qf:=λI hQ=>by obtain⟨_,_,_,_,_,_,_,hi⟩:=I;exact wpAny_pyIter_tupleiter hi hQ
 ab:=λI=>by obtain⟨_,_,_,_,_,_,_,o,h1,h2,h3⟩:=I;exact⟨o,_,h1,Obj.uq h2 h3 (by decide) (by decide) rfl,h2,by decide⟩
 uC:=λI g e=>by obtain⟨t,vs,n,h1,h2,h3,h4,o,h5,h6⟩:=I;exact⟨t,vs,n,g.not h3 h1 FS,h2,g.bj _ _ h3 FS h1 h2,aF.aM g _ h4,o,e.trans h5,h6⟩
 next:=λhh S hp I hn hx hQ=>by
  obtain⟨t,vs,n,h1,h2,h3,h4,o,e1,e2,e3⟩:=I
  obtain⟨y,hy,hr⟩:=aF.get h4 hx
  have hv:¬eO o:=Obj.uq e2 e3 (by decide) (by decide) rfl
  refine wpAny_pyNext_tuple_item ⟨o,e1,e2,e3⟩ ⟨_,h3,rfl,n,rfl⟩ (Rj.trans hy) λh' jl hs=>hQ y h' _ (by first|exact ka _|exact S.tk) hr hs.extBut ⟨t,vs,n,h1,h2,hs.extBut t _ (λe=>?_) h3,aF.aM (eD.iW (λo' e=>dE (e1.symm.trans e)▸hv) hs.extBut) _ h4,jl⟩
  exact hv (dE (h3.symm.trans (e▸e1))▸FS)
 jk:=λhh S hp I hn hQ=>by
  obtain⟨t,vs,n,h1,h2,h3,h4,hi⟩:=I
  exact wpAny_pyNext_tuple_end hh hi ⟨_,h3,rfl,n,rfl⟩ (Rj.trans (B5 (ll (aF.length h4).symm))) λh' he=>hQ h' _ (by first|exact ka _|exact S.tk) he
noncomputable def jR (x:Nat):CV:=.str ⟨#[x]⟩
theorem aee {prog:q9}{w:pM}{A:Around}{E:an->az->Prop}{s:az}{it:ai}{x:Str}{t:Tok}{i k:Nat}{Q:Option an->az->Prop}(hi:s.heap.IsStrIter it (jM x) x t i)(hx:x.cps[i]?=some k) (hQ:∀h',h'.IsStrIter it (jM x) x t (i+1)->sJ it s.heap h'->Q (some (.str ⟨#[k]⟩ s.toks)) {s with heap:=h',toks:=s.toks+1}):be (aQ prog w) A (l8 (.ref it)) Q E s:=by
 unfold jM at hi hQ;split at hi
 ·rename_i h;rw[if_pos h] at hQ;exact wpAny_pyNext_ascii_item hi hx hQ
 rename_i h;rw[if_neg h] at hQ;exact wpAny_pyNext_wide_item hi hx hQ
theorem aef {w:pM}{E:an->az->Prop}{x:Str}{t:Tok}{i:Nat}(hh:A.handled=none)(hi:s.heap.IsStrIter it (jM x) x t i)(hx:x.cps[i]?=none)(hQ:∀h',f6 it s.heap h'->Q none {s with heap:=h'}):be (aQ prog w) A (l8 (.ref it)) Q E s:=by
 unfold jM at hi;split at hi
 ·exact wpAny_pyNext_ascii_end hh hi hx hQ
 exact wpAny_pyNext_wide_end hh hi hx hQ
noncomputable def Gw (x:Str):iY (.str x) (x.cps.toList.map jR) (λu=>True) where
 It:=λi own ia h=>∃t,h.IsStrIter ia (jM x) x t i
 dG:=λhh S hp hr hQ=>by
  obtain⟨t,rfl⟩:=hr
  exact wpAny_pyIter_strU (hQ _ _ _ (by first|exact ka _|exact S.tk) (iI (aG _)) (λb o e=>fT _ e) ⟨t,_,iy _ rfl,rfl,rfl⟩)
 qf:=λ⟨t,hi⟩ hQ=>by
  unfold jM at hi
  split at hi
  · exact wpAny_pyIter_striter_ascii hi hQ
  · exact wpAny_pyIter_striter_wide hi hQ
 ab:=λ⟨t,o,h1,h2,h3⟩=>⟨o,_,h1,Obj.uq h2 h3 (by unfold jM;split<;>decide) (by unfold jM;split<;>decide) rfl,h2,by unfold jM;split<;>decide⟩
 uC:=λ⟨t,o,h1,h2⟩ g e=>⟨t,o,e.trans h1,h2⟩
 next:=λ{A i own st ia s v Q} hh S hp ⟨t,hi⟩ hn hx hQ=>by
  rw[dN] at hx
  cases hk:x.cps.toList[i]? with
  |none=>rw[hk] at hx;exact nS hx
  |some k=>
    rw[hk] at hx;obtain rfl:=dE hx
    exact aee hi (by simpa using hk) λh' jl hs=>hQ _ h' _ (by first|exact ka _|exact S.tk) ⟨_,rfl⟩ hs.extBut ⟨t,jl⟩
 jk:=λhh S hp ⟨t,hi⟩ hn hQ=>aef hh hi (by simp) λh' he=>hQ h' _ (by first|exact ka _|exact S.tk) he
noncomputable def sY (a:Int)(n:Nat)(c:Int):List CV:=(aK n).map λ(i:Nat)=>CV.int (a+(i:Int)*c)
def Vl (a b c:Int)(n:Nat)(hs:abo a b c=true)(hn:Kg a b c=(n:Int)):iY (.fW a b c) (sY a n c) (λz=>True) where
 It:=λi own ia h=>IsRangeIter h ia (a+(i:Int)*c) ((n:Int)-i) c
 dG:=λ{A own st s x Q} hh S hp hr hQ=>by
  obtain⟨r,t,u,w,rfl,h1,h2,ho⟩:=hr
  refine wpAny_pyIter_range ho hs (hQ _ _ _ (by first|exact ka _|exact S.tk) (iI (aG _)) (λb o e=>fT _ e) ?_)
  rw[hn]
  show IsRangeIter _ _ _ _ _
  have e:(s.heap.push {cls:=.type "range_iterator",data:=.fields #[rh a,rh (n:Int),rh c]}).get? s.heap.objs.size=some {cls:=.type "range_iterator",data:=.fields #[rh a,rh (n:Int),rh c]}:=iy _ rfl
  simpa using e
 qf:=λhi hQ=>wpAny_pyIter_rangeiter hi hQ
 ab:=λhi=>⟨_,_,hi,Obj.uq rfl rfl (by decide) (by decide) rfl,rfl,by decide⟩
 uC:=λhi g e=>e.trans hi
 next:=λ{A i own st ia s v Q} hh S hp hi mU hx hQ=>by
  have aZ:i<n:=by
   have:=(bV.mp hx).1
   simpa [sY] using this
  have hv:v=.int (a+(i:Int)*c):=by
   have:(sY a n c)[i]?=some (.int (a+(i:Int)*c)):=by simp [sY,aZ]
   rw[this] at hx;obtain rfl:=dE hx;rfl
  subst hv
  refine wpAny_pyNext_range_item hi (by exact ah [_,_] (.lt .o .i (.g 1 0 (.it .k (.s (.c .i) (.c .o))))) rfl aZ) λh' jl iD=>hQ _ h' _ (by first|exact ka _|exact S.tk) ⟨_,rfl⟩ iD.extBut ?_
  have e1:a+(i:Int)*c+c=a+((i+1:Nat):Int)*c:=by rw[Int.natCast_succ,Int.add_mul,J0,Int.add_assoc]
  have e2:(n:Int)-i-1=(n:Int)-((i+1:Nat):Int):=Int.sub_sub _ _ _
  rw[<-e1,<-e2];exact jl
 jk:=λ{A own st ia s Q} hh S hp hi mU hQ=>by
  refine wpAny_pyNext_range_end hh hi ?_ λh' he=>hQ h' _ (by first|exact ka _|exact S.tk) he
  simp [sY]
end
section
set_option backward.match.sparseCases true
variable {d:Nat}{c:aY}
inductive x9 (own:List ai)(s:az)(ag:List ae)(f:cZ)(r:Except an Flow)(s':az):Prop|mk (fl:Flow) (av:List ai) (e:r=.ok fl) (E:a9 own s av s') (S:Sx av ag s') (r:xV av s'.heap f fl)
theorem Gy {own aS:List ai}{st ag g:List ae}{s aR:az}(S:Sx own st s)(E:a9 own s aS aR)(bw:Sx aS (ag++g) aR)(bJ:st.length<=ag.length)(b9:(ag.all λo=>o.lo ag.length)=true):∃dt ya,aS=dt++ya∧dt.length=ag.length∧a9 own s dt aR∧Sx dt ag aR:=by
 obtain⟨r,hr⟩:=E.pre;have CT:aS=aS.take ag.length++aS.drop ag.length:=(E5 ..).symm;have CU:(aS.take ag.length).length=ag.length:=by rw[nG];exact Sj (by rw[bw.len,dJ])
 refine⟨_,_,CT,CU,⟨⟨r.take<|ag.length-own.length,?_⟩,λa ha=>E.new a<|B4 ha,E.bj,E.cU,E.os⟩,Sx.drop (by rwa[<-CT]) CU b9⟩;rw[hr,List.take_append,uc<|by rwa[S.len]]
theorem a8.drop {e:aq}{st ag g:List ae}{v:CV}(h:a8 d c e st v (ag++g))(bJ:st.length<=ag.length)(b9:(ag.all λo=>o.lo ag.length)=true)(hv:v.lo ag.length=true):a8 d c e st v ag:=λA own s env q S R=>
 bC (h A own s env q S R) (λx s' ⟨aS,E,bw,r⟩=>by obtain⟨dt,ya,e1,e2,dC,cF⟩:=Gy S E bw bJ b9;subst e1;exact⟨dt,dC,cF,aF.Gv e2 hv r⟩) λu u x=>x
noncomputable def cZ.lo (n:Nat):cZ->Bool
 |.ret v=>v.lo n|_=>true
theorem xV.drop (hn:own.length=n)(hb:f.lo n=true)(e:xV (own++r) h f fl):xV own h f fl:=by cases f with|ret v=>obtain⟨x,e1,e2⟩:=e;exact⟨x,e1,aF.Gv hn hb e2⟩|_=>exact e
theorem aI.drop {e:List bl}{st ag g:List ae}{f:cZ}(h:aI d c e st f (ag++g))(bJ:st.length<=ag.length)(b9:(ag.all λo=>o.lo ag.length)=true)(hv:f.lo ag.length=true):aI d c e st f ag:=λA own s env q S R=>
 bC (h A own s env q S R) (λx s' ⟨aS,E,bw,r⟩=>by obtain⟨dt,ya,e1,e2,dC,cF⟩:=Gy S E bw bJ b9;subst e1;exact⟨dt,dC,cF,xV.drop e2 hv r⟩) λu u x=>x
def LU (r:List ae->cZ->List ae->Prop)(f:cZ)(st:List ae)(f':cZ)(ag:List ae):Prop:=cZ.rec (r st f' ag) (f'=.next∧ag=st) (r st f' ag) (λv=>f'=.ret v∧ag=st) f
theorem Vm {r:List ae->cZ->List ae->Prop}{f f':cZ}{aJ ag:List ae}(h:LU r f aJ f' ag){bx aS:List ai}{aT aR:az}{fl:Flow}(E:a9 bx aT aS aR)(S:Sx aS aJ aR)(rf:xV aS aR.heap f fl){G:Prop} (k:r aJ f' ag->G):match(generalizing:=false) fl with|.next|.cont=>G|.brk=>x9 bx aT ag f' (.ok .next) aR|.ret v=>x9 bx aT ag f' (.ok (.ret v)) aR:=by cases f with|next=>subst rf;exact k h|cont=>subst rf;exact k h|brk=>obtain⟨rfl,rfl⟩:=h;subst rf;exact⟨_,aS,rfl,E,S,rfl⟩|ret v=>obtain⟨rfl,rfl⟩:=h;obtain⟨x,rfl,hv⟩:=rf;exact⟨_,aS,rfl,E,S,x,rfl,hv⟩
def fG (d:Nat)(c:aY)(target:aq)(body:List bl)(P:List ae->Prop)(xs:List CV):List ae->cZ->List ae->Prop:=List.rec (λst f ag=>P st∧f=.next∧ag=st) (λx u r st f' ag=>P st∧∃aw f aJ,dj d c target x st aw∧aI d c body aw f aJ∧LU r f aJ f' ag) xs
section
variable {target:aq}{body:List bl}{P:List ae->Prop}{x:CV}{xs:List CV}{st aw aJ ag:List ae}{f f':cZ}{v:CV}
theorem fG.nil (h:P st):fG d c target body P [] st .next st:=⟨h,rfl,rfl⟩
theorem fG.cons (h:P st)(a:dj d c target x st aw)(b:aI d c body aw f aJ)(hf:f=.next∨f=.cont)(r:fG d c target body P xs aJ f' ag):fG d c target body P (x::xs) st f' ag:=⟨h,_,_,_,a,b,(by rcases hf with rfl|rfl<;>exact r)⟩
theorem fG.brk (h:P st)(a:dj d c target x st aw)(b:aI d c body aw .brk aJ):fG d c target body P (x::xs) st .next aJ:=⟨h,_,_,_,a,b,rfl,rfl⟩
theorem fG.ret (h:P st)(a:dj d c target x st aw)(b:aI d c body aw (.ret v) aJ):fG d c target body P (x::xs) st (.ret v) aJ:=⟨h,_,_,_,a,b,rfl,rfl⟩
end
theorem AA {A:Around}{s:az}{target:aq}{it:an}{body:List bl}{env:Env}{R:Kc->az->Prop} (h:be (aQ X.prog X.w) A (l8 it) (λr s₁=>match r with|none=>R (.ok .next) s₁|some v=>be (aQ X.prog X.w) A (ri target it v) (λu yb=>be (aQ X.prog X.w) A (oE target env v) (λu aR=>be (aQ X.prog X.w) A (l4 body env) (λf bu=>match f with|.next|.cont=>gK (aQ X.prog X.w) A (.forLoop target it body [] env) R bu|.brk=>R (.ok .next) bu|.ret v=>R (.ok (.ret v)) bu) (λu u=>False) aR) (λu u=>False) yb) (λu u=>False) s₁) (λu u=>False) s):gK (aQ X.prog X.w) A (.forLoop target it body [] env) R s:=by
 apply Kh;apply E6;refine bC (E:=λu u=>False) ?_ (λu u x=>x) λu u x=>x.elim;refine aB<|zM<|aB<|E6<|bC h (λr s₁ c9=>?_) λu u h'=>h'.elim;cases r with
 |none=>exact bH ⟨rfl,codeAny_block<|wpAny_execs_nil c9⟩|some v=>refine aB<|bC c9 (λu yb LV=>?_) λu u h'=>h';refine aB<|bC LV (λu aR gf=>aB<|bC gf (λf bu eF=>?_) λu u h'=>h') λu u h'=>h';cases f with|next=>exact bH ⟨rfl,eF⟩|cont=>exact bH ⟨rfl,eF⟩|brk=>exact bH eF|ret v=>exact bH eF
noncomputable def aei (it v:an):Sem Unit:=do
 let (.ref r,.ref a):=(it,v)|return
 let o<-load r
 match o.cls,o.data with
 |.type n,.fields vs=>
   if(["enumerate","zip","dict_itemiterator","dict_reverseitemiterator","odict_iterator","itertools.zip_longest","itertools.pairwise"]:List String).contains n&&vs[0]? ==some (rh a) then
    rule "for.unpacks-the-owned-tuple"
    updateField r 0 .none
 |x,u=>pure ()
theorem aej t  it v:ri t it v=aei it v∨ri t it v=pure ():=by cases t<;>first|exact .inl rfl|exact .inr rfl
theorem LW {o:Obj}{E:an->az->Prop}(ho:s.heap.get? ia=some o)(hc:o.cls=.type n)(hn:(["enumerate","zip","dict_itemiterator","dict_reverseitemiterator","odict_iterator","itertools.zip_longest","itertools.pairwise"]:List String).contains n=false)(h:Q () s):be (aQ X.prog X.w) A (ri target (.ref ia) v) Q E s:=by
 rcases aej target (.ref ia) v with e|e<;>rw[e]
 ·cases v<;>first|exact bH h|skip
  refine aB<|Rk ho ?_;rw[hc];cases o.data<;>first|exact bH h|skip
  dsimp only;rw[hn,Bool.false_and,if_neg fL];exact bH h
 exact bH h
theorem CW {own aO:List ai}{st aw:List ae}{s s₁:az}{a:ai}(S:Sx own st s)(E:a9 own s aO s₁)(bq:Sx aO aw s₁)(h:s₁.heap.get? a=none):s.heap.get? a=none:=by
 cases e:s.heap.get? a with
 |none=>rfl|some o=>
  exfalso;by_cases ho:a∈own
  ·obtain⟨r,hr⟩:=E.pre;obtain⟨ob,e1⟩:=bq.qh<|hr▸EY _ ho;rw[h] at e1;exact nS e1
  by_cases hp:a∈X.P
  ·obtain⟨o',e1⟩:=E.cU a hp o e;rw[h] at e1;exact nS e1
  rw[E.bj a o e ho hp] at h;cases h
theorem a9.LX {o:Obj}(E:a9 own s av s')(hn:b∉own)(ho:s.heap.get? b=some o):b∉av:=λhm=>(E.new b hm).elim hn λh=>nS<|h.symm.trans ho
structure rJ {a:CV}{items:List CV}{P:List ae->Prop}(Sr:iY a items P)(d:Nat)(c:aY)(A:Around)(env:Env)(bx:List ai)(aT:az)(ia:ai)(i:Nat)(own:List ai)(st:List ae)(s:az):Prop where
 q:Rm d A
 E:a9 bx aT own s
 S:Sx own st s
 R:dK own c env
 hq:∀q∈X.P,∃o,aT.heap.get? q=some o
 hI:Sr.It i own ia s.heap
 h0:aT.heap.get? ia=none
 hn:ia∉own
 hp:ia∉X.P
 hb:X.H.get? ia=none
section
variable {a:CV}{items:List CV}{P:List ae->Prop}{Sr:iY a items P}{A:Around}{env:Env}{bx own:List ai}{aT s:az}{ia:ai}{i:Nat}{st:List ae}
theorem rJ.go (I:rJ Sr d c A env bx aT ia i own st s)(E:a9 own s aS aR)(S:Sx aS aJ aR):rJ Sr d c A env bx aT ia i aS aJ aR:=by obtain⟨o,m,ho,hv,_⟩:=Sr.ab I.hI;exact⟨I.q,I.E.trans E,S,I.R.ext E,I.hq,Sr.uC I.hI E.aM<|(E.bj ia o ho I.hn I.hp).trans ho.symm,I.h0,E.LX I.hn ho,I.hp,I.hb⟩
theorem rJ.item (I:rJ Sr d c A env bx aT ia i own st s){x:CV}{xs:List CV}{target:aq}{aw:List ae}(hd:items.drop i=x::xs)(hP:P st)(ha:dj d c target x st aw){N:az->Prop}{Q:Unit->az->Prop} (k:∀aO s₁,items.drop (i+1)=xs->i+1<=items.length->(∃w,aO=own++w)->rJ Sr d c A env bx aT ia (i+1) aO aw s₁->Q () s₁):be (aQ X.prog X.w) A (l8 (.ref ia)) (λr s₁=>match r with|none=>N s₁|some v=>be (aQ X.prog X.w) A (ri target (.ref ia) v) (λu yb=>be (aQ X.prog X.w) A (oE target env v) Q (λu u=>False) yb) (λu u=>False) s₁) (λu u=>False) s:=by
 have aZ:=Nat.lt_of_not_le λh=>by rw[abp h] at hd;cases hd
 have hx:items[i]?=some x:=by have:=sL (xs:=items) (i:=i) (j:=0);rw[hd] at this;exact this.symm
 obtain⟨o,m,ho,hv,_⟩:=Sr.ab I.hI;refine Sr.next I.q.1 I.S hP I.hI I.hn hx λy h' tk lz hr hk Vn=>?_;have kW:∀o',s.heap.get? ia=some o'->¬eO o':=λo' e=>dE (ho.symm.trans e)▸hv;obtain⟨CX,aq4,AB,aq5,aek,ael⟩:=Sr.ab Vn;have iZ:rJ Sr d c A env bx aT ia (i+1) own st {s with heap:=h',toks:=tk}:=⟨I.q,I.E.iW I.h0 I.hq hk,I.S.iW I.hn I.hp I.hb kW hk,I.R,I.hq,Vn,I.h0,I.hn,I.hp,I.hb⟩;exact LW AB aek ael<|bC (ha A own _ env y I.q iZ.S I.R<|hr.aM<|eD.iW kW hk) (λu aR ⟨aS,bX,bw⟩=>k aS aR (by rw[<-Ki,hd];rfl) aZ bX.pre<|iZ.go bX bw) λu u x=>x
theorem rJ.jk (I:rJ Sr d c A env bx aT ia i own st s)(hd:items.drop i=[])(hi:i<=items.length)(hP:P st)(k:∀s',a9 bx aT own s'->Sx own st s'->Q none s'):be (aQ X.prog X.w) A (l8 (.ref ia)) Q (λx x=>False) s:=by obtain rfl:=abh hi<|ap'.mp hd;obtain⟨o,m,ho,hv,_⟩:=Sr.ab I.hI;exact Sr.jk I.q.1 I.S hP I.hI I.hn λh' tk lz hk=>k _ (I.E.iW I.h0 I.hq hk)<|I.S.iW I.hn I.hp I.hb (λo' e=>dE (ho.symm.trans e)▸hv) hk
end
theorem aem {items:List CV}{P:List ae->Prop}(Sr:iY a items P):∀{st ag} {f},fG d c target body P xs st f ag->∀{i} {A bx aT own s ia env},items.drop i=xs->i<=items.length->rJ Sr d c A env bx aT ia i own st s->gK (aQ X.prog X.w) A (.forLoop target (.ref ia) body [] env) (x9 bx aT ag f) s:=by induction xs with|nil=>intro st ag f h i A bx aT own s ia env hd hi I;obtain⟨hP,rfl,rfl⟩:=h;exact AA (I.jk hd hi hP λs' E S=>⟨_,_,rfl,E,S,rfl⟩)|cons x xs ih=>intro st ag f h i A bx aT own s ia env hd hi I;obtain⟨hP,_,_,_,ha,hx,hr⟩:=h;exact AA<|I.item hd hP ha λaO s₁ yc yd u iZ=>bC (hx _ aO s₁ _ iZ.q iZ.S iZ.R) (λfl aR ⟨aS,bX,bw,rf⟩=>Vm hr (iZ.E.trans bX) bw rf λh=>ih h yc yd<|iZ.go bX bw) λu u x=>x
noncomputable def ye (e:aq):Bool:=match e with
 |.Set ..=>false|_=>true
theorem AD {e:aq}(h:ye e=true):∀x,abq e env x=pure x:=λx=>by cases e<;>first|rfl|exact nB h
theorem mq {a:CV}{items:List CV}{P:List ae->Prop}(Sr:iY a items P){target iter:aq}{body:List bl}{pos:Pos}{st aw ag:List ae}{f:cZ}(hs:ye iter=true)(hi:a8 d c iter st a aw)(hP:P aw) (h:fG d c target body P items aw f ag):dB d c (.For target iter body [] pos) st f ag:=λA own s env q S R=>by refine wpAny_For (bC (hi A own s env q S R) (λx s₁ ⟨aO,bK,bq,cx⟩=>?_) λu u x=>x)<|AD hs;refine Sr.dG q.1 bq hP cx λia h' tk lz ik hk hI=>?_;have hq:∀p∈X.P,∃o,s.heap.get? p=some o:=λp hp=>let ⟨ps,e,_⟩:=S.cU p hp;⟨_,e⟩;refine pS (aem Sr h rfl (dQ _) ⟨q,bK.trans<|a9.more (t:=tk) hk,bq.more hk,R.ext bK,hq,hI,CW S bK bq ik,bq.jO ik,bq.mf ik,bq.ut ik⟩) λr s' ⟨fl,av,e,E',S',rf⟩=>?_;subst e;exact⟨av,E',S',rf⟩
end
section
set_option backward.match.sparseCases true
variable {d:Nat}{c:aY}
inductive rK (d:Nat)(c:aY)(test:aq)(body:List bl):List ae->cZ->List ae->Prop|done {st aw}:fx d c test st false aw->rK d c test body st .next aw|cons {st aw f aJ f' cE}:fx d c test st true aw->aI d c body aw f aJ->(f=.next∨f=.cont)->rK d c test body aJ f' cE->rK d c test body st f' cE|brk {st aw aJ}:fx d c test st true aw->aI d c body aw .brk aJ->rK d c test body st .next aJ|ret {st aw v aJ}:fx d c test st true aw->aI d c body aw (.ret v) aJ->rK d c test body st (.ret v) aJ
theorem Gz {A:Around}{s:az}{test:aq}{body:List bl}{env:Env}{R:Kc->az->Prop} (h:be (aQ X.prog X.w) A (xB test env (d9 test env)) (λb s₁=>if b then be (aQ X.prog X.w) A (l4 body env) (λf bu=>match f with|.next|.cont=>gK (aQ X.prog X.w) A (.whileLoop test body [] env) R bu|.brk=>R (.ok .next) bu|.ret v=>R (.ok (.ret v)) bu) (λu u=>False) s₁ else R (.ok .next) s₁) (λu u=>False) s):gK (aQ X.prog X.w) A (.whileLoop test body [] env) R s:=by
 apply Kh;apply E6;refine bC (E:=λu u=>False) ?_ (λu u x=>x) λu u x=>x.elim;refine aB<|bC h (λb s₁ c9=>?_) λu u h'=>h';cases b with
 |false=>exact aB (wpAny_execs_nil<|bH c9)|true=>refine aB<|bC c9 (λf bu eF=>?_) λu u h'=>h';cases f with|next=>exact bH ⟨rfl,eF⟩|cont=>exact bH ⟨rfl,eF⟩|brk=>exact bH eF|ret v=>exact bH eF
theorem aen {test:aq}{body:List bl}{st ag:List ae}{f:cZ}(h:rK d c test body st f ag):∀{A bx aT own s env},Rm d A->a9 bx aT own s->Sx own st s->dK own c env->gK (aQ X.prog X.w) A (.whileLoop test body [] env) (x9 bx aT ag f) s:=by
 induction h with
 |done ht=>intro A bx aT own s env q E S R;refine Gz<|bC (ht A own s env q S R) (λb s₁ ⟨aO,bK,bq,e⟩=>?_) λu u x=>x;subst e;exact⟨_,aO,rfl,E.trans bK,bq,rfl⟩|cons ht hx hf hr ih=>
  intro A bx aT own s env q E S R;refine Gz<|bC (ht A own s env q S R) (λb s₁ ⟨aO,bK,bq,e⟩=>?_) λu u x=>x;subst e;refine bC (hx A aO s₁ env q bq<|R.ext bK) (λfl aR ⟨aS,bX,bw,rf⟩=>?_) λu u x=>x;have go:=ih q ((E.trans bK).trans bX) bw<|(R.ext bK).ext bX;rcases hf with rfl|rfl
  ·subst rf;exact go
  subst rf;exact go
 |brk ht hx=>intro A bx aT own s env q E S R;refine Gz<|bC (ht A own s env q S R) (λb s₁ ⟨aO,bK,bq,e⟩=>?_) λu u x=>x;subst e;refine bC (hx A aO s₁ env q bq<|R.ext bK) (λfl aR ⟨aS,bX,bw,rf⟩=>?_) λu u x=>x;subst rf;exact⟨_,aS,rfl,(E.trans bK).trans bX,bw,rfl⟩|ret ht hx=>intro A bx aT own s env q E S R;refine Gz<|bC (ht A own s env q S R) (λb s₁ ⟨aO,bK,bq,e⟩=>?_) λu u x=>x;subst e;refine bC (hx A aO s₁ env q bq<|R.ext bK) (λfl aR ⟨aS,bX,bw,rf⟩=>?_) λu u x=>x;obtain⟨x,rfl,hv⟩:=rf;exact⟨_,aS,rfl,(E.trans bK).trans bX,bw,x,rfl,hv⟩
theorem CY {test:aq}{body:List bl}{pos:Pos}{st ag:List ae}{f:cZ}(h:rK d c test body st f ag):dB d c (.While test body [] pos) st f ag:=λA own s env q S R=>by exact Tr.eh<|(wpAny_runOwn<|pS (aen h q .refl S R) λr s' ⟨fl,av,e,E',S',rf⟩=>by subst e;exact⟨av,E',S',rf⟩)
def mr (d:Nat)(c:aY)(es:List aq)(st:List ae)(b:Bool)(ag:List ae):Prop:=
 ∀A own s env,Rm d A->Sx own st s->dK own c env->Tr A own s (forIn es true λe r=>if r=true then do let ok<-xB e env (d9 e env);pure (ForInStep.yield ok) else pure (ForInStep.yield r)) (PE ag b)
theorem oT {st:List ae}:mr d c [] st true st:=λA own s env q S R=>Tr.pure ⟨S,rfl⟩
theorem ms {e:aq}{st ag:List ae}{b:Bool}(h:fx d c e st b ag):mr d c [e] st b ag:=λA own s env q S R=>by rw[xH];show Tr A own s ((xB e env (d9 e env)>>=λok=>pure<|ForInStep.yield ok)>>=_) _;rw[bind_assoc];refine(h A own s env q S R).bind λaO x s₁ bF p=>?_;rw[pure_bind];exact Tr.pure p
noncomputable def GB (e:aq)(acc:an)(env:Env):Sem Unit:=match e with
 |.ListComp elt x u o=>do let _<-call (.builtin "list.append") [acc,<-d9 elt env]
 |.DictComp k v x u o=>do
  let kv<-d9 k env
  let vv<-holding [kv] (d9 v env)
  match acc with
  |.ref d=>do
    nE {k.pos with endLine:=v.pos.endLine,endCol:=v.pos.endCol}
    holding [kv,vv] (dictSet d kv vv)
  |_=>unsupported "internal:dictcomp"
 |_=>unsupported "internal:not-a-comprehension"
def sZ (d:Nat)(c:aY)(e:aq)(k:Nat)(st ag:List ae):Prop:=∀A own s env a,Rm d A->Sx own st s->dK own c env->own[k]?=some a->Tr A own s (GB e (.ref a) env) λav x s'=>Sx av ag s'
def kX (e:aq):Bool:=(match e with
 |.ListComp ..|.DictComp ..=>true|_=>false)&&(l9 e).all λg=>g.is_async==0&&ye g.iter
inductive jS (d:Nat)(c:aY)(e:aq)(k:Nat):Nat->(List ae->Prop)->List CV->List ae->List ae->Prop|nil {n P st}:P st->jS d c e k n P [] st st|skip {n P x xs st g aw aJ ag}:P st->(l9 e)[n]?=some g->dj d c g.target x st aw->mr d c g.ifs aw false aJ->jS d c e k n P xs aJ ag->jS d c e k n P (x::xs) st ag|wk {n P x xs st g aw aJ cE ag}:P st->(l9 e)[n]?=some g->(l9 e)[n+1]?=none->dj d c g.target x st aw->mr d c g.ifs aw true aJ->sZ d c e k aJ cE->jS d c e k n P xs cE ag->jS d c e k n P (x::xs) st ag|LY {n P x xs st g g' aw aJ cE mS ag a ys P'}:P st->(l9 e)[n]?=some g->(l9 e)[n+1]?=some g'->dj d c g.target x st aw->mr d c g.ifs aw true aJ->
  a8 d c g'.iter aJ a cE->Nonempty (iY a ys P')->P' cE->jS d c e k (n+1) P' ys cE mS->jS d c e k n P xs mS ag->jS d c e k n P (x::xs) st ag
theorem yf {e:aq}(h:kX e=true):(∃a b c d,e=.ListComp a b c d)∨∃a b c d f,e=.DictComp a b c d f:=by cases e<;>first|exact .inl ⟨_,_,_,_,rfl⟩|exact .inr ⟨_,_,_,_,_,rfl⟩|exact nB h
theorem GC {e:aq}{n:Nat}{g:oF}(he:kX e=true)(hg:(l9 e)[n]?=some g):g.is_async=0∧ye g.iter=true:=by have:=dI.mp (iR.mp he).2 g<|c8 hg;exact⟨eq_of_beq (iR.mp this).1,(iR.mp this).2⟩
def LZ (e:aq)(n:Nat)(it acc:an)(env:Env):Option oF->Sem Fin
 |some g=>d9 g.iter env>>=λx=>nE g.iter.pos>>=λu=>abq g.iter env x>>=λx=>holding [x] (ud x)>>=λwm=>runOwn (.compStart e (n+1) wm acc env) env>>=λu=>again (.compLoop e n it acc env)|none=>GB e acc env>>=λu=>again (.compLoop e n it acc env)
noncomputable def Vo (gs:List aq)(env:Env):Sem Bool:=forIn gs true λe r=>if r=true then do let ok<-xB e env (d9 e env);pure (ForInStep.yield ok) else pure (ForInStep.yield r)
set_option backward.match.sparseCases true in
theorem aep {e:aq}{t i:aq}{o:Option oF}(he:kX e=true)(hg:(l9 e)[n]?=some ⟨t,i,fs,0⟩)(hn:(l9 e)[n+1]?=o)(ho:∀g∈o,g.is_async=0):Kj e n it acc env=(nE i.pos>>=λx=>l8 it>>=λr=>match r with|none=>pure (.done .next)|some v=>ri t it v>>=λx=>oE t env v>>=λx=>Vo fs env>>=λok=>if ok=true then LZ e n it acc env o else again (.compLoop e n it acc env)):=by
 have key:∀gens,gens[n]?=some ⟨t,i,fs,0⟩->gens[n+1]?=o->l9 e=gens->(∃a c d,e=.ListComp a gens c d)∨(∃a b d f,e=.DictComp a b gens d f)->Kj e n it acc env=(nE i.pos>>=λx=>l8 it>>=λr=>match r with
  |none=>pure (.done .next)|some v=>ri t it v>>=λx=>oE t env v>>=λx=>Vo fs env>>=λok=>
   if ok=true then LZ e n it acc env o else again (.compLoop e n it acc env)):=λgens h1 h2 _ h4=>by
  rcases o with _|⟨t',i',fs',as'⟩
  ·rcases h4 with⟨a,c,d,rfl⟩|⟨a,b,d,f,rfl⟩<;>(unfold Kj;dsimp only;rw[h1,h2];rfl)
  have:=ho _ rfl;subst this;rcases h4 with⟨a,c,d,rfl⟩|⟨a,b,d,f,rfl⟩<;>(unfold Kj;dsimp only;rw[h1,h2];rfl)
 rcases yf he with⟨a,b,c,d,rfl⟩|⟨a,b,c,d,f,rfl⟩
 ·exact key b hg hn rfl (.inl ⟨_,_,_,rfl⟩)
 exact key c hg hn rfl (.inr ⟨_,_,_,_,rfl⟩)
def Ma (A:Around)(R:Kc->az->Prop)(yg:Fin)(s':az):Prop:=match yg with|.done f=>R (.ok f) s'|.again c'=>c'.quiet=true∧gK (aQ X.prog X.w) A c' R s'
theorem GD {A:Around}{s:az}{e:aq}{n:Nat}{it acc:an}{env:Env}{g:oF}{R:Kc->az->Prop}(he:kX e=true)(hg:(l9 e)[n]?=some g)
 (h:be (aQ X.prog X.w) A (l8 it) (λr s₁=>match r with
  |none=>R (.ok .next) s₁
  |some v=>be (aQ X.prog X.w) A (ri g.target it v) (λu yb=>be (aQ X.prog X.w) A (oE g.target env v) (λu aR=>
   be (aQ X.prog X.w) A (forIn g.ifs true λe r=>if r=true then do let ok<-xB e env (d9 e env);pure (ForInStep.yield ok) else pure (ForInStep.yield r)) (λb bu=>if b=true then(match(l9 e)[n+1]? with
    |some g'=>be (aQ X.prog X.w) A (d9 g'.iter env) (λx kq=>be (aQ X.prog X.w) A (ud x) (λwm nM=>gK (aQ X.prog X.w) A (.compStart e (n+1) wm acc env)
     (λr Ga=>∃fl,r=.ok fl∧gK (aQ X.prog X.w) A (.compLoop e n it acc env) R Ga) nM) (λu u=>False) kq) (λu u=>False) bu
    |none=>be (aQ X.prog X.w) A (GB e acc env) (λu kq=>gK (aQ X.prog X.w) A (.compLoop e n it acc env) R kq) (λu u=>False) bu)
    else gK (aQ X.prog X.w) A (.compLoop e n it acc env) R bu) (λu u=>False) aR) (λu u=>False) yb) (λu u=>False) s₁) (λu u=>False) s):
 gK (aQ X.prog X.w) A (.compLoop e n it acc env) R s:=by
 have main:be (aQ X.prog X.w) A (Kj e n it acc env) (Ma A R) (λu u=>False) s:=by
  obtain⟨h0,_⟩:=GC he hg;have tail:∀o bu,(l9 e)[n+1]?=o->(match(generalizing:=false) o with
   |some g'=>be (aQ X.prog X.w) A (d9 g'.iter env) (λx kq=>be (aQ X.prog X.w) A (ud x) (λwm nM=>gK (aQ X.prog X.w) A (.compStart e (n+1) wm acc env)
    (λr Ga=>∃fl,r=.ok fl∧gK (aQ X.prog X.w) A (.compLoop e n it acc env) R Ga) nM) (λu u=>False) kq) (λu u=>False) bu
   |none=>be (aQ X.prog X.w) A (GB e acc env) (λu kq=>gK (aQ X.prog X.w) A (.compLoop e n it acc env) R kq) (λu u=>False) bu)->be (aQ X.prog X.w) A (LZ e n it acc env o) (Ma A R) (λu u=>False) bu
   |none,bu,z,eF=>aB (bC eF (λu kq yh=>bH ⟨rfl,yh⟩) λu u h'=>h')|some g',bu,hn,eF=>aB (bC eF (λx kq yh=>aB (zM (aB (wpAny_of_eq (AD (GC he hn).2 x) (aB (vN (bC yh (λwm nM AE=>
    aB (wpAny_runOwn<|pS AE λr s' ⟨fl,e1,CZ⟩=>by subst e1;exact bH ⟨rfl,CZ⟩)) λu u h'=>h'))))))) λu u h'=>h')
  obtain⟨t,i,fs,as⟩:=g;subst h0;rw[aep he hg rfl λg' hm=>(GC he hm).1];refine aB (zM<|aB<|bC h (λr s₁ c9=>?_) λu u h'=>h')
  match r,c9 with
  |none,c9=>exact bH c9|some v,c9=>
   refine aB (bC c9 (λu yb LV=>aB<|bC LV (λu aR gf=>aB<|bC gf (λb bu eF=>?_) λu u h'=>h') λu u h'=>h') λu u h'=>h')
   match b,eF with
   |true,eF=>exact tail ((l9 e)[n+1]?) bu rfl eF|false,eF=>exact bH ⟨rfl,eF⟩
 apply Kh;have C0:=E6 (k:=λx=>do noteFrame x env;theTreesLotGoes x) (E:=λe s'=>R (.error e) s')<|bC main (λu u x=>x) λu u x=>x.elim;rcases yf he with⟨a,b,c,d,rfl⟩|⟨a,b,c,d,f,rfl⟩
 ·exact C0
 exact C0
theorem Vp {e:aq}(he:kX e=true)(hg:(l9 e)[n]?=some g)(C2:∀Q:an->az->Prop,Q it s->be (aQ X.prog X.w) A (ud it) Q (λu u=>False) s)(h:gK (aQ X.prog X.w) A (.compLoop e n it acc env) R s):gK (aQ X.prog X.w) A (.compStart e n it acc env) R s:=by
 have main:be (aQ X.prog X.w) A (compStart e n it acc env) (Ma A R) (λu u=>False) s:=by
  have Mb:(g.is_async != 0)=false:=by rw[(GC he hg).1];rfl
  unfold compStart;simp [hg,Option.elim,Mb,if_false];refine aB<|abr<|wpAny_ite ?_;split
  ·first
    |exact aB (bH<|bH<|And.intro rfl h)|exact bH<|And.intro rfl h
  first
   |exact aB (sC<|aB<|zM<|aB<|C2 _<|bH<|And.intro rfl h)|(refine aB<|sC ?_;exact aB<|zM<|aB<|C2 _<|bH<|And.intro rfl h)
 apply Kh;have C0:=E6 (k:=λx=>do noteFrame x env;nE theWindowsPlace) (E:=λe s'=>R (.error e) s')<|bC main (λu u x=>x) λu u x=>x.elim;rcases yf he with⟨a,b,c,d,rfl⟩|⟨a,b,c,d,f,rfl⟩
 ·exact C0
 exact C0
end
section
variable {d:Nat}{c:aY}
theorem get_left {w:List ai}{k:Nat}(h:own[k]?=some a):(own++w)[k]?=some a:=(d2 (bV.mp h).1).trans h
inductive GF (bx:List ai)(aT:az)(own:List ai)(ag:List ae)(r:Kc)(s':az):Prop|mk (fl:Flow) (av w:List ai) (e:r=.ok fl) (E:a9 bx aT av s') (S:Sx av ag s') (hw:av=own++w)
theorem GF.on {w:List ai}(h:aO=own++w)(x:GF bx aT aO ag r s'):GF bx aT own ag r s':=by obtain⟨fl,av,w',e,E,S,hw⟩:=x;exact⟨fl,av,w++w',e,E,S,by rw[hw,h,eJ]⟩
theorem aeq {e:aq}{k:Nat}(he:kX e=true):∀{n} {P} {xs} {st ag},jS d c e k n P xs st ag->∀{a} {items} (Sr:iY a items P) {i} {A bx aT own s ia env acc},items.drop i=xs->i<=items.length->(l9 e)[n]?.isSome=true->own[k]?=some acc->rJ Sr d c A env bx aT ia i own st s->gK (aQ X.prog X.w) A (.compLoop e n (.ref ia) (.ref acc) env) (GF bx aT own ag) s:=by intro n P xs st ag h;induction h with|nil hP=>intro a items Sr i A bx aT own s ia env acc hd hi yi nQ I;obtain⟨g,hg⟩:=Kk.mp yi;exact GD he hg (I.jk hd hi hP λs' E S=>⟨_,own,[],rfl,E,S,(dM own).symm⟩)|skip hP hg ha C3 hr ih=>intro a items Sr i A bx aT own s ia env acc hd hi yi nQ I;refine GD he hg<|I.item hd hP ha λaO s₁ yc yd ⟨AF,uD⟩ iZ=>?_;refine bC (C3 A aO s₁ env iZ.q iZ.S iZ.R) (λbb bu ⟨dt,dC,cF,eb⟩=>?_) λu u x=>x;subst eb;obtain⟨Vq,GG⟩:=dC.pre;subst uD;rw[if_neg fL];exact pS (ih Sr yc yd yi (dC.aM.bD _ _<|get_left nQ)<|iZ.go dC cF) λr s' x=>x.on (GG.trans<|eJ ..)|wk hP hg wo ha C3 hem hr ih=>intro a items Sr i A bx aT own s ia env acc hd hi yi nQ I;refine GD he hg<|I.item hd hP ha λaO s₁ yc yd ⟨AF,uD⟩ iZ=>?_;refine bC (C3 A aO s₁ env iZ.q iZ.S iZ.R) (λbb bu ⟨dt,dC,cF,eb⟩=>?_) λu u x=>x;subst eb;subst uD;have wq:=iZ.go dC cF;rw[if_pos rfl,wo];refine bC (hem A dt bu env acc wq.q cF wq.R<|dC.aM.bD _ _<|get_left nQ) (λu aR ⟨aS,bX,bw⟩=>?_) λu u x=>x;obtain⟨Mc,AG⟩:=(dC.trans bX).pre;exact pS (ih Sr yc yd yi ((dC.trans bX).aM.bD _ _<|get_left nQ)<|wq.go bX bw) λr s' x=>x.on (AG.trans<|eJ ..)|LY hP hg wo ha C3 hev hSr hP' AH hr aev aew=>intro a items Sr i A bx aT own s ia env acc hd hi yi nQ I;obtain⟨Md⟩:=hSr;refine GD he hg<|I.item hd hP ha λaO s₁ yc yd ⟨AF,uD⟩ iZ=>?_;refine bC (C3 A aO s₁ env iZ.q iZ.S iZ.R) (λbb bu ⟨dt,dC,cF,eb⟩=>?_) λu u x=>x;subst eb;subst uD;have wq:=iZ.go dC cF;rw[if_pos rfl,wo];refine bC (hev A dt bu env wq.q cF wq.R) (λx aR ⟨aS,bX,bw,di⟩=>?_) λu u x=>x;refine Md.dG I.q.1 bw hP' di λib h' tk lz ik hk Vr=>?_;have hqb:∀p∈X.P,∃o,bu.heap.get? p=some o:=λp hp=>let ⟨ps,e,_⟩:=cF.cU p hp;⟨_,e⟩;apply Vp he wo<|λQ hQ=>Md.qf Vr hQ;refine pS (aev Md rfl (dQ _) (by rw[wo];rfl) ((dC.trans bX).aM.bD _ _<|get_left nQ) ⟨I.q,bX.trans<|a9.more hk,bw.more hk,wq.R.ext bX,hqb,Vr,CW cF bX bw ik,bw.jO ik,bw.mf ik,bw.ut ik⟩) λr kq ⟨fl,qk,z,e4,oU,jQ,v⟩=>⟨fl,e4,?_⟩;obtain⟨Mc,AG⟩:=(dC.trans oU).pre;exact pS (aew Sr yc yd yi ((dC.trans oU).aM.bD _ _<|get_left nQ)<|wq.go oU jQ) λr s' x=>x.on<|AG.trans<|eJ ..
end
section
variable {d:Nat}{c:aY}
structure wr (h:bf)(own av:List ai)(f:Nat->Option Nat):Prop where
 bD:∀k j a,f k=some j->own[k]?=some a->av[j]?=some a
 out:∀a o,h.get? a=some o->FU o->a∉own->a∉av
section
variable {own av:List ai}{h:bf}{f:Nat->Option Nat}
theorem wr.mv (R:wr h own av f):Mv own h av h f:=⟨R.bD,λb o e v hn x=>⟨R.out b o e v hn,e⟩⟩
theorem RelV.bI (R:wr h own av f) c (e:c.bI f=some c')(r:RelV own h c v):RelV av h c' v:=RelV.mv R.mv c c' v e r
theorem aF.bI (R:wr h own av f) xs (e:CV.gn f xs=some ys)(r:aF own h xs vs):aF av h ys vs:=aF.mv R.mv xs ys vs e r
theorem Rep.bI (R:wr h own av f){o:ae}(e:o.bI f=some o')(r:Rep own h o a):Rep av h o' a:=Rep.mv R.mv e r rfl
end
noncomputable def eW (aU:List Nat)(k:Nat):Option Nat:=match aU with
 |[]=>none|x::r=>if x==k then some 0 else(eW r k).map Nat.succ
theorem Me {x k:Nat}:eW (x::r) k=if x==k then some 0 else(eW r k).map Nat.succ:=rfl
theorem GH {aU:List Nat}{k:Nat}:∀{j},eW aU k=some j->aU[j]?=some k:=by
 induction aU with
 |nil=>exact nS|cons x r ih=>
  intro j e;have e:(if x==k then some 0 else(eW r k).map Nat.succ)=some j:=e;by_cases h:(x==k)=true
  ·rw[if_pos h] at e;exact sI (P:=λj=>(x::r)[j]?=some k) e<|congrArg some<|eq_of_beq h
  rw[if_neg h] at e;exact eE (P:=λj=>(x::r)[j]?=some k) e λm hm=>ih hm
theorem aey {aU:List Nat}{k:Nat}(h:k∈aU):eW aU k≠none:=by
 induction aU with
 |nil=>cases h|cons x t ih=>
  show(if x==k then some 0 else(eW t k).map Nat.succ)≠none;by_cases hx:(x==k)=true
  ·rw[if_pos hx];exact λh=>nomatch h
  rw[if_neg hx];rcases pO.mp h with q|q
  ·exact absurd (beq_iff_eq.mpr q.symm) hx
  exact λh0=>ih q<|Option.map_eq_none_iff.mp h0
noncomputable def lA {α β:Type}(f:α->Option β):List α->Option (List β)
 |[]=>some []|x::xs=>(f x).bind λy=>(lA f xs).map (y::·)
section
variable {α β:Type}{f:α->Option β}{xs:List α}
theorem AI:∀{ys},lA f xs=some ys->ys.length=xs.length:=by induction xs with|nil=>exact λe=>sI (P:=λys=>ys.length=0) e rfl|cons x xs ih=>exact λe=>kl e λy u e=>eE (P:=λys=>ys.length=xs.length+1) e λys h=>congrArg Nat.succ<|ih h
theorem Vs:∀{ys} {i:Nat} {y},lA f xs=some ys->ys[i]?=some y->∃x,xs[i]?=some x∧f x=some y:=by
 induction xs with
 |nil=>exact λe=>sI (P:=λys=>ys[_]?=some _->_) e nS|cons x xs ih=>intro ys i y e;refine kl e λz hz e=>eE (P:=λys=>ys[i]?=some y->∃x',(x::xs)[i]?=some x'∧f x'=some y) e λzs Mf h=>?_;cases i with|zero=>obtain rfl:=dE h;exact⟨x,rfl,hz⟩|succ i=>exact ih Mf h
theorem Mg:∀{ys} {i:Nat} {x},lA f xs=some ys->xs[i]?=some x->∃y,ys[i]?=some y∧f x=some y:=by
 induction xs with
 |nil=>exact λu=>nS|cons z xs ih=>intro ys i x e h;refine kl e λw hw e=>eE (P:=λys=>∃y,ys[i]?=some y∧f x=some y) e λzs Mf=>?_;cases i with|zero=>obtain rfl:=dE h;exact⟨w,rfl,hw⟩|succ i=>exact(ih Mf h:∃y,zs[i]?=some y∧f x=some y)
end
def g4 (aU:List Nat)(st:List ae):Option (List ae):=lA (λk=>st[k]?.bind (ae.bI (eW aU))) aU
noncomputable def lB (aU:List Nat)(own:List ai):List ai:=aU.filterMap λk=>own[k]?
theorem Vt {k:Nat} hk:lB (k::r) own=own[k]::lB r own:=by unfold lB;rw[vT,bA hk]
theorem AJ {aU:List Nat}(h:∀k∈aU,k<own.length)(j:Nat):(lB aU own)[j]?=(aU[j]?).bind λk=>own[k]?:=by
 induction aU generalizing j with
 |nil=>rfl|cons k r ih=>have hk:=h k<|.head _;rw[Vt hk];cases j with|zero=>exact(bA hk).symm|succ j=>exact ih (λk hk=>h k<|.tail _ hk) j
theorem C4 {aU:List Nat}(h:a∈lB aU own):a∈own:=by obtain⟨k,_,e⟩:=E7.mp h;exact c8 e
theorem C5 {aU:List Nat}(h:∀k∈aU,k<own.length):(lB aU own).length=aU.length:=by induction aU with|nil=>rfl|cons k r ih=>exact Vt (h k<|.head _)▸congrArg Nat.succ (ih λk hk=>h k<|.tail _ hk)
theorem yj {aU:List Nat}{st ag:List ae}(h:g4 aU st=some ag):∀k∈aU,k<st.length:=λk hk=>by obtain⟨i,hi,e⟩:=pN.mp hk;obtain⟨y,_,h2⟩:=Mg h (by rw[bA hi,e]);exact kl h2 λo ho x=>(bV.mp ho).1
theorem C6 {aU:List Nat}(aZ:∀k∈aU,k<own.length):wr h own (lB aU own) (eW aU):=
 ⟨λk j a e1 e2=>by rw[AJ aZ,GH e1];exact e2,λa o x x hn hm=>hn<|C4 hm⟩
theorem Sx.aU {own:List ai}{st ag:List ae}{s:az}(S:Sx own st s){aU:List Nat}(hn:aU.Nodup)(h:g4 aU st=some ag):Sx (lB aU own) ag s:=by
 have aZ:∀k∈aU,k<own.length:=λk hk=>by rw[S.len];exact yj h k hk
 refine⟨S.bj,by rw[C5 aZ,AI h],?_,λa ha=>S.fresh a<|C4 ha,λj o a e1 e2=>?_,S.cU,S.bare,S.tk,S.ok⟩
 ·rw[lB,List.Nodup,List.pairwise_filterMap];refine aqa ?_ hn;intro k k' ql a ha b hb e;subst e;exact S.ne ha hb ql rfl
 obtain⟨k,e3,e4⟩:=Vs h e1;rw[AJ aZ,e3] at e2;exact kl e4 λo' ho e4=>(S.iV k o' a ho e2).bI (C6 aZ) e4
noncomputable def jT (aU:List Nat)(n:Nat)(j:Nat):Option Nat:=match aU[j]? with
 |some k=>some k|none=>some (n+(j-aU.length))
def uE (aU:List Nat)(st iE:List ae):Option (List ae):=lA (λi=>if i<st.length then match eW aU i with
 |some j=>iE[j]?.bind (ae.bI (jT aU st.length))
 |none=>st[i]?
 else iE[aU.length+(i-st.length)]?.bind (ae.bI (jT aU st.length))) (aK (st.length+(iE.length-aU.length)))
set_option tactic.hygienic true in
theorem aez {own r:List ai}{st:List ae}{s:az}{h:bf}{aU:List Nat}(S:Sx own st s)(aZ:∀k∈aU,k<own.length)(ho:∀a∈own,a∉lB aU own->h.get? a=s.heap.get? a):wr h (lB aU own++r) (own++r) (jT aU own.length):=by
 refine⟨λj k a e1 e2=>?_,λa o e t hn hm=>?_⟩
 ·unfold jT at e1;split at e1
  ·rename_i k' hk;cases (e1);have hj:j<(lB aU own).length:=by rw[C5 aZ];exact(bV.mp hk).1
   rw[d2 hj,AJ aZ,hk] at e2;rwa[d2 (bV.mp<|e2).1]
  rename_i hk;cases (e1);have hj:(lB aU own).length<=j:=C5 aZ▸Rl.mp hk;rw[dT hj,C5 aZ] at e2;rwa[dT<|vH ..,sG]
 rcases f7.mp hm with q|q
 ·rw[ho a q<|λq'=>hn<|EY _ q'] at e;exact S.rC e t q
 exact hn<|Rn _ q
set_option tactic.hygienic true in
theorem Sx.sU {own mV:List ai}{st iE qm ag:List ae}{s s':az}(S:Sx own st s){aU:List Nat}(hn:aU.Nodup)(h:g4 aU st=some iE)(E:a9 (lB aU own) s mV s')(S':Sx mV qm s')(hb:uE aU st qm=some ag):∃r,mV=lB aU own++r∧a9 own s (own++r) s'∧Sx (own++r) ag s'∧wr s'.heap mV (own++r) (jT aU st.length):=by
 have aZ:∀k∈aU,k<own.length:=λk hk=>S.len▸yj h k hk;obtain⟨r,hr⟩:=E.pre;subst hr;have rL:=C5 aZ;have Vu:∀a∈r,s.heap.get? a=none:=λa ha=>by
  rcases E.new a (Rn _ ha) with q|q
  ·exfalso;have:=S'.kj;rw[xz] at this;exact this.2.2 a q a ha rfl
  exact q
 have uC:∀a∈own,a∉lB aU own->s'.heap.get? a=s.heap.get? a:=λa ha hs=>by obtain⟨ob,e⟩:=S.qh ha;rw[E.bj a ob e hs (S.fresh a ha).2,e]
 have E':a9 own s (own++r) s':=⟨⟨r,rfl⟩,λa ha=>by
  rcases f7.mp ha with q|q
  ·exact .inl q
  exact .inr<|Vu a q,λb o e hb hp=>E.bj b o e (λq=>hb<|C4 q) hp,E.cU,E.os⟩
 have R:=aez (r:=r) S aZ uC;rw[S.len] at R;refine⟨r,rfl,E',⟨S'.bj,?_,?_,λa ha=>?_,λi o a e1 e2=>?_,S'.cU,S'.bare,S'.tk,S'.ok⟩,R⟩
 ·have:=AI hb;rw[this,fb,dJ,S.len];have:=S'.len;rw[dJ,rL] at this;lia
 ·rw[xz];exact⟨S.kj,(xz.mp S'.kj).2.1,λx hx y hy e=>S.jO (Vu y hy)<|e▸hx⟩
 ·rcases f7.mp ha with q|q
  ·exact S.fresh a q
  exact S'.fresh a<|Rn _ q
 obtain⟨i',e3,e4⟩:=Vs hb e1;have jl:i'=i:=by obtain⟨h1,h2⟩:=bV.mp e3;simpa using h2.symm
 subst jl;split at e4
 ·rename_i hi;rw[d2<|by rwa[S.len]] at e2;split at e4
  ·rename_i j hj;refine kl e4 λo' gO e4=>Rep.bI R e4<|S'.iV j o' a gO ?_;have Vv:=GH hj;rwa[d2<|rL▸(bV.mp Vv).1,AJ aZ,Vv]
  rename_i hj;have mu:a∉lB aU own:=λhm=>by
   obtain⟨k,hk,e5⟩:=E7.mp hm;have:k=i':=by
    rcases Nat.decEq k i' with q|q
    ·exact absurd rfl (S.ne e5 e2 q)
    exact q
   subst this;exact aey hk hj
  exact (S.iV i' o a e4 e2).aM E'.aM<|uC a (c8 e2) mu
 rename_i hi;rw[dT<|S.len▸o8 hi,S.len] at e2;refine kl e4 λo' gO e4=>Rep.bI R e4<|S'.iV _ o' a gO ?_;rwa[dT<|rL▸pY,rL,sG]
theorem bk.at {f wt:CV}{args wu:List CV}{kw ww:List (Str×CV)}{st iE qm ag:List ae}{v s6:CV} aU (h:bk d wt wu ww iE s6 qm)(hn:aU.Nodup)(hs:g4 aU st=some iE) (hf:f.bI (eW aU)=some wt)(ha:CV.gn (eW aU) args=some wu)(hk:jh (eW aU) kw=some ww)(hb:uE aU st qm=some ag)(hv:s6.bI (jT aU st.length)=some v):bk d f args kw st v ag:=λA own s fv vs ks q S fQ cx di=>by have aZ:∀k∈aU,k<own.length:=λk hk=>S.len▸yj hs k hk;have R:=C6 (h:=s.heap) aZ;refine bC (h A _ s fv vs ks q (S.aU hn hs) (RelV.bI R f hf fQ) (aF.bI R args ha cx)<|cf.mv R.mv hk di) (λx s' ⟨mV,E,S',r⟩=>?_) λu u x=>x;obtain⟨r',e,E',C7,R'⟩:=S.sU hn hs E S' hb;exact⟨_,E',C7,RelV.bI R' s6 hv r⟩
def GI (n:Nat)(aJ:List ae)(nT:CV)(ag:List ae)(v':CV):Prop:=n<=ag.length∧∀aS s,Sx aS aJ s->∃av,(∀i,i<n->av[i]?=aS[i]?)∧(∀a∈av,a∈aS)∧Sx av ag s∧∀x,RelV aS s.heap nT x->RelV av s.heap v' x
theorem yk aU (hn:aU.Nodup)(h:g4 aU aJ=some ag)(hv:nT.bI (eW aU)=some v')(hp:aU.take n=aK n):GI n aJ nT ag v':=by
 refine⟨?_,λaS s S=>?_⟩
 ·rw[AI h];have:=congrArg oG hp;rw[nG,fb] at this;exact SQ this
 have aZ:∀k∈aU,k<aS.length:=λk hk=>by rw[S.len];exact yj h k hk
 refine⟨_,λi hi=>?_,λa=>C4,S.aU hn h,λx r=>RelV.bI (C6 aZ) nT hv r⟩;rw[AJ aZ];have:aU[i]?=some i:=by
  have e:(aU.take n)[i]?=aU[i]?:=by rw[Ro];simp [hi]
  rw[<-e,hp,iS hi]
 rw[this];rfl
theorem GI.ext {n:Nat}{st aJ ag:List ae}{nT v':CV}{own aS:List ai}{s aR:az}(h:GI n aJ nT ag v')(hn:st.length=n)(S:Sx own st s)(E:a9 own s aS aR)(bw:Sx aS aJ aR):∃av,a9 own s av aR∧Sx av ag aR∧(∀a∈av,a∈aS)∧(∀i,i<n->av[i]?=aS[i]?)∧∀x,RelV aS aR.heap nT x->RelV av aR.heap v' x:=by
 obtain⟨hl,h⟩:=h;obtain⟨av,h1,h2,h3,h4⟩:=h aS aR bw;refine⟨av,⟨⟨av.drop n,?_⟩,λa ha=>E.new a<|h2 a ha,E.bj,E.cU,E.os⟩,h3,h2,h1,h4⟩;obtain⟨r,hr⟩:=E.pre;have:av.take n=own:=by
  refine aqb λi=>?_;rw[Ro];split
  ·rename_i hi;rw[h1 i hi,hr,d2<|by rwa[S.len,hn]]
  rename_i hi;exact(B5<|S.len▸hn▸o8 hi).symm
 exact this▸(E5 ..).symm
end
section
variable {d:Nat}{c:aY}
theorem Mh:∀names h i,i<(fy names).length->(pushCells h names).get? (h.objs.size+i)=some {cls:=.type "cell",data:=.cell none}
 |[],h,i,hi=>by simp [fy] at hi|(x,k)::r,h,i,hi=>by
  unfold pushCells;by_cases hk:(k==sD.cell)=true
  ·rw[if_pos hk];have hn:fy ((x,k)::r)=x::fy r:=by simp [fy,hk]
   cases i with|zero=>exact abu r _ _ _ (iy _ rfl)|succ i=>have:=Mh r (h.push {cls:=.type "cell",data:=.cell none}) i (by rw[hn] at hi;simpa using hi);rw[E8] at this;rwa[show h.objs.size+(i+1)=h.objs.size+1+i by exact z9]
  rw[if_neg hk];have hn:fy ((x,k)::r)=fy r:=by simp [fy,hk]
  exact Mh r h i (by rwa[hn] at hi)
noncomputable def nU (scope aeA:d8):d8:=relabel scope { (default:Env) with scope:=aeA}
noncomputable def mW (cells:List (Str×Nat)):List (Str×sD)->List (Str×Nat)->Option (List (Str×Nat))
 |[],cs=>some cs|(x,k)::r,cs=>match k==.free with
   |true=>(cells.lookup x).bind λn=>mW cells r ((x,n)::cs)|false=>mW cells r cs
theorem Mi (hc:gZ own cells env.cells) f (hf:∀name kind cs,f (name,kind) cs=if(kind==sD.free)=true then(cellOf env name>>=λa=>pure (.yield ((name,a)::cs))) else pure (.yield cs)):∀names cs iJ ad,mW cells names cs=some iJ->gZ own cs ad->∃Vw,forIn names ad f=pure Vw∧gZ own iJ Vw
 |[],cs,iJ,ad,h,hr=>by obtain rfl:=dE h;exact⟨ad,rfl,hr⟩|(x,k)::r,cs,iJ,ad,h,hr=>by rw[xH,hf];replace h:(match k==.free with|true=>(cells.lookup x).bind λn=>mW cells r ((x,n)::cs)|false=>mW cells r cs)=some iJ:=h;cases hk:k==sD.free with|true=>rw[hk] at h;refine fE h λn hn h=>?_;obtain⟨a,h1,h2⟩:=hc.lookup hn;rw[if_pos rfl,show cellOf env x=pure a by unfold cellOf;rw[h1],pure_bind,pure_bind];exact Mi hc f hf r _ iJ _ h ⟨a,ad,rfl,h2,hr⟩|false=>rw[hk] at h;rw[if_neg fL,pure_bind];exact Mi hc f hf r _ iJ _ h hr
theorem Vx {cs:List (Str×Nat)}(hc:gZ own cells env.cells)(h:mW cells scope.names []=some cs):∃cl,closureFor scope env=pure cl∧gZ own cs cl:=by
 obtain⟨ad,h1,h2⟩:=Mi hc (λx cs=>match x with
  |(name,kind)=>if(kind==sD.free)=true then(cellOf env name>>=λa=>pure<|.yield<|(name,a)::cs) else pure (.yield cs)) (λu u u=>rfl) scope.names [] cs [] h rfl
 refine⟨ad,?_,h2⟩;show(forIn scope.names [] _>>=λcs=>pure cs)=_;rw[show(forIn scope.names [] _)=pure ad from h1,pure_bind]
def cI (c:aY)(scope:d8)(n:Nat)(cl:List (Str×Nat)):aY:={scope:=nU scope c.scope,locals:=n,cells:=je (n+1) scope.names cl,tab:=c.tab}
theorem aeC {A:Around}{own:List ai}{st:List ae}{s:az}{env:Env}{scope:d8}{cl:List (Str×Nat)}{ad:List (Str×ai)}{Q:Env->az->Prop}{E:an->az->Prop} (S:Sx own st s)(R:dK own c env)(hk:scope.kind=.function)(eG:gZ own cl ad) (hQ:∀s7 av s',a9 own s av s'->Sx av (st++dU scope []) s'->av[st.length]?=some s7.locals->dK av (cI c scope st.length cl) {s7 with scope:=relabel scope env}->Q s7 s'):be (aQ X.prog X.w) A (abv scope env.globals ad [] env.qual none .none (some env)) Q E s:=by
 simp only [abv,Option.isSome_some];refine aB<|wpAny_alloc ?_;refine aB<|wpAny_layCells _ (λname kind cells=>by cases qo:kind==sD.cell<;>simp [qo]) _ _ _ _ ?_;rw[List.forIn_nil];refine aB<|bH<|bH ?_;let L:=s.heap.objs.size;let h1:=s.heap.push {cls:=.type "dict",data:=.dict #[]};have bn:h1.objs.size=L+1:=E8 ..;have iA:∀a,L<=a->s.heap.get? a=none:=λa h=>iI h;have eV:∀b o,s.heap.get? b=some o->(pushCells h1 scope.names).get? b=some o:=λb o e=>abu _ _ b o<|fT _ e;let as:=L::Az (L+1) scope.names;have bJ:as.length=(dU scope []).length:=by simp [as,Az,dU]
 have Vy:∀i,i<(fy scope.names).length->as[1+i]?=some (L+1+i):=λi hi=>by rw[zR 1 i,re];simp [Az,hi]
 obtain⟨S',E',g⟩:=S.Gq eV (λa ha=>by
  rcases pO.mp ha with e|ha
  ·exact iA _<|ll e.symm
  ·obtain⟨i,hi,e⟩:=cu.mp ha;exact e▸iA _ (fC (ke L)<|vH (L+1) i)) (by
  refine zJ.mpr ⟨λha=>?_,?_⟩
  ·obtain⟨i,hi,e⟩:=cu.mp ha;exact absurd e.symm<|pQ<|sF (rg L)<|vH (L+1) i
  ·exact Rf _ (λa b oQ e=>oQ<|Rg e) xF) bJ (λg i o a e1 e2=>by
  cases i with
  |zero=>obtain rfl:=dE e1;obtain rfl:=dE e2;exact⟨_,(bf.Ns.new s.heap<|.type "dict").keeps<|abu _ _,λy=>.inr rfl⟩|succ i=>
   have oR:((fy scope.names).map λy=>ae.cell<|(LO scope []).lookup y)[i]?=some o:=by simpa [dU] using e1
   rw[dN] at oR;cases hy:(fy scope.names)[i]? with
   |none=>rw[hy] at oR;exact nS oR|some y=>rw[hy] at oR;obtain rfl:=dE oR;have hi:=(bV.mp hy).1;have e3:=Vy i hi;rw[zR 1 i] at e3;rw[e3] at e2;obtain rfl:=dE e2;have:=Mh scope.names h1 i hi;rw[bn] at this;exact⟨none,⟨_,this,rfl⟩,rfl⟩)
 refine hQ _ _ _ E' S' (by rw[<-S.len,dT<|aG _,fk];rfl) ⟨(show relabel scope env=nU scope c.scope from by unfold nU relabel;simp only [Env.kindOf,R.scope];rfl),hk,?_,?_,R.globals,R.builtins,R.tab⟩
 ·show(own++as)[st.length]?=some L;rw[<-S.len,dT<|aG _,fk];rfl
 show gZ _ (je (st.length+1) scope.names cl) (je h1.objs.size scope.names ad);rw[bn];refine Gp scope.names _ _ _ _ (eG.aM g) λi hi=>?_;rw[<-S.len,show own.length+1+i=own.length+(1+i) by exact SO,dT (by exact pY),sG];exact Vy i hi
noncomputable def aeD:aq->Option (d8×Pos)
 |.ListComp x u s p=>some (s,p)|.DictComp x u o s p=>some (s,p)|_=>none
noncomputable def Mj:aq->ae
 |.ListComp ..=>.list []|_=>.map []
noncomputable def GJ:aq->Sem an
 |.ListComp ..=>newList []|_=>newDict
def Mk (n f:Nat)(aJ:List ae)(nT:CV)(ag:List ae)(v':CV):Prop:=n<=ag.length∧∀aS s,Sx aS aJ s->∃av,(∀i,i<n->av[i]?=aS[i]?)∧(∀a∈av,a∈aS)∧(∀a,aS[f]?=some a->a∉av)∧Sx av ag s∧∀x,RelV aS s.heap nT x->RelV av s.heap v' x
theorem Ml aU (hn:aU.Nodup)(h:g4 aU aJ=some ag)(hv:nT.bI (eW aU)=some v')(hp:aU.take n=aK n)(hf:f∉aU):Mk n f aJ nT ag v':=by
 refine⟨?_,λaS s S=>?_⟩
 ·rw[AI h];have:=congrArg oG hp;rw[nG,fb] at this;exact SQ this
 have aZ:∀k∈aU,k<aS.length:=λk hk=>S.len▸yj h k hk;refine⟨_,λi hi=>?_,λa=>C4,λa ha hm=>?_,S.aU hn h,λx r=>RelV.bI (C6 aZ) nT hv r⟩
 ·rw[AJ aZ];have:aU[i]?=some i:=by
   have e:(aU.take n)[i]?=aU[i]?:=by rw[Ro];simp [hi]
   rw[<-e,hp,iS hi]
  rw[this];rfl
 obtain⟨k,hk,e⟩:=E7.mp hm;rcases Nat.decEq k f with q|q
 ·exact absurd rfl (S.ne e ha q)
 exact hf<|q▸hk
structure uF (d:Nat)(c:aY)(e:aq)(st:List ae)(v':CV)(ag:List ae)(scope:d8)(p:Pos)(g:oF)(gs:List oF)(cl:List (Str×Nat))(a:CV)(aw aJ:List ae)(items:List CV)(P:List ae->Prop):Prop where
 sc:aeD e=some (scope,p)
 cls:l9 e=g::gs
 qp:kX e=true
 kind:scope.kind = .function
 names:(scope.names.all λx=>x.2 != .local||scope.names.lookup x.1 == some .local)=true
 d3:mW c.cells scope.names []=some cl
 iter:a8 d c g.iter st a aw
 src:Nonempty (iY a items P)
 GK:P aw
 run:jS d (cI c scope (aw.length+1) cl) e aw.length 0 P items (aw++[Mj e]++dU scope []) aJ
 fr:∃vars,aJ[aw.length+1]?=some (.frame vars)
 qr:Mk st.length (aw.length+1) aJ (.ab aw.length) ag v'
theorem Vz {A:Around}{own:List ai}{s:az}{env:Env}{e:aq}{st ag:List ae}{v':CV}{scope:d8}{p:Pos}{g:oF}{gs:List oF}{cl:List (Str×Nat)}{a:CV}{aw aJ:List ae}{items:List CV}{P:List ae->Prop} (J:uF d c e st v' ag scope p g gs cl a aw aJ items P)(q:Rm d A)(S:Sx own st s)(R:dK own c env)(Mm:Option (an->Sem Unit))(Q:an->az->Prop)(pos:Pos) (hQ:∀av s' acc,a9 own s av s'->Sx av ag s'->RelV av s'.heap v' acc->match Mm with|none=>∀h' tk,(∃C,f6 C s'.heap h'∧Sx av ag {s' with heap:=h',toks:=tk}∧a9 own s av {s' with heap:=h',toks:=tk}∧RelV av h' v' acc)->Q acc {s' with heap:=h',toks:=tk}|some u=>∀C m,s'.heap.Ns C m->C∉av->C∉X.P->X.H.get? C=none->s.heap.get? C=none->be (aQ X.prog X.w) A (u acc) (λz eP=>∃m,eP.heap.Ns C m∧∀h',sJ C eP.heap h'->Q .none {eP with heap:=h'}) (λz z=>False) s'):be (aQ X.prog X.w) A (B6 e scope env pos (GJ e) false (d9 g.iter env) Mm) Q (λz z=>False) s:=by
 obtain⟨ad,AK,eG⟩:=Vx R.cells J.d3;obtain⟨Sr⟩:=J.src;have mu:ye g.iter=true:=by have:=J.qp;unfold kX at this;rw[bz] at this;have:=dI.mp this.2 g<|J.cls▸.head _;rw[bz] at this;exact this.2
 refine wpAny_comprehension_free J.cls (AD mu) AK J.kind (λx hx hl=>?_) ?_
 ·have:=dI.mp J.names x hx;rw[hl] at this;simpa using this
 refine bC (J.iter A own s env q S R) (λx s₁ ⟨aO,bK,bq,cx⟩=>?_) λz z x=>x;refine Sr.dG q.1 bq J.GK cx λia h' tk lz ik hk hI=>?_;have bw:=bq.more hk;have VA:=bq.jO ik;have Mn:=bq.mf ik;obtain⟨oi,mi,Mp,_⟩:=Sr.ab hI;have iA:be (aQ X.prog X.w) A (GJ e) (λacc bu=>∃dt AL,acc=.ref AL∧a9 aO {s₁ with heap:=h',toks:=tk} dt bu∧Sx dt (aw++[Mj e]) bu∧dt[aw.length]?=some AL) (λz z=>False) {s₁ with heap:=h',toks:=tk}:=by
  have ml:∀ob,∀b o,h'.get? b=some o->(h'.push ob).get? b=some o:=λob b o e=>fT _ e;have iK:h'.get? h'.objs.size=none:=iI<|aG _;have bD:(aO++[h'.objs.size])[aw.length]?=some h'.objs.size:=by rw[<-bq.len,dT<|aG _,fk];rfl
  rcases yf J.qp with⟨a',b',c',d',rfl⟩|⟨a',b',c',d',f',rfl⟩
  ·exact abw ⟨aO++[h'.objs.size],h'.objs.size,rfl,a9.push (ml _) iK,bw.push (ml _) iK λg=>⟨[],_,iy _ rfl,rfl⟩,bD⟩
  show be (aQ X.prog X.w) A (newObj (.type "dict")<|.dict #[]) _ _ _;refine vQ ?_ (by size_fits);exact⟨aO++[h'.objs.size],h'.objs.size,rfl,a9.push (ml _) iK,bw.push (ml _) iK λg=>(by obtain⟨o,ho,hd⟩:=Rp.mp<|bf.DictOf.new (knd:=strKind X.prog X.w) h';exact⟨[],o,ho,hd,rfl⟩),bD⟩
 refine bC iA (λacc bu ⟨dt,AL,ea,dC,cF,eF⟩=>?_) λz z x=>x;subst ea;have Mq:=(bK.trans<|a9.more (t:=tk) hk).trans dC;have VB:=dC.bj ia oi Mp VA Mn;have VC:=dC.LX VA Mp;refine aeC cF ((R.ext bK).ext (a9.more (t:=tk) hk) |>.ext dC) J.kind (eG.aM Mq.aM) λs7 qk kq oU jQ mT VD=>?_;have VE:(aw++[Mj e]).length=aw.length+1:=by simp
 rw[VE] at mT VD;have VF:=Sr.uC hI (dC.trans oU).aM<|(oU.bj ia oi VB VC Mn).trans Mp.symm;have VG:(l9 e)[0]?=some g:=by rw[J.cls];rfl
 have hq:∀p∈X.P,∃o,s.heap.get? p=some o:=λp hp=>let ⟨ps,e,_⟩:=S.cU p hp;⟨_,e⟩;apply Vp J.qp VG<|λQ hQ=>Sr.qf VF hQ;refine pS (aeq J.qp J.run Sr rfl (dQ _) (by rw[VG];rfl) (oU.aM.bD _ _ eF) ⟨q,Mq.trans oU,jQ,VD,hq,VF,CW S bK bq ik,oU.LX VC VB,Mn,bq.ut ik⟩) λr nM ⟨fl,x0,arb,er,yl,nR,VH⟩=>?_;subst er;obtain⟨bJ,aeI⟩:=J.qr;obtain⟨av,Mr,wx,C8,S',hv⟩:=aeI x0 nM nR;have VI:a9 own s av nM:=by
  refine⟨⟨av.drop st.length,?_⟩,λa ha=>yl.new a<|wx a ha,yl.bj,yl.cU,yl.os⟩;obtain⟨r,hr⟩:=yl.pre;have:av.take st.length=own:=by
   refine aqb λi=>?_;rw[Ro];split
   ·rename_i hi;rw[Mr i hi,hr,d2<|S.len▸hi]
   rename_i hi;exact(B5<|S.len▸o8 hi).symm
  exact this▸(E5 ..).symm
 have hC:x0[aw.length+1]?=some s7.locals:=by rwa[VH,d2 (bV.mp mT).1]
 have du:x0[aw.length]?=some AL:=by have:=oU.aM.bD _ _ eF;rwa[VH,d2 (bV.mp this).1]
 have VJ:=c8 hC;have VK:=C8 _ hC;have VL:=(nR.fresh _ VJ).2;have VM:=(nR.fresh _ VJ).1;have VN:s.heap.get? s7.locals=none:=by
  rcases oU.new _ (c8 mT) with h|h
  ·exfalso;have hh:=jQ.kj;obtain⟨w,hw⟩:=oU.pre;obtain⟨i,hi,e⟩:=pN.mp h;have jl:i<aw.length+1:=by rwa[cF.len,VE] at hi
   exact jQ.ne (by rw[hw,d2 hi,bA hi,e]) mT (by exact SH jl) rfl
  exact CW S Mq cF h
 obtain⟨vars,C9⟩:=J.fr;have VO:=nR.iV _ _ _ C9 hC;have ym:∀o,nM.heap.get? s7.locals=some o->¬eO o:=λo e=>VO.rC e;obtain⟨m,hm,_⟩:=VO;have VP:=hv _ ⟨AL,du,rfl⟩;have key:=hQ av nM _ VI S' VP;cases Mm with|none=>exact⟨m,hm,λVQ GL=>key VQ nM.toks ⟨_,GL.extBut,S'.iW VK VL VM ym GL.extBut,VI.iW VN hq GL.extBut,VP.aM<|eD.iW ym GL.extBut⟩⟩|some u=>exact key s7.locals m hm VK VL VM VN
end
section
variable {d:Nat}{c:aY}
section
variable {e:aq}{st ag:List ae}{v':CV}{scope:d8}{p:Pos}{g:oF}{gs:List oF}{cl:List (Str×Nat)}{a:CV}{aw aJ:List ae}{items:List CV}{P:List ae->Prop}
theorem uF.aeJ (J:uF d c e st v' ag scope p g gs cl a aw aJ items P) env:∃pos,d9 e env=B6 e scope env pos (GJ e) false (d9 g.iter env) none:=by
 have hg:(g.is_async != 0)=false:=by have:=J.qp;unfold kX at this;rw[bz] at this;have:=dI.mp this.2 g<|J.cls▸.head _;rw[bz] at this;rw[bne,this.1];rfl
 have hc:=J.cls;have hs:=J.sc;rcases yf J.qp with⟨a',b',c',d',rfl⟩|⟨a',b',c',d',f',rfl⟩
 ·subst hc;cases hs;obtain⟨t,i,fs,as⟩:=g;refine⟨i.pos,?_⟩;show B6 _ _ _ _ _ (as != 0) _ _=_;rw[show(as != 0)=false from hg];rfl
 subst hc;cases hs;obtain⟨t,i,fs,as⟩:=g;refine⟨i.pos,?_⟩;show B6 _ _ _ _ _ (as != 0) _ _=_;rw[show(as != 0)=false from hg];rfl
theorem uF.aeK (J:uF d c e st v' ag scope p g gs cl a aw aJ items P) env  u:∃pos,evalThenUse e env u=(B6 e scope env pos (GJ e) false (d9 g.iter env) (some u)>>=λx=>pure ()):=by
 have hg:(g.is_async != 0)=false:=by have:=J.qp;unfold kX at this;rw[bz] at this;have:=dI.mp this.2 g<|J.cls▸.head _;rw[bz] at this;rw[bne,this.1];rfl
 have hc:=J.cls;have hs:=J.sc;rcases yf J.qp with⟨a',b',c',d',rfl⟩|⟨a',b',c',d',f',rfl⟩
 ·subst hc;cases hs;obtain⟨t,i,fs,as⟩:=g;refine⟨i.pos,?_⟩;show(B6 _ _ _ _ _ (as != 0) _ _>>=_)=_;rw[show(as != 0)=false from hg];rfl
 subst hc;cases hs;obtain⟨t,i,fs,as⟩:=g;refine⟨i.pos,?_⟩;show(B6 _ _ _ _ _ (as != 0) _ _>>=_)=_;rw[show(as != 0)=false from hg];rfl
theorem GN (J:uF d c e st v' ag scope p g gs cl a aw aJ items P):a8 d c e st v' ag:=λA own s env q S R=>by obtain⟨pos,h⟩:=J.aeJ env;rw[h];exact Vz J q S R none _ pos λav s' acc E S' r h' tk ⟨C,x,C7,E'',r''⟩=>⟨av,E'',C7,r''⟩
theorem VR (J:uF d c e st v' ag scope p g gs cl a aw aJ items P):lx d c e st v' ag:=λx px pos LN hw A own s env q S R=>by
 have hb:∃b,zQ e (some<|.Name x px) pos.line env=pure b:=by have hs:=J.sc;rcases yf J.qp with⟨a',b',c',d',rfl⟩|⟨a',b',c',d',f',rfl⟩<;>exact⟨_,rfl⟩
 obtain⟨b,hb⟩:=hb;cases b with
 |true=>
  rw[exec_Assign_Name_used _ _ _ _ hb];apply Tr.eh;obtain⟨pp,h⟩:=J.aeK env<|oE (.Name x px) env;rw[h];refine aB<|aB<|Vz J q S R (some<|oE (.Name x px) env) _ pp λav s' acc E S' r=>?_;intro C m hm hC hP hH h0;refine bC ((wg hw) A av s' env acc q S' (R.ext E) r) (λu eP ⟨dt,dC,cF⟩=>?_) λu u x=>x;have hC3:C∉dt:=λC'=>by
   rcases dC.new C C' with h|h
   ·exact hC h
   obtain⟨o,_,_,ho,_⟩:=hm;rw[h] at ho;exact nS ho
  have mu:=hm.at' λo e=>dC.bj C o e hC hP;have ym:∀o,eP.heap.get? C=some o->¬eO o:=λo e=>by obtain⟨o',es,ep,ho,hd,_⟩:=mu;rw[e] at ho;obtain rfl:=dE ho;exact FV hd λu=>rfl
  refine⟨m,mu,λh' iD=>bH<|bH ⟨dt,?_,⟨cF.iW hC3 hP hH ym iD.extBut,rfl⟩⟩⟩;have hq:∀p∈X.P,∃o,s.heap.get? p=some o:=λp hp=>let ⟨ps,e,_⟩:=S.cU p hp;⟨_,e⟩;exact(E.trans dC).iW h0 hq iD.extBut
 |false=>
  have e1:exec (.Assign [.Name x px] e pos) env=(do
   nE pos
   if<-zQ e (some<|.Name x px) pos.line env then
    evalThenUse e env (oE (.Name x px) env)
    return .next
   let v<-d9 e env
   nE px
   bindName env x v
   pure .next):=rfl
  rw[e1,hb];apply Tr.eh;rw[pure_bind,if_neg fL];exact(GN J A own s env q S R).bind λaO y s₁ bF ⟨bq,cx⟩=>Tr.eh<|Tr.bind (F5 bq (R.ext bF) hw cx λs' u S'=>S') λaS u aR cY bw=>Tr.pure ⟨bw,rfl⟩
end
end
section
variable {d:Nat}{c:aY}
theorem gP {id:String}{st:List ae}:oM (.bi id) st:=λown s x S r=>by subst r;exact⟨_,Rq rfl⟩
theorem yn {n:String}{st:List ae}:oM (.ty n) st:=λown s x S r=>by subst r;exact⟨_,Rq rfl⟩
theorem Ms {h:bf}{l:ai}{vs:Array an}{n:Nat}{f:Array an->Array an}(ho:h.get? l=some {cls:=.type "list",data:=.seq vs n}):∃n',(h.update l (f8 f)).get? l=some {cls:=.type "list",data:=.seq (f vs) n'}:=by obtain⟨n',e⟩:=Obj.data_mapSeq (o:={cls:=.type "list",data:=.seq vs n}) rfl f;refine⟨n',?_⟩;rw[E9 _ ho<|Obj.isFreed_of_seq e];simp [f8] at e ⊢;exact e
section
variable {own:List ai}{s:az}{st:List ae}{k:Nat}{xs:List CV}
inductive LAt (own:List ai)(s:az)(k:Nat)(xs:List CV)(v:an):Prop|mk (a:ai) (vs:List an) (n:Nat) (e:v=.ref a) (ha:own[k]?=some a) (ho:s.heap.get? a=some {cls:=.type "list",data:=.seq vs.toArray n}) (hr:aF own s.heap xs vs) (hl:xs.length=vs.length)
theorem Sx.kY (S:Sx own st s)(hk:st[k]?=some (.list xs))(r:RelV own s.heap (.ab k) v):LAt own s k xs v:=by obtain⟨a,ha,e⟩:=r;obtain⟨a',b8,vs,n,ho,hr⟩:=S.bD hk;obtain rfl:=dE<|ha.symm.trans b8;exact⟨a,vs,n,e,ha,ho,hr,aF.length hr⟩
variable {id:String}{jU oV AM v:CV}{ag:List ae}
variable {f:CV}{fv:an}
theorem VS (hf:∀own h y,RelV own h f y->y=fv)(h:∀A own s y,Rm d A->Sx own st s->RelV own s.heap jU y->Tr A own s (call fv [y] []) (PV ag v)):bk d f [jU] [] st v ag:=λA own s g vs ks q S fQ cx di=>by cases hf _ _ _ fQ;subst di;obtain⟨y,_,rfl,hy,jD⟩:=cx;subst jD;exact h A own s y q S hy
theorem VT (hf:∀own h y,RelV own h f y->y=fv)(h:∀A own s y z,Rm d A->Sx own st s->RelV own s.heap jU y->RelV own s.heap oV z->Tr A own s (call fv [y,z] []) (PV ag v)):bk d f [jU,oV] [] st v ag:=λA own s g vs ks q S fQ cx di=>by cases hf _ _ _ fQ;subst di;obtain⟨y,_,rfl,hy,z,_,rfl,hz,jD⟩:=cx;subst jD;exact h A own s y z q S hy hz
theorem VU (hf:∀own h y,RelV own h f y->y=fv)(h:∀A own s y z w,Rm d A->Sx own st s->RelV own s.heap jU y->RelV own s.heap oV z->RelV own s.heap AM w->Tr A own s (call fv [y,z,w] []) (PV ag v)):bk d f [jU,oV,AM] [] st v ag:=λA own s g vs ks q S fQ cx di=>by cases hf _ _ _ fQ;subst di;obtain⟨y,_,rfl,hy,z,_,rfl,hz,w,_,rfl,hw,jD⟩:=cx;subst jD;exact h A own s y z w q S hy hz hw
theorem wy (h:∀A own s y,Rm d A->Sx own st s->RelV own s.heap jU y->Tr A own s (call (.builtin id) [y] []) (PV ag v)):bk d (.bi id) [jU] [] st v ag:=VS (λx x x r=>r) h
theorem Da (h:∀A own s y,Rm d A->Sx own st s->RelV own s.heap jU y->Tr A own s (call (.type id) [y] []) (PV ag v)):bk d (.ty id) [jU] [] st v ag:=VS (λx x x r=>r) h
theorem uG (h:∀A own s y z,Rm d A->Sx own st s->RelV own s.heap jU y->RelV own s.heap oV z->Tr A own s (call (.builtin id) [y,z] []) (PV ag v)):bk d (.bi id) [jU,oV] [] st v ag:=VT (λx x x r=>r) h
theorem aeP (h:∀A own s y z,Rm d A->Sx own st s->RelV own s.heap jU y->RelV own s.heap oV z->Tr A own s (call (.type id) [y,z] []) (PV ag v)):bk d (.ty id) [jU,oV] [] st v ag:=VT (λx x x r=>r) h
theorem aeQ (h:∀A own s y z w,Rm d A->Sx own st s->RelV own s.heap jU y->RelV own s.heap oV z->RelV own s.heap AM w->Tr A own s (call (.builtin id) [y,z,w] []) (PV ag v)):bk d (.bi id) [jU,oV,AM] [] st v ag:=VU (λx x x r=>r) h
theorem aeR (h:∀A own s y z w,Rm d A->Sx own st s->RelV own s.heap jU y->RelV own s.heap oV z->RelV own s.heap AM w->Tr A own s (call (.type id) [y,z,w] []) (PV ag v)):bk d (.ty id) [jU,oV,AM] [] st v ag:=VU (λx x x r=>r) h
theorem Sx.AN (S:Sx own st s){a:ai}{vs:List an}{n:Nat}{f:Array an->Array an}{ys:List CV}{t:Tok}(hi:own[k]?=some a)(ho:s.heap.get? a=some {cls:=.type "list",data:=.seq vs.toArray n}) (hr:∀av h',aF av h' xs vs->eD own s.heap av h'->aF av h' ys (f vs.toArray).toList)(hv:aF own s.heap xs vs)(ht:t≠0:=by first|exact ka _|assumption|exact Sx.tk (by assumption)):a9 own s own {s with heap:=s.heap.update a (f8 f),toks:=t}∧Sx own (st.set k (.list ys)) {s with heap:=s.heap.update a (f8 f),toks:=t}:=by have hs:f6 a s.heap (s.heap.update a<|f8 f):=(rj ..).extBut;obtain⟨n',e⟩:=Ms ho;refine⟨a9.set S hi hs,S.set hi hs λg=>⟨(f vs.toArray).toList,n',?_,hr _ _ (aF.aM g _ hv) g⟩⟩;rwa[aqc]
theorem yo (slot:Slot "list" name id)(hty:typeOf (.builtin id)=pure (.type "method_descriptor"))(hk:st[k]?=some (.list xs)):gM d name (.ab k) st (.bi id) [.ab k]:=λA own s x pl q S r=>by obtain⟨a,vs,n,rfl,ha,ho,hr,_⟩:=S.kY hk r;refine getMethod_list_of slot hty ⟨_,ho,rfl,n,rfl⟩ ⟨_,ho,rfl⟩ ⟨own,.refl,S,rfl,_,_,rfl,⟨a,ha,rfl⟩,rfl⟩
theorem mX (hk:st[k]?=some (.list xs))(bn:xs.length<cX):bk d (.bi "list.append") [.ab k,v] [] st .none (st.set k (.list (xs++[v]))):=uG λA own s b y q S hb hy=>by obtain⟨a,vs,n,rfl,ha,ho,hr,hl⟩:=S.kY hk hb;rw[hl] at bn;refine vU PySem.F.slot_list_append ⟨_,ho,rfl⟩ PySem.F.entry_list_append (PySem.F.args_list_append_2 _ _) (PySem.AutoListH.list_append_list_val_0 a vs.toArray n y<|abx<|pT bn) ⟨ho,?_⟩;obtain⟨E,S'⟩:=S.AN (f:=λx=>x.push y) (ys:=xs++[v]) ha ho (λav h' fX g=>by rw[aqd];exact aF.append fX ⟨y,[],rfl,hy.aM g,rfl⟩) hr;exact⟨own,E,S',rfl⟩
theorem GO {pos:Pos}(h:a8 d c elt st v aw)(hk:aw[k]?=some (.list xs))(bn:xs.length<cX):sZ d c (.ListComp elt gens sc pos) k st (aw.set k (.list (xs++[v]))):=λA own s env a q S R nQ=>by refine(h A own s env q S R).bind λaO x s₁ bF ⟨bq,cx⟩=>?_;exact Tr.bind (mX hk bn A aO s₁ _ [.ref a,x] [] q bq rfl ⟨_,_,rfl,⟨a,bF.aM.bD _ _ nQ,rfl⟩,_,_,rfl,cx,rfl⟩ rfl) λaS y aR cY ⟨bw,u⟩=>Tr.pure bw
theorem Mt {i:Int}{n k:Nat}(e:(if i<0 then i+n else i)=(k:Int))(h:k<n):rl i n=some k:=by unfold rl;rw[e];show(if(decide ((0:Int)<=k)&&decide ((k:Int)<n))=true then some (Int.toNat k) else none)=_;rw[decide_eq_true<|mK k,decide_eq_true<|xt.mpr h];rfl
theorem rM {i:Nat}(h:i<n):rl (i:Int) n=some i:=Mt (if_neg<|sB.mpr<|mK i) h
theorem aeT (h:0<n):rl (-1:Int) n=some (n-1):=by cases n with|zero=>exact absurd h (J' 0)|succ n=>exact Mt (by rw[if_pos (by decide),Rr];exact aby n 1)<|rg n
theorem VV {i:Int}{k:Nat}(h:rl i n=some k):k<n:=by
 have g:∀j:Int,(if(decide (0<=j)&&decide (j<n))=true then some (Int.toNat j) else none)=some k->k<n:=λj h=>by cases e:decide (0<=j)&&decide (j<n) with|false=>rw[e] at h;exact nS h|true=>have q:=(bz _ _).mp e;rw[e] at h;exact dE h▸(Int.toNat_lt<|of_decide_eq_true q.1).mpr (of_decide_eq_true q.2)
 exact g _ h
theorem VW {i:Int}(h:-(2^63:Int)<=i∧i<2^63):¬((!abz i)=true):=by unfold abz;rw[decide_eq_true h.1,decide_eq_true h.2];exact fL
theorem VX {items:Array an}{k:Nat}{x:an}(hx:items[k]?=some x):¬(items.isEmpty=true):=λhe=>by rw[Array.isEmpty_iff] at he;subst he;simp at hx
theorem VY {items:Array an}{k:Nat}(h:k<items.size)(bn:items.size<=cX):(items.eraseIdxIfInBounds k).size<=cX+1:=by rw[aqe,dif_pos h,Array.size_eraseIdx];exact fC (lm _ _)<|Fa bn
theorem aeU l (items:Array an) n  i  t  k  x (hi:(-(2^63:Int)<=i∧i<2^63))(hk:rl i items.size=some k)(hx:items[k]?=some x)(bn:items.size<=cX):Meets (Builtin.«list.pop» ⟨[.ref l,.int i t],[]⟩) (λu R s=>s.heap.get? l=some {cls:=.type "list",data:=.seq items n}∧R (.ok (.ret x)) {s with heap:=s.heap.update l (f8 (·.eraseIdxIfInBounds k)),toks:=s.toks}):=
 .of_wp λprog w A R s h=>by
  obtain⟨hp,g,d,tk,os⟩:=s;obtain⟨hl,h⟩:=h;have hf:=VW hi;have he:=VX hx
  wp_walk using (Kl hl rfl);rw[hk];simp [Option.bind_some,hx,Km]
  wp_walk using (Kl hl rfl (hz:=bn) (_hz':=VY (VV hk) bn));exact⟨_,rfl,h⟩
theorem aeV l (items:Array an) n  k  x (hk:rl (-1) items.size=some k)(hx:items[k]?=some x)(bn:items.size<=cX):Meets (Builtin.«list.pop» ⟨[.ref l],[]⟩) (λu R s=>s.heap.get? l=some {cls:=.type "list",data:=.seq items n}∧R (.ok (.ret x)) {s with heap:=s.heap.update l (f8 (·.eraseIdxIfInBounds k)),toks:=s.toks}):=
 .of_wp λprog w A R s h=>by
  obtain⟨hp,g,d,tk,os⟩:=s;obtain⟨hl,h⟩:=h;have hf:¬((!abz (-1))=true):=by decide
  have he:=VX hx
  wp_walk using (Kl hl rfl);rw[hk];simp [Option.bind_some,hx,Km]
  wp_walk using (Kl hl rfl (hz:=bn) (_hz':=VY (VV hk) bn));exact⟨_,rfl,h⟩
theorem aF.VZ:∀{xs} {vs} j,aF own h xs vs->aF own h (xs.eraseIdx j) (vs.eraseIdx j)
 |[],u,o,e=>by subst e;rfl|x::xs,u,0,⟨v,r,e,o,hr⟩=>by subst e;exact hr|x::xs,u,j+1,⟨v,r,e,hv,hr⟩=>by subst e;exact⟨v,_,rfl,hv,aF.VZ j hr⟩
theorem aF.take:∀{xs} {vs} j,aF own h xs vs->aF own h (xs.take j) (vs.take j)
 |[],u,o,e=>by subst e;rw[abA,abA];rfl|x::xs,u,0,⟨v,r,e,o,hr⟩=>by subst e;rfl|x::xs,u,j+1,⟨v,r,e,hv,hr⟩=>by subst e;exact⟨v,_,rfl,hv,aF.take j hr⟩
theorem aF.V0:∀{xs} {vs} j,aF own h xs vs->aF own h (xs.drop j) (vs.drop j)
 |[],u,o,e=>by subst e;rw[List.drop_nil,List.drop_nil];rfl|x::xs,u,0,⟨v,r,e,hv,hr⟩=>by subst e;exact⟨v,_,rfl,hv,hr⟩|x::xs,u,j+1,⟨v,r,e,hv,hr⟩=>by subst e;exact aF.V0 j hr
theorem V3 {A:Around}{j:Nat}{y:an}(S:Sx own st s)(ha:own[k]?=some a)(ho:s.heap.get? a=some {cls:=.type "list",data:=.seq vs.toArray n})(hr:aF own s.heap xs vs)(hy:vs[j]?=some y)(ry:RelV own s.heap v y):Ao own s (PV (st.set k (.list (xs.eraseIdx j))) v) y {s with heap:=s.heap.update a (f8 (·.eraseIdxIfInBounds j)),toks:=s.toks}:=by obtain⟨E,S'⟩:=S.AN (f:=λx=>x.eraseIdxIfInBounds j) ha ho (λav h' fX g=>by rw[(show ((vs.toArray).eraseIdxIfInBounds j).toList=vs.eraseIdx j from by simp [(bV.mp hy).1])];exact aF.VZ j fX) hr;exact⟨own,E,S',ry.aM E.aM⟩
theorem V4 {vs:List an}{j:Nat}{y:an}(h:vs[j]?=some y):vs.toArray[j]?=some y:=Rj.trans h
theorem GP {i:Int}{j:Nat}(hk:st[k]?=some (.list xs))(hi:-(2^63:Int)<=i∧i<2^63)(hj:rl i xs.length=some j)(hv:xs[j]?=some v)(bn:xs.length<=cX):bk d (.bi "list.pop") [.ab k,.int i] [] st v (st.set k (.list (xs.eraseIdx j))):=uG λA own s b z q S hb hz=>by obtain⟨a,vs,n,rfl,ha,ho,hr,hl⟩:=S.kY hk hb;obtain⟨t,rfl⟩:=hz;obtain⟨y,hy,ry⟩:=aF.get hr hv;rw[hl] at hj bn;exact vU aqf ⟨_,ho,rfl⟩ aqg (PySem.F.args_list_pop_2 _ _) (aeU a vs.toArray n i t j y hi hj (V4 hy) bn) ⟨ho,V3 (A:=A) S ha ho hr hy ry⟩
theorem V5 {j:Nat}(hk:st[k]?=some (.list xs))(hj:xs.length=j+1)(hv:xs[j]?=some v)(bn:xs.length<=cX):bk d (.bi "list.pop") [.ab k] [] st v (st.set k (.list (xs.eraseIdx j))):=wy λA own s b q S hb=>by obtain⟨a,vs,n,rfl,ha,ho,hr,hl⟩:=S.kY hk hb;obtain⟨y,hy,ry⟩:=aF.get hr hv;rw[hl] at hj bn;exact vU aqf ⟨_,ho,rfl⟩ aqg (PySem.F.args_list_pop_1 _) (aeV a vs.toArray n j y (by show rl (-1) vs.length=_;exact hj▸aeT (vI j)) (V4 hy) bn) ⟨ho,V3 (A:=A) S ha ho hr hy ry⟩
theorem aeY {i:Nat}(hk:st[k]?=some (.list xs))(hz:0<=z)(hzi:z.toNat=i)(hi:z<2^63)(d6:i<=xs.length)(bn:xs.length<=cX):bk d (.bi "list.insert") [.ab k,.int z,v] [] st .none (st.set k (.list (xs.take i++v::xs.drop i))):=aeQ λA own s b w y q S hb hw hy=>by
 obtain⟨a,vs,n,rfl,ha,ho,hr,hl⟩:=S.kY hk hb;obtain⟨t,rfl⟩:=hw;rw[hl] at d6 bn;refine vU PySem.F.slot_list_insert ⟨_,ho,rfl⟩ PySem.F.entry_list_insert (PySem.F.args_list_insert_3 (.ref a) (.int z t) y) (PySem.AutoListH.list_insert_list_int_val_1 a vs.toArray n z t y (VW ⟨QY (by decide) hz,hi⟩) bn) ⟨ho,?_⟩;obtain⟨E,S'⟩:=S.AN (f:=λxs=>have k:=if z<0 then(z+(xs.size)).toNat else min z.toNat xs.size;(xs.extract 0 k).push y++xs.extract k) (ys:=xs.take i++v::xs.drop i) ha ho (λav h' fX g=>by
  have h2:(if z<0 then(z+(vs.toArray.size)).toNat else min z.toNat vs.toArray.size)=i:=by rw[if_neg<|sB.mpr hz,hzi];exact zH d6
  have:(((vs.toArray.extract 0 i).push y++vs.toArray.extract i vs.length)).toList=vs.take i++y::vs.drop i:=by simp;rw[uc];simp
  rw[h2];show aF av h' _ (((vs.toArray.extract 0 i).push y++vs.toArray.extract i vs.length)).toList;rw[this];exact aF.append (aF.take i fX) ⟨y,_,rfl,hy.aM g,aF.V0 i fX⟩) hr
 exact⟨own,E,S',rfl⟩
theorem V6 {i:Nat}(hk:st[k]?=some (.list xs))(hi:(i:Int)<2^63)(d6:i<=xs.length)(bn:xs.length<=cX):bk d (.bi "list.insert") [.ab k,.int i,v] [] st .none (st.set k (.list (xs.take i++v::xs.drop i))):=aeY hk (mK i) rfl hi d6 bn
theorem ae0 (hk:st[k]?=some (.list xs))(bn:xs.length<=cX):bk d (.bi "list.clear") [.ab k] [] st .none (st.set k (.list [])):=wy λA own s b q S hb=>by
 obtain⟨a,vs,n,rfl,ha,ho,hr,hl⟩:=S.kY hk hb;refine vU PySem.F.slot_list_clear ⟨_,ho,rfl⟩ PySem.F.entry_list_clear (PySem.F.args_list_clear_1 _) ((show Meets (Builtin.«list.clear» ⟨[.ref a],[]⟩) (λx R s=>s.heap.get? a=some {cls:=.type "list",data:=.seq vs.toArray n}∧R (.ok<|.ret .none) {s with heap:=s.heap.update a<|f8 λx=>#[],toks:=s.toks}) from .of_wp λprog w A R s h=>by
  obtain⟨hp,g,d,tk,os⟩:=s;obtain⟨hl,h⟩:=h
  wp_walk using (Kl hl rfl (hz:=(fC (ll hl.symm) bn)) (_hz':=(by simp)));exact⟨_,rfl,h⟩)) ⟨ho,?_⟩
 obtain⟨E,S'⟩:=S.AN (f:=λx=>#[]) (ys:=[]) ha ho (λav h' fX g=>rfl) hr;exact⟨own,E,S',rfl⟩
end
end
section
variable {d:Nat}{c:aY}
mutual
noncomputable def gQ:CV->CV->Bool
 | .int i,.int j=>i == j
 | .bool a,.bool b=>a == b
 | .bool a,.int j=>(if a then 1 else 0) == j
 | .int i,.bool b=>i == (if b then 1 else 0)
 | .str x,.str y=>x == y
 | .none,.none=>true
 | .cB xs,.cB ys=>mY xs ys
 | u,o=>false
noncomputable def mY:List CV->List CV->Bool
 | [],[]=>true
 | x::xs,y::ys=>gQ x y&&mY xs ys
 | u,o=>false
end
mutual
noncomputable def CV.gg:CV->Bool
 | .int _| .bool _| .str _| .none=>true
 | .cB xs=>CV.g6 xs
 | _=>false
noncomputable def CV.g6:List CV->Bool
 | []=>true
 | x::xs=>x.gg&&CV.g6 xs
end
mutual
noncomputable def CV.s8:CV->Nat
 | .cB xs=>CV.jV xs+1
 | _=>0
noncomputable def CV.jV:List CV->Nat
 | []=>0
 | x::xs=>max x.s8 (CV.jV xs)
end
theorem CV.GQ {x:CV}:CV.g6 (x::xs)=(x.gg&&CV.g6 xs):=rfl
theorem CV.GR {x:CV}:CV.jV (x::xs)=max x.s8 (CV.jV xs):=rfl
section
variable {own:List ai}{h:bf}
def ae1 (own:List ai)(h:bf)(c:CV):an->Prop
 |.none=>c=.none|.bool b=>c=.bool b|.int i x=>c=.int i|.str s x=>c=.str s|.ref a=>∃xs vs n,c=.cB xs∧h.get? a=some {cls:=.type "tuple",data:=.seq (abB vs) n}∧aF own h xs vs|_=>True
theorem Db {c:CV}{v:an}(hp:c.gg=true)(r:RelV own h c v):ae1 own h c v:=by cases c with|none=>rw[show v=_ from r];rfl|bool b=>rw[show v=_ from r];rfl|int i=>exact r.elim λt e=>by rw[e];rfl|str s=>exact r.elim λt e=>by rw[e];rfl|cB xs=>obtain⟨a,vs,n,e,_,_,ho,hr⟩:=r;exact e▸⟨xs,vs,n,rfl,ho,hr⟩|_=>nomatch hp
theorem ae2 {c:CV}(hp:c.gg=true)(r:RelV own h c .none):c=.none:=Db hp r
theorem ae3 {c:CV}{b:Bool}(hp:c.gg=true)(r:RelV own h c (.bool b)):c=.bool b:=Db hp r
theorem ae4 {c:CV}{b:Int}{t:Tok}(hp:c.gg=true)(r:RelV own h c (.int b t)):c=.int b:=Db hp r
theorem ae5 {c:CV}{b:Str}{t:Tok}(hp:c.gg=true)(r:RelV own h c (.str b t)):c=.str b:=Db hp r
theorem ae6 {c:CV}{a:ai}(hp:c.gg=true)(r:RelV own h c (.ref a)):∃xs vs n,c=.cB xs∧h.get? a=some {cls:=.type "tuple",data:=.seq (abB vs) n}∧aF own h xs vs:=Db hp r
theorem V7 {a:ai}{vs yp:List an}{n n':Nat}(h1:h.get? a=some {cls:=.type "tuple",data:=.seq vs.toArray n})(h2:h.get? a=some {cls:=.type "tuple",data:=.seq yp.toArray n'}):vs=yp:=by
 rw[h1] at h2;injection (dE h2) with _ _ h2 _
 injection h2 with h3 _
 simpa using congrArg Array.toList h3
mutual
theorem V8:∀(a b:CV) (v:an),a.gg=true->b.gg=true->RelV own h a v->RelV own h b v->a=b
 | .none,b,v,u,hb,ra,rb=>by subst ra;exact(ae2 hb rb).symm
 | .bool x,b,v,u,hb,ra,rb=>by subst ra;exact(ae3 hb rb).symm
 | .int x,b,v,u,hb,ra,rb=>by obtain⟨t,e⟩:=ra;rw[e] at rb;exact(ae4 hb rb).symm
 | .str x,b,v,u,hb,ra,rb=>by obtain⟨t,e⟩:=ra;rw[e] at rb;exact(ae5 hb rb).symm
 | .cB xs,b,v,ha,hb,ra,rb=>by
   obtain⟨a,vs,n,e,_,_,ho,hr⟩:=ra
   rw[e] at rb
   obtain⟨ys,yp,n',eb,gO,fX⟩:=ae6 hb rb
   rw[<-V7 ho gO] at fX
   rw[eb] at hb ⊢
   rw[Mu xs ys vs ha hb hr fX]
 | .ab u,o,z,ha,w,q,c=>by exact nB ha
 | .sl u,o,z,ha,w,q,c=>by exact nB ha
 | .fW u o z,w,q,ha,c,d,f=>by exact nB ha
 | .aH u,o,z,ha,w,q,c=>by exact nB ha
 | .bi u,o,z,ha,w,q,c=>by exact nB ha
 | .ty u,o,z,ha,w,q,c=>by exact nB ha
 | .any,u,o,ha,z,w,q=>by exact nB ha
theorem Mu:∀(xs ys:List CV) (vs:List an),CV.g6 xs=true->CV.g6 ys=true->aF own h xs vs->aF own h ys vs->xs=ys
 | [],[],u,o,z,w,q=>rfl
 | [],y::ys,vs,u,o,ra,rb=>by subst ra;obtain⟨_,_,e,_⟩:=rb;cases e
 | x::xs,[],vs,u,o,ra,rb=>by subst rb;obtain⟨_,_,e,_⟩:=ra;cases e
 | x::xs,y::ys,vs,ha,hb,ra,rb=>by
   obtain⟨v,r,e0,h1,h2⟩:=ra
   obtain⟨v',r',e,oW,mw⟩:=rb
   rw[e0] at e
   injection e with e1 e2
   rw[<-e1] at oW
   rw[<-e2] at mw
   rw[CV.GQ,bz] at ha hb
   rw[V8 x y v ha.1 hb.1 h1 oW,Mu xs ys r ha.2 hb.2 h2 mw]
end
end
mutual
theorem ae7:∀(a:CV),a.gg=true->gQ a a=true
 | .int i,u=>beq_self_eq_true i
 | .bool i,u=>beq_self_eq_true i
 | .str i,u=>beq_self_eq_true i
 | .none,u=>rfl
 | .cB xs,h=>uH xs h
 | .ab u,h=>nomatch h
 | .sl u,h=>nomatch h
 | .fW u o z,h=>nomatch h
 | .aH u,h=>nomatch h
 | .bi u,h=>nomatch h
 | .ty u,h=>nomatch h
 | .any,h=>nomatch h
theorem uH:∀(xs:List CV),CV.g6 xs=true->mY xs xs=true
 | [],u=>rfl
 | x::xs,h=>
   have h:=iR.mp (h)
   iR.mpr ⟨ae7 x h.1,uH xs h.2⟩
end
theorem wz:∀{xs} {j:Nat} {x},CV.g6 xs=true->xs[j]?=some x->x.gg=true
 |y::ys,0,x,h,e=>by obtain rfl:=dE e;rw[CV.GQ,bz] at h;exact h.1|y::ys,j+1,x,h,e=>by rw[CV.GQ,bz] at h;exact wz h.2 (by simpa using e)
theorem GS:∀{xs} {j:Nat} {x},xs[j]?=some x->x.s8<=CV.jV xs
 |y::ys,0,x,e=>by obtain rfl:=dE e;rw[CV.GR];exact aci|y::ys,j+1,x,e=>by rw[CV.GR];exact acj (GS<|by simpa using e)
def nV (xs ys:List CV)(j:Nat):Bool:=gQ (xs.getD j .none) (ys.getD j .none)
theorem GU:∀xs ys,((aK (min xs.length ys.length)).all (nV xs ys)&&xs.length==ys.length)=mY xs ys
 |[],[]=>rfl|[],y::ys=>abC _|x::xs,[]=>abC _|x::xs,y::ys=>by
  show _=(gQ x y&&mY xs ys);rw[<-GU xs ys];have:min (x::xs).length (y::ys).length=min xs.length ys.length+1:=by simp
  rw[this,List.range_succ_eq_map,bU,List.all_map];have e:(nV (x::xs) (y::ys) ∘ Nat.succ)=nV xs ys:=by funext j;simp [nV]
  rw[e,Bool.and_assoc];have e2:nV (x::xs) (y::ys) 0=gQ x y:=by simp [nV]
  rw[e2];congr 2;simp
section
variable {own:List ai}{s:az}
open SeqAt
inductive AP (own:List ai)(h:bf):CV->an->Prop|none:AP own h .none .none|bool (b:Bool):AP own h (.bool b) (.bool b)|int (i:Int) (t:Tok):AP own h (.int i) (.int i t)|str (x:Str) (t:Tok):AP own h (.str x) (.str x t)|cB {xs:List CV} {a:ai} {vs:List an} {n:Nat}:CV.g6 xs=true->h.get? a=some {cls:=.type "tuple",data:=.seq vs.toArray n}->aF own h xs vs->AP own h (.cB xs) (.ref a)
theorem V9 {h:bf}{c:CV}{v:an}(hp:c.gg=true)(r:RelV own h c v):AP own h c v:=by cases c with|none=>rw[show v=_ from r];exact .none|bool b=>rw[show v=_ from r];exact .bool b|int i=>exact r.elim λt e=>by rw[e];exact .int i t|str s=>exact r.elim λt e=>by rw[e];exact .str s t|cB xs=>obtain⟨a,vs,n,e,_,_,ho,hr⟩:=r;exact e▸.cB hp ho hr|_=>nomatch hp
theorem ae' {m:Nat}(ih:∀a b  A  x y,a.s8<=CV.jV xs->a.gg=true->b.gg=true->A.units+CV.jV xs<xA->RelV own s.heap a x->RelV own s.heap b y->EqAt A s x y (gQ a b))(ha:CV.g6 xs=true)(hb:CV.g6 ys=true)(hu:A.units+(CV.jV xs+1)<xA)(ho:s.heap.get? aa=some {cls:=.type "tuple",data:=.seq vs.toArray m})(hr:aF own s.heap xs vs)(gO:s.heap.get? bb=some {cls:=.type "tuple",data:=.seq yp.toArray m'})(fX:aF own s.heap ys yp):EqAt A s (.ref aa) (.ref bb) (gQ (.cB xs) (.cB ys)):=by
 by_cases oQ:aa=bb
 ·subst oQ;have hv:=V7 ho gO;subst hv;rw[Mu xs ys _ ha hb hr fX,show gQ (CV.cB ys) (CV.cB ys)=true from uH ys hb];exact EqAt.same _
 have hl:=aF.length hr;have nP:=aF.length fX;apply EqAt.of_refs oQ;have key:=RcAt.tuples (e:=nV xs ys) ⟨_,ho,rfl,m,rfl⟩ ⟨_,gO,rfl,m',rfl⟩ (Fs hu) (λj h1 h2=>by
  have oW:j<xs.length:=by rw[hl];simpa using h1
  have mw:j<ys.length:=by rw[nP];simpa using h2
  obtain⟨v1,e1,r1⟩:=aF.get hr<|bA oW;obtain⟨v2,e2,r2⟩:=aF.get fX<|bA mw;have oR:vs.toArray[j]=v1:=by simpa using (bV.mp e1).2
  have Mw:yp.toArray[j]=v2:=by simpa using (bV.mp e2).2
  rw[oR,Mw];have:nV xs ys j=gQ xs[j] ys[j]:=by simp [nV,oW,mw]
  rw[this];exact ih _ _ A.in1 _ _ (GS<|bA oW) (wz ha<|bA oW) (wz hb<|bA mw) (by simp;exact KJ hu) r1 r2)
 rwa[ig,ig,<-hl,<-nP,GU] at key
theorem afa (ih:∀k,k<n->∀a b  A  x y,a.s8<=k->a.gg=true->b.gg=true->A.units+k<xA->RelV own s.heap a x->RelV own s.heap b y->EqAt A s x y (gQ a b)){x y:an}(hd:a.s8<=n)(ha:a.gg=true)(hb:b.gg=true)(hu:A.units+n<xA)(ra:RelV own s.heap a x)(rb:RelV own s.heap b y):EqAt A s x y (gQ a b):=by
 have s9:A.units<xA:=Fs hu;have va:=V9 ha ra;have vb:=V9 hb rb;clear ra rb ha hb;cases va with
 |none=>cases vb with
  |none=>exact EqAt.same _|bool=>exact EqAt.none_bool _|int=>exact EqAt.none_int _ _|str=>exact EqAt.none_str _ _|cB u ho=>exact EqAt.none_tuple ⟨_,ho,rfl,_,rfl⟩ s9
 |bool=>cases vb with
  |none=>exact EqAt.bool_none _|bool=>exact EqAt.bool_bool _ _|int=>exact EqAt.bool_int _ _ _|str=>exact EqAt.bool_str _ _ _|cB u ho=>exact EqAt.bool_tuple _ ⟨_,ho,rfl,_,rfl⟩ s9
 |int=>cases vb with
  |none=>exact EqAt.int_none _ _|bool=>exact EqAt.int_bool _ _ _|int=>exact EqAt.int_int _ _ _ _|str=>exact EqAt.int_str _ _ _ _|cB u ho=>exact EqAt.int_tuple _ _ ⟨_,ho,rfl,_,rfl⟩ s9
 |str=>cases vb with
  |none=>exact EqAt.str_none _ _|bool=>exact EqAt.str_bool _ _ _|int=>exact EqAt.str_int _ _ _ _|str=>exact EqAt.str_str _ _ _ _|cB u ho=>exact EqAt.str_tuple _ _ ⟨_,ho,rfl,_,rfl⟩ s9
 |cB ha ho hr=>cases vb with|none=>exact EqAt.tuple_none ⟨_,ho,rfl,_,rfl⟩ s9|bool=>exact EqAt.tuple_bool _ ⟨_,ho,rfl,_,rfl⟩ s9|int=>exact EqAt.tuple_int _ _ ⟨_,ho,rfl,_,rfl⟩ s9|str=>exact EqAt.tuple_str _ _ ⟨_,ho,rfl,_,rfl⟩ s9|cB hb gO fX=>exact ae' (ih _ hd) ha hb (q7 (Nat.add_le_add_left hd _) hu) ho hr gO fX
theorem V' n:∀a b A x y,a.s8<=n->a.gg=true->b.gg=true->A.units+n<xA->RelV own s.heap a x->RelV own s.heap b y->EqAt A s x y (gQ a b):=
 Nat.strongRecOn n λu ih u u u u u=>afa ih
end
end
section
variable {d:Nat}{c:aY}
noncomputable def Mx (a b:CV):Option Bool:=match b with
 |.none=>match a with
   |.none=>some true|.bool x=>some false|.int x=>some false|.str x=>some false|.ab x=>some false|.cB x=>some false|_=>none
 |.bool q=>match a with
   |.bool p=>some (p==q)|_=>none
 |.ty q=>match a with
   |.ty p=>some (p==q)|_=>none
 |_=>none
theorem Wa {x y:an}(hv:Mx a b=some r)(ra:RelV own h a x)(rb:RelV own h b y):plainIs x y=true∧(x==y)=r:=by
 cases b with
 |none=>
  rw[show y=.none from rb];cases a with
  |none=>rw[show x=_ from ra];exact⟨rfl,dE hv⟩|bool p=>rw[show x=_ from ra];exact⟨rfl,dE hv⟩|int i=>exact ra.elim λt e=>by rw[e];exact⟨rfl,dE hv⟩|str i=>exact ra.elim λt e=>by rw[e];exact⟨rfl,dE hv⟩|ab i=>obtain⟨_,_,e⟩:=ra;rw[e];exact⟨rfl,dE hv⟩|cB i=>obtain⟨_,_,_,e,_⟩:=ra;exact e▸⟨rfl,dE hv⟩|_=>nomatch hv
 |bool q=>cases a with
  |bool p=>rw[show x=_ from ra,show y=_ from rb];refine⟨rfl,Eq.trans ?_<|dE hv⟩;cases p<;>cases q<;>rfl|_=>nomatch hv
 |ty q=>cases a with
  |ty p=>
   rw[show x=_ from ra,show y=_ from rb];refine⟨rfl,Eq.trans ?_<|dE hv⟩;by_cases wA:p=q
   ·rw[wA,beq_self_eq_true,beq_self_eq_true]
   rw[beq_eq_false_iff_ne.mpr<|λe=>wA<|an.type.inj e,beq_eq_false_iff_ne.mpr wA]
  |_=>nomatch hv
 |_=>nomatch hv
theorem ky {a b:CV}{r:Bool}{st:List ae}(h:Mx a b=some r):jj d .Is a b st (.bool r) st:=λA own s x y q S ra rb=>by obtain⟨h1,h2⟩:=Wa h ra rb;exact wpAny_is_plain h1 ⟨own,.refl,S,by rw[h2];rfl⟩
theorem yq {a b:CV}{r:Bool}{st:List ae}(h:Mx a b=some r):jj d .IsNot a b st (.bool (!r)) st:=λA own s x y q S ra rb=>by obtain⟨h1,h2⟩:=Wa h ra rb;exact wpAny_isNot_plain h1 ⟨own,.refl,S,by rw[h2];rfl⟩
section
variable {st:List ae}{k l:Nat}{xs ys:List CV}
open SeqAt
inductive LL (A:Around)(s:az)(xs ys:List CV)(x y:an):Prop|eq (l b:ai) (vs ws:Array an) (e1:x=.ref l) (e2:y=.ref b) (h1:s.heap.IsList l vs) (h2:s.heap.IsList b ws) (hz:vs.size=ws.size) (he:∀j (h1:j<vs.size) (h2:j<ws.size),EqAt A.in1 s vs[j] ws[j] (nV xs ys j)) (hv:(aK vs.size).all (nV xs ys)=mY xs ys)|ne (l b:ai) (vs ws:Array an) (e1:x=.ref l) (e2:y=.ref b) (h1:s.heap.IsList l vs) (h2:s.heap.IsList b ws) (hz:(vs.size != ws.size)=true) (hv:mY xs ys=false)
theorem My {vs:List an}{j:Nat}{v:an}(h:vs[j]?=some v) hj:vs.toArray[j]=v:=(bV.mp h).2
theorem Wb {x y:an}(q:Rm (d+1) A)(S:Sx own st s)(hk:st[k]?=some (.list xs))(hl:st[l]?=some (.list ys))(hx:CV.g6 xs=true)(hy:CV.g6 ys=true)(hd:CV.jV xs<=6)(ra:RelV own s.heap (.ab k) x)(rb:RelV own s.heap (.ab l) y):LL A s xs ys x y:=by
 obtain⟨a,vs,n,rfl,_,ho,hr,l1⟩:=S.kY hk ra;obtain⟨b,ws,m,rfl,_,gO,fX,l2⟩:=S.kY hl rb;by_cases bJ:xs.length=ys.length
 ·refine .eq a b vs.toArray ws.toArray rfl rfl ⟨_,ho,rfl,n,rfl⟩ ⟨_,gO,rfl,m,rfl⟩ (l1.symm.trans<|bJ.trans l2) (λj h1 h2=>?_) ((congrArg (λn=>(aK n).all<|nV xs ys) l1).symm.trans<|(by rw[<-GU xs ys,<-bJ];simp));have oW:=Kn h1 l1.symm;have mw:=bJ▸oW;obtain⟨v1,e1,r1⟩:=aF.get hr<|bA oW;obtain⟨v2,e2,r2⟩:=aF.get fX<|bA mw;rw[My e1,My e2,nV,ed,ed,bA oW,bA mw];exact V' _ _ _ A.in1 _ _ (aG _) (wz hx<|bA oW) (wz hy<|bA mw) (by simp;exact Sh q.2.2 hd<|GS<|bA oW) r1 r2
 exact .ne a b vs.toArray ws.toArray rfl rfl ⟨_,ho,rfl,n,rfl⟩ ⟨_,gO,rfl,m,rfl⟩ (bne_iff_ne.mpr λe=>bJ<|l1.trans<|e.trans l2.symm) ((by rw[<-GU xs ys];simp [bJ]))
theorem Mz (hk:st[k]?=some (.list xs))(hl:st[l]?=some (.list ys))(hx:CV.g6 xs=true)(hy:CV.g6 ys=true)(hd:CV.jV xs<=6):jj (d+1) .Eq (.ab k) (.ab l) st (.bool (mY xs ys)) st:=λA own s x y q S ra rb=>by cases Wb q S hk hl hx hy hd ra rb with|eq a b vs ws e1 e2 h1 h2 hz he hv=>rw[e1,e2];exact eq_listAt h1 h2 hz q.units he ⟨own,.refl,S,congrArg an.bool hv⟩|ne a b vs ws e1 e2 h1 h2 hz hv=>rw[e1,e2];exact eq_list_lengthsAt h1 h2 hz q.units ⟨own,.refl,S,congrArg an.bool hv.symm⟩
theorem Dc (hk:st[k]?=some (.list xs))(hl:st[l]?=some (.list ys))(hx:CV.g6 xs=true)(hy:CV.g6 ys=true)(hd:CV.jV xs<=6):jj (d+1) .NotEq (.ab k) (.ab l) st (.bool (!mY xs ys)) st:=λA own s x y q S ra rb=>by cases Wb q S hk hl hx hy hd ra rb with|eq a b vs ws e1 e2 h1 h2 hz he hv=>rw[e1,e2];exact RcNeAt.lists h1 h2 hz q.units he _ _ _ _ ⟨own,.refl,S,congrArg (λb=>an.bool<|!b) hv⟩|ne a b vs ws e1 e2 h1 h2 hz hv=>rw[e1,e2];exact RcNeAt.lists_lengths h1 h2 hz q.units _ _ _ _ ⟨own,.refl,S,congrArg (λb=>an.bool<|!b) hv.symm⟩
def yr (own:List ai)(h:bf)(xs:List CV)(c:CV)(y:an):Prop:=∃x∈xs,RelV own h x y∧gQ x c=true
open Classical in
theorem MA {own:List ai}{h:bf}{xs:List CV}{c:CV}{x:CV}{y:an}(hx:CV.g6 xs=true)(hm:x∈xs)(r:RelV own h x y):decide (yr own h xs c y)=gQ x c:=by
 obtain⟨j,hj,e⟩:=pN.mp hm
 have hp:=wz hx (show xs[j]?=some x by rw[bA hj,e])
 cases he:gQ x c with
 | true=>exact decide_eq_true ⟨x,hm,r,he⟩
 | false=>
   refine decide_eq_false λ⟨z,hz,rz,ez⟩=>?_
   obtain⟨j',nW,e'⟩:=pN.mp hz
   have MB:=wz hx (show xs[j']?=some z by rw[bA nW,e'])
   rw[V8 z x y MB hp rz r,he] at ez
   exact nB ez
open Classical in
theorem MC {own:List ai}{h:bf}{zs:List CV}{c:CV}(hz:CV.g6 zs=true):∀{xs:List CV} {vs:List an},(∀x∈xs,x∈zs)->aF own h xs vs->vs.map (λy=>decide (yr own h zs c y))=xs.map λx=>gQ x c
 | [],u,o,e=>by subst e;rfl
 | x::xs,u,hm,⟨v,r,e,hv,hr⟩=>by
   subst e
   rw[eC,eC,MA hz (hm x (.head _)) hv,MC hz (λy hy=>hm y (.tail _ hy)) hr]
theorem MD f:∀(l:List α),l.any f=(l.map f).any id
 |[]=>rfl|x::l=>by rw[Fb,eC,Fb,MD f l];rfl
theorem ME f:∀(l:List α),l.countP f=(l.map f).countP id
 |[]=>rfl|x::l=>by rw[eC,List.countP_cons,List.countP_cons,ME f l];rfl
theorem Wc:∀{xs} {vs} {y},aF own h xs vs->y∈vs->∃x∈xs,RelV own h x y
 |[],u,y,e,hm=>by subst e;cases hm|x::xs,u,y,⟨v,r,e,hv,hr⟩,hm=>by
  subst e;rcases pO.mp hm with q|q
  ·exact⟨x,.head _,q▸hv⟩
  obtain⟨z,h1,h2⟩:=Wc hr q;exact⟨z,.tail _ h1,h2⟩
theorem afc {x:CV}(hm:x∈xs):x.s8<=CV.jV xs:=by obtain⟨j,hj,e⟩:=pN.mp hm;exact GS (show xs[j]?=some x by rw[bA hj,e])
theorem afd {x:CV}(hx:CV.g6 xs=true)(hm:x∈xs):x.gg=true:=by obtain⟨j,hj,e⟩:=pN.mp hm;exact wz hx (show xs[j]?=some x by rw[bA hj,e])
open Classical in
theorem MF {A:Around}{own:List ai}{s:az}{a:CV}{vs:List an}{x z:an}(q:Rm (d+1) A)(hx:CV.g6 xs=true)(ha:a.gg=true)(hd:CV.jV xs<=6)(hr:aF own s.heap xs vs)(ra:RelV own s.heap a x)(hz:z∈vs.toArray):EqAt A.in1 s z x (decide (yr own s.heap xs a z)):=by
 obtain⟨u,hu,ru⟩:=Wc hr (List.mem_toArray.mp hz)
 rw[MA hx hu ru]
 have s9:=q.2.2
 have:=afc hu
 exact V' _ _ _ A.in1 _ _ (aG _) (afd hx hu) ha (by simp;exact Sh s9 hd this) ru ra
open Classical in
theorem afe {own:List ai}{s:az}{a:CV}{vs:List an}(hx:CV.g6 xs=true)(hr:aF own s.heap xs vs):(vs.toArray.any λy=>decide (yr own s.heap xs a y))=xs.any λx=>gQ x a:=by
 rw[List.any_toArray,MD,MC hx (λu h=>h) hr,<-MD]
open Classical in
theorem aff {a:CV}(hk:st[k]?=some (.list xs))(hx:CV.g6 xs=true)(ha:a.gg=true)(hd:CV.jV xs<=6):jj (d+1) .In a (.ab k) st (.bool (xs.any λx=>gQ x a)) st:=λA own s x y q S ra rb=>by
 obtain⟨b,vs,n,rfl,_,ho,hr,_⟩:=S.kY hk rb
 exact in_listAt _ ⟨_,ho,rfl,n,rfl⟩ (λy hy=>MF q hx ha hd hr ra hy) ⟨own,.refl,S,congrArg an.bool (afe hx hr)⟩
open Classical in
theorem afg {a:CV}(hk:st[k]?=some (.list xs))(hx:CV.g6 xs=true)(ha:a.gg=true)(hd:CV.jV xs<=6):bk (d+1) (.bi "list.count") [.ab k,a] [] st (.int (xs.countP λx=>gQ x a)) st:=uG λA own s z y q S rz ry=>by
 obtain⟨b,vs,n,rfl,_,ho,hr,_⟩:=S.kY hk rz
 refine vU PySem.F.slot_list_count ⟨_,ho,rfl⟩ PySem.F.entry_list_count (PySem.F.args_list_count_2 _ _) (list_countAt b vs.toArray n none #[] y (λy=>decide (yr own s.heap xs a y))) ⟨ho,λz hz=>MF q hx ha hd hr ry hz,own,.toks,S.toks _,s.toks,?_⟩
 rw[show vs.toArray.toList=vs from rfl,ME,MC hx (λu h=>h) hr,<-ME]
open Classical in
theorem Wd {a:CV}{j:Nat}(hk:st[k]?=some (.list xs))(hx:CV.g6 xs=true)(ha:a.gg=true)(hd:CV.jV xs<=6)(hsm:xs.length<2^62)(hj:xs.findIdx? (λx=>gQ x a)=some j):bk (d+1) (.bi "list.index") [.ab k,a] [] st (.int j) st:=uG λA own s z y q S rz ry=>by
 obtain⟨b,vs,n,rfl,_,ho,hr,hl⟩:=S.kY hk rz
 obtain⟨aZ,rN,kD⟩:=aqh.mp hj
 have bD:∀m hm (C':m<vs.toArray.size),decide (yr own s.heap xs a vs.toArray[m])=gQ xs[m] a:=λm hm C'=>by
  obtain⟨v1,e1,r1⟩:=aF.get hr (bA hm)
  rw[My e1];exact MA hx (Rs hm) r1
 exact vU PySem.F.slot_list_index ⟨_,ho,rfl⟩ PySem.F.entry_list_index (PySem.F.args_list_index_2 _ _) (list_indexAt b vs.toArray n none #[] y (λy=>decide (yr own s.heap xs a y)) j (Kn aZ hl) (ah [_,_] (.lt .o (.n (2^62)) (.lt .i .o (.g 1 0 (.it (.c .i) (.s (.n (2^63)) .j))))) rfl hsm aZ) ((bD j aZ _).trans rN) (λm hm We=>(bD m (xu We aZ) hm).trans (Q9.mpr (kD m We))))
  ⟨ho,λz hz=>MF q hx ha hd hr ry hz,own,.toks,S.toks _,s.toks,rfl⟩
end
end
section
variable {d:Nat}{c:aY}
theorem yt {A:Around}{own:List ai}{s:az}{o i:an}{T id:String}{e:aq}{P:List ai->an->az->Prop}(hT:s.TypeIs o T)(hl:Fc (.type T) "__getitem__"=pure (some (.builtin id)))
 (h:Tr A own s (getItem o i) P):Tr A own s (do Kd e (<-abj o) o i) P:=by
 rw[getitemInPython_of_ne hT.not_modules];have yg:∀b,b=false->Tr A own s (Kd e b o i) P:=λb hb=>by
  subst hb;obtain⟨_,e⟩:=(show ∃l,Kd e false o i=operate l (getItem o i) from by
   cases e with
   |Slice x u q z=>cases q<;>exact⟨_,rfl⟩|_=>exact⟨_,rfl⟩)
  exact e▸abi h
 rw[bind_assoc];refine aB<|Ko hT hl ?_;first
  |exact yg _ rfl|exact aB<|bH<|yg _ rfl
section
variable {st:List ae}{k:Nat}{xs:List CV}{e:aq}
theorem uI {i:Int}{j:Nat}(hk:st[k]?=some (.list xs))(hi:-(2^63:Int)<=i∧i<2^63)(hj:rl i xs.length=some j)(hv:xs[j]?=some v):fF d e (.ab k) (.int i) st v st:=λA own s x y q S ra rb=>by
 obtain⟨a,ha,rfl⟩:=ra;obtain⟨t,rfl⟩:=rb;obtain⟨a',b8,vs,n,ho,hr⟩:=S.bD hk;rw[ha] at b8;obtain rfl:=dE b8;have hl:=aF.length hr;obtain⟨y,hy,ry⟩:=aF.get hr hv;have hL:s.heap.IsList a vs.toArray:=⟨_,ho,rfl,n,rfl⟩;apply yt hL.typeIs abD.lookup;have ari:=(bV.mp hv).1;unfold rl at hj;simp only [bz,decide_eq_true_eq] at hj;by_cases h0:i<0
 ·simp only [h0,if_true] at hj;split at hj
  ·rename_i hc;have nW:=dE hj;refine wpAny_getItem_list_neg hL h0 (by simp;lia) hi.1 ?_ ⟨own,.refl,S,ry⟩;rw[ig,<-hl,nW];simpa using hy
  exact nS hj
 simp only [h0,if_false] at hj;split at hj
 ·rename_i hc;have nW:=dE hj;refine wpAny_getItem_list hL (by lia) hi.2 ?_ ⟨own,.refl,S,ry⟩;rw[nW];simpa using hy
 exact nS hj
theorem afj {i:Int}{j:Nat}(hi:-(2^63:Int)<=i∧i<2^63)(hj:rl i xs.length=some j)(hv:xs[j]?=some v):fF d e (.cB xs) (.int i) st v st:=λA own s x y q S ra rb=>by obtain⟨a,vs,n,rfl,_,_,ho,hr⟩:=ra;obtain⟨t,rfl⟩:=rb;obtain⟨y,hy,ry⟩:=aF.get hr hv;have hT:s.heap.IsTuple a vs.toArray:=⟨_,ho,rfl,n,rfl⟩;apply yt hT.typeIs PySem.F.slot_tuple_getitem.lookup;exact PySem.P.getItem_tuple ho hi.1 hi.2 (by rwa[ig,<-(aF.length hr)]) (by simpa using hy) ⟨own,.refl,S,ry⟩
theorem afk {x:Str}{i:Int}(hi:(decide (i < -(2^63:Int))||decide (i>=2^63))=false)(hc:(rl i x.length).bind (x.cps[·]?)=some ch):fF d e (.str x) (.int i) st (.str ⟨#[ch]⟩) st:=λA own s y z q S ra rb=>by obtain⟨t,rfl⟩:=ra;obtain⟨u,rfl⟩:=rb;apply yt (Fe s x t) aqi.lookup;exact P.getItem_str hi hc ⟨own,.toks,S.toks _,_,rfl⟩
noncomputable def qt:CV->Option (Option Int)
 |.none=>some none|.int i=>some (some i)|_=>none
theorem MG {p:Option Int}{x:an}(hv:qt v=some p)(r:RelV own h v x):∃q:Option (Int×Tok),x=partValue q∧q.map (·.1)=p:=by cases v with|none=>exact sI (P:=λp=>∃q:Option (Int×Tok),x=partValue q∧q.map (·.1)=p) hv ⟨none,r,rfl⟩|int i=>obtain⟨t,rfl⟩:=r;exact sI (P:=λp=>∃q:Option (Int×Tok),_=partValue q∧q.map (·.1)=p) hv ⟨some (i,t),rfl,rfl⟩|_=>exact nS hv
theorem AQ {p:Option Int}{x:an}(hv:qt v=some p)(r:RelV own h v x):IsPart x p:=by obtain⟨q,rfl,rfl⟩:=MG hv r;cases q with|none=>exact .none|some q=>exact .int _ _
noncomputable def e7 (xs:List α)(lo hi st:Option Int):List α:=(Rt (zS lo hi st xs.length).1 (zS lo hi st xs.length).2.1 (zS lo hi st xs.length).2.2).filterMap (xs[·]?)
theorem GV (hr:aF own h xs vs):∀(is:List Nat),aF own h (is.filterMap (xs[·]?)) (is.filterMap (vs[·]?))
 |[]=>rfl|i::is=>by cases hx:xs[i]? with|none=>have:=B5 (by rw[<-(aF.length hr)];exact Rl.mp hx);rw[aqj hx,aqj this];exact GV hr is|some x=>obtain⟨y,hy,ry⟩:=aF.get hr hx;rw[aqk hx,aqk hy];exact⟨_,_,rfl,ry,GV hr is⟩
theorem Dd {lo step:Option Int}(hk:st[k]?=some (.list xs))(h1:qt a=some lo)(h2:qt b=some hi)(h3:qt z=some step)(h0:step≠some 0)(bn:xs.length<=cX):fF d e (.ab k) (.sl [a,b,z]) st (.ab st.length) (st++[.list (e7 xs lo hi step)]):=λA own s x y q S ra rb=>by
 obtain⟨l,ha,rfl⟩:=ra;obtain⟨l',b8,vs,n,ho,hr⟩:=S.bD hk;rw[ha] at b8;obtain rfl:=dE b8;obtain⟨sa,ss,rfl,_,_,wB,va,_,rfl,ra,vb,_,rfl,rb,vz,_,rfl,rz,jD⟩:=rb;subst jD;have hl:=aF.length hr;have hL:s.heap.IsList l vs.toArray:=⟨_,ho,rfl,n,rfl⟩;apply yt hL.typeIs abD.lookup;refine aql hL ⟨_,wB,rfl,rfl⟩ (AQ h1 ra) (AQ h2 rb) (AQ h3 rz) h0 ?_ (by rwa[ig,<-hl]);have fX:aF own s.heap (e7 xs lo hi step) (e7 vs lo hi step):=by unfold e7;exact hl▸GV hr _
 obtain⟨av,E,S',r'⟩:=S.newList fX;have e:Ru vs.toArray lo hi step=(e7 vs lo hi step).toArray:=by unfold Ru e7;simp
 exact e▸⟨av,E,S',r'⟩
noncomputable def gD (x:Str)(lo hi:Option Int):Str:=if((Kp lo hi 1 x.length).length==x.length)=true then x else⟨((Kp lo hi 1 x.length).filterMap (x.cps[·]?)).toArray⟩
theorem yu {x:Str}{lo:Option Int}(h1:qt a=some lo)(h2:qt b=some hi)(bn:(gD x lo hi).length<=cX):fF d e (.str x) (.sl [a,b,.none]) st (.str (gD x lo hi)) st:=λA own s y z q S ra rb=>by
 obtain⟨t,rfl⟩:=ra;obtain⟨sa,ss,rfl,_,_,wB,va,_,rfl,ra,vb,_,rfl,rb,vz,_,rfl,rz,jD⟩:=rb;subst jD;subst rz;obtain⟨qa,rfl,ea⟩:=MG h1 ra;obtain⟨qb,rfl,eb⟩:=MG h2 rb;apply yt (Fe s x t) aqi.lookup;apply wpAny_getItem_str_slice (st:=none) ⟨_,wB,rfl,rfl⟩ rfl;have e:slicePicked x qa qb none=Kp lo hi 1 x.length:=by unfold slicePicked;rw[ea,eb];rfl
 unfold sliceMade;rw[e];unfold gD at bn ⊢;by_cases hc:((Kp lo hi 1 x.length).length==x.length)=true
 ·rw[if_pos<|by simpa using hc];rw[if_pos hc];exact⟨own,.refl,S,_,rfl⟩
 rw[if_neg<|by simpa using hc];rw[if_neg hc] at bn ⊢;exact⟨bn,own,.toks,S.toks _,_,rfl⟩
end
end
section
variable {d:Nat}{c:aY}
noncomputable def yw (es:List (Str×CV))(k:Str)(v:CV):List (Str×CV):=
 if es.any (λkv=>kv.1=k) then es.map (λkv=>if kv.1=k then(kv.1,v) else kv) else es++[(k,v)]
theorem Wf:∀{xs ys} {vs ws},cf own h xs vs->cf own h ys ws->cf own h (xs++ys) (vs++ws)
 |[],u,o,z,e,r=>by subst e;exact r|(x,c)::xs,u,o,z,⟨v,r,e,hv,hr⟩,q=>by subst e;exact⟨v,_,rfl,hv,Wf hr q⟩
theorem Wg k:∀{xs} {vs},cf own h xs vs->vs.any (λkv=>kv.1=k)=xs.any (λkv=>kv.1=k)
 |[],u,e=>by subst e;rfl|(x,c)::xs,u,⟨v,r,e,hv,hr⟩=>by subst e;rw[Fb,Fb,Wg k hr]
theorem MH {own:List ai}{h:bf} k {c:CV}{y:an}(hy:RelV own h c y):∀{xs} {vs},cf own h xs vs->cf own h (xs.map (λkv=>if kv.1=k then(kv.1,c) else kv)) (vs.map (λkv=>if kv.1=k then(kv.1,y) else kv))
 |[],u,e=>by subst e;rfl|(x,c')::xs,u,⟨v,r,e,hv,hr⟩=>by
  subst e;rw[eC,eC];by_cases hx:x=k
  ·simp [hx];exact⟨y,_,rfl,hy,MH k hy hr⟩
  simp [hx];exact⟨v,_,rfl,hv,MH k hy hr⟩
theorem afl {own:List ai}{h:bf}{xs:List (Str×CV)}{vs:List (Str×an)}{k:Str}{c:CV}{y:an}(hr:cf own h xs vs)(hy:RelV own h c y):cf own h (yw xs k c) (stored vs k y):=by
 unfold yw stored;rw[Wg k hr];split
 ·exact MH k hy hr
 exact Wf hr ⟨y,[],rfl,hy,rfl⟩
theorem Wh:∀{xs} {vs},cf own h xs vs->vs.length=xs.length
 |[],u,e=>by subst e;rfl|(x,c)::xs,u,⟨v,r,e,hv,hr⟩=>by subst e;simp [Wh hr]
theorem Wi {own:List ai}{h:bf}{k:Str}{c:CV}:∀{xs} {vs},cf own h xs vs->xs.lookup k=some c->∃y,valueAt vs k=some y∧RelV own h c y
 |[],u,e,h=>by exact nS h|(x,c')::xs,u,⟨v,r,e,hv,hr⟩,h=>by
  subst e;rw[nD] at h;unfold valueAt;rw[vV];by_cases hx:k=x
  ·subst hx;simp [beq_self_eq_true,aqm] at h;subst h;simp only [decide_true];exact⟨v,rfl,hv⟩
  rw[beq_eq_false_iff_ne.mpr hx] at h;rw[show decide ((x,v).1=k)=false from decide_eq_false λe=>hx e.symm];exact Wi hr h
section
variable {st:List ae}{k:Nat}{es:List (Str×CV)}{xs ys:List CV}{e:aq}
theorem Wj {x:Str}(hk:st[k]?=some (.map es))(hv:es.lookup x=some v):fF d e (.ab k) (.str x) st v st:=λA own s y z q S ra rb=>by obtain⟨a,ha,rfl⟩:=ra;obtain⟨t,rfl⟩:=rb;obtain⟨a',b8,kvs,o,ho,hd,hr⟩:=S.bD hk;rw[ha] at b8;obtain rfl:=dE b8;have hD:=Rp.mpr ⟨o,ho,hd⟩;obtain⟨y,hy,ry⟩:=Wi hr hv;apply yt hD.mapOf.typeIs PySem.F.slot_dict_getitem.lookup;exact wpAny_getItem_of (by simp [PySem.strKind,an.isStrOf]) hD.mapOf hy ⟨own,.toks,S.toks _,ry⟩
theorem afm {pos:Pos}{x:Str}(c9:a8 d c kx st (.str x) aw)(gf:a8 d c vx aw v aJ)(hk:aJ[k]?=some (.map es))(bn:es.length<=cX):sZ d c (.DictComp kx vx gens sc pos) k st (aJ.set k (.map (yw es x v))):=λA own s env a q S R nQ=>by refine(c9 A own s env q S R).bind λaO kv s₁ bF ⟨bq,cx⟩=>?_;refine(Tr.holding<|gf A aO s₁ env q bq<|R.ext bF).bind λaS vv aR cY ⟨bw,di⟩=>Tr.eh<|Tr.holding ?_;obtain⟨t,rfl⟩:=cx.aM cY.aM;have ha:=cY.aM.bD _ _<|bF.aM.bD _ _ nQ;obtain⟨a',b8,kvs,o,ho,hd,hr⟩:=bw.bD hk;rw[ha] at b8;obtain rfl:=dE b8;have hD:=Rp.mpr ⟨o,ho,hd⟩;refine wpAny_dictSet_pairs (k:=x) (by simp [PySem.strKind,an.isStrOf]) hD (λh' lC hs=>?_) (by rwa[Wh hr]);obtain⟨o',gO,lC⟩:=Rp.mp lC;exact⟨aS,a9.set bw ha hs.extBut,bw.set ha hs.extBut λg=>⟨_,o',gO,lC,afl (hr.aM g)<|di.aM g⟩⟩
theorem Wk {l:Nat}(hk:st[k]?=some (.list xs))(hl:st[l]?=some (.list ys))(bn:xs.length+ys.length<=cX):oN d .Add (.ab k) (.ab l) st (.ab st.length) (st++[.list (xs++ys)]):=λA own s x y q S ra rb=>by
 obtain⟨a,ha,rfl⟩:=ra;obtain⟨b,hb,rfl⟩:=rb;obtain⟨a',b8,vs,n,ho,hr⟩:=S.bD hk;obtain⟨b',oX,ws,m,gO,fX⟩:=S.bD hl;rw[ha] at b8;obtain rfl:=dE b8;rw[hb] at oX;obtain rfl:=dE oX;have e:vs.toArray++ws.toArray=(vs++ws).toArray:=by simp
 refine concat_meets ⟨_,ho,rfl⟩ ⟨_,gO,rfl⟩ noFill_list_add seq_list_add PySem.F.slot_list_add PySem.F.entry_list_add (PySem.F.args_list_add_2 _ _) (list_addW a b vs.toArray ws.toArray n m none none #[] #[] (by simp;exact ah [_,_,_,_,_] (.le (.a .o .i) .u<|.c (-1) 0 (.eq .o .w)<|.c (-1) 0 (.eq .i .x)<|.gl (.a .w .x) .u) rfl bn (aF.length hr) (aF.length fX))) ⟨ho,gO,?_⟩;exact e▸S.newList (aF.append hr fX)
theorem uJ (hk:st[k]?=some (.list xs))(bn:(xs.length:Int)<2^63):bk d (.bi "len") [.ab k] [] st (.int xs.length) st:=wy λA own s y q S ry=>by obtain⟨a,vs,n,rfl,ha,ho,hr,hl⟩:=S.kY hk ry;refine call_len_list ⟨_,ho,rfl,n,rfl⟩ (by rwa[ig,<-hl]) ⟨own,.toks,S.toks _,s.toks+1,?_⟩;rw[ig,<-hl]
theorem afn {x:Str}(bn:(x.length:Int)<2^63):bk d (.bi "len") [.str x] [] st (.int x.length) st:=wy λA own s y q S ry=>by obtain⟨t,rfl⟩:=ry;exact call_len_gives (Fe s x t) F.slot_str_len F.entry_str_len (F.args_str_len_1 _) (gives_str_len x t) (o80) (by lia) ⟨own,.toks,S.toks _,s.toks+1,rfl⟩
theorem MI {t u:Tok}(S:Sx own st s)(ht:tk≠0:=by first|exact ka _|assumption|exact Sx.tk (by assumption)):Ao own s (PV st (.fW a b z)) (.ref s.heap.objs.size) {s with heap:=s.heap.push {cls:=.type "range",data:=.fields #[.int a t,.int b u,.int z v]},toks:=tk}:=by have ml:∀b' o,s.heap.get? b'=some o->(s.heap.push {cls:=.type "range",data:=.fields #[.int a t,.int b u,.int z v]}).get? b'=some o:=λb o e=>fT _ e;have iA:s.heap.get? s.heap.objs.size=none:=iI<|aG _;exact⟨own,a9.more ml,S.more ml,_,t,u,v,rfl,S.jO iA,S.mf iA,iy _ rfl⟩
theorem afo:bk d (.ty "range") [.int n] [] st (.fW 0 n 1) st:=Da λA own s y q S ry=>by obtain⟨t,rfl⟩:=ry;exact PySem.call_range_1<|MI S
theorem afp:bk d (.ty "range") [.int a,.int b] [] st (.fW a b 1) st:=aeP λA own s y z q S ry rz=>by obtain⟨t,rfl⟩:=ry;obtain⟨u,rfl⟩:=rz;exact PySem.call_range_2<|MI S
theorem Wl (hz:z≠0)(hp:Re (b-a) z=false):bk d (.ty "range") [.int a,.int b,.int z] [] st (.fW a b z) st:=aeR λA own s y z w q S ry rz rw=>by obtain⟨t,rfl⟩:=ry;obtain⟨u,rfl⟩:=rz;obtain⟨v,rfl⟩:=rw;exact PySem.call_range_3 hz (MI S)<|.inl hp
noncomputable def cQ (x:Str):List Str:=x.cps.toList.map λc=>⟨#[c]⟩
theorem Wm {x:Str}(bn:x.length<=cX):bk d (.ty "list") [.str x] [] st (.ab st.length) (st++[.list ((cQ x).map CV.str)]):=Da λA own s y q S ry=>by
 obtain⟨t,rfl⟩:=ry;refine bC (xG (l7.mpr S.tk) (E:=λz z=>False) (Q:=λr s'=>∃h' tk oP c',(∀b o,s.heap.get? b=some o->h'.get? b=some o)∧h'.get? s.heap.objs.size=some {cls:=.type "list",dict:=none,data:=.seq oP c',slots:=#[]}∧ItemsOf (SignAt x) oP x.cps.size∧r=.ref s.heap.objs.size∧s'= {s with heap:=h',toks:=tk})
  (PySem.call_list_str q.1 x t (λh' tk oP c' hk ho hi=>⟨h',tk,oP,c',hk,ho,hi,rfl,rfl⟩) bn)) (λr s' hx=>?_) λz z x=>x.2.elim
 obtain⟨ku,h',tk,oP,c',hk,ho,hi,rfl,rfl⟩:=hx;have lz:tk≠0:=l7.mp ku;have iA:s.heap.get? s.heap.objs.size=none:=iI<|aG _;refine⟨_,a9.push hk iA,S.push hk iA λg=>⟨oP.toList,c',aqc▸ho,?_⟩,_,(by rw[<-S.len,dT<|aG _,fk];rfl),rfl⟩;obtain⟨afq,i3⟩:=hi;have key:∀(cs:List Nat) vs,vs.length=cs.length->(∀(j:Nat) v,vs[j]?=some v->∃c u,cs[j]?=some c∧v=an.str ⟨#[c]⟩ u)->aF (own++[s.heap.objs.size]) h' ((cs.map λc=>(⟨#[c]⟩)).map CV.str) vs:=λcs=>by
  induction cs with
  |nil=>intro vs hl _;rw[zT] at hl;rw[aqn.mp hl];rfl|cons c cs ih=>intro vs hl hv;cases vs with|nil=>cases hl|cons v r=>obtain⟨c',u,e1,e2⟩:=hv 0 v rfl;obtain rfl:=dE e1;exact⟨v,r,rfl,⟨u,e2⟩,ih r (by simpa using hl) λj v hj=>by simpa using hv (j+1) v (by simpa using hj)⟩
 refine key x.cps.toList oP.toList (by simpa using afq) λj v hj=>?_;obtain⟨c,u,e1,e2⟩:=i3 j v (by simpa using hj);exact⟨c,u,by simpa using e1,e2⟩
end
end
section
variable {d:Nat}{c:aY}
theorem Wn:∀{ns:List Int} {vs} {i} {v:an},aF own h (ns.map CV.int) vs->vs[i]?=some v->∃t,v=.int (ns.getD i 0) t
 |[],x,i,v,e,h=>by subst e;exact nS h|n::ns,x,0,v,⟨y,r,e,⟨t,ht⟩,hr⟩,h=>by subst e;obtain rfl:=dE h;exact⟨t,ht⟩|n::ns,x,i+1,v,⟨y,r,e,u,hr⟩,h=>by subst e;obtain⟨t,ht⟩:=Wn hr (by simpa using h);exact⟨t,by simpa using ht⟩
theorem GW {own:List ai}{h:bf}{ns:List Int}{vs:List an}{i:Nat}{v:an}(hr:aF own h (ns.map CV.int) vs)(hv:vs.toArray[i]?=some v):∃t,v=.int (ns.getD i 0) t:=Wn hr<|Rj.symm.trans hv
theorem MJ (ns:List Int):∀j,j<=ns.length->preSum (λi=>ns.getD i 0) j=(ns.take j).sum
 |0,x=>by simp [preSum]|j+1,h=>by have hj:j<ns.length:=ah [_,_] (.le (.a .o .j) .i<|.gt .o .i) rfl h;rw[preSum,MJ ns j<|xN hj,<-List.take_append_getElem hj,List.sum_append,Rv,List.sum_nil];simp [hj]
section
variable {st:List ae}{k:Nat}{ns:List Int}
inductive afr (s:az)(i:Int)(r:an)(s':az):Prop|mk (h':bf) (tk t':Tok) (hk:∀b o,s.heap.get? b=some o->h'.get? b=some o) (e:r=.int i t') (e':s'= {s with heap:=h',toks:=tk})
theorem Tr.MK {A:Around}{own:List ai}{s:az}{m:Sem an}{i:Int}(S:Sx own st s)(h:be (aQ X.prog X.w) A m (afr s i) (λu u=>False) s):Tr A own s m (PV st (.int i)):=
 bC (xG (l7.mpr S.tk) h) (λr s' hx=>by obtain⟨ku,h',tk,t',ql,rfl,rfl⟩:=hx;have lz:=l7.mp ku;exact⟨own,a9.more ql,S.more ql,_,rfl⟩) λu u x=>x.2.elim
theorem ML {hp:bf}{o:Obj}{a:ai}(ha:a<hp.objs.size):∀b∈[hp.objs.size,a],b<(hp.push o).objs.size:=λb hb=>by
 rw[E8];rcases pO.mp hb with e|e
 ·exact e▸rg _
 exact gV.mp e▸pT ha
theorem MM {hp h':bf}{n:Nat}{o:Obj}(hn:hp.objs.size<=n)(ql:∀b o',b∉[n]->(hp.push o).get? b=some o'->h'.get? b=some o'):∀b o',hp.get? b=some o'->h'.get? b=some o':=λb o' e=>
 ql b o' (λhb=>absurd (sE e)<|Rw.mpr<|gV.mp hb▸hn) (fT _ e)
theorem afs (hk:st[k]?=some (.list (ns.map CV.int)))(hf:∀j,j<ns.length->InLong (ns.getD j 0)∧InLong ((ns.take (j+1)).sum)):bk d (.bi "sum") [.ab k] [] st (.int ns.sum) st:=wy λA own s y q S ry=>by obtain⟨a,vs,n,rfl,ha,ho,hr,hl⟩:=S.kY hk ry;rw[aV] at hl;have hL:s.heap.IsList a vs.toArray:=⟨_,ho,rfl,n,rfl⟩;refine Tr.MK S<|call_sum_walk<|abn hL ⟨_,_,_,_,_,_,λi=>ns.getD i 0,rfl,Walks.list (A:=A.in1) q.1 _ a (pQ<|sE ho) vs.toArray,⟨⟨_,iy _ rfl,rfl,rfl⟩,hL.push _⟩,ML<|sE ho,λi v hv=>GW hr hv,λj hj=>?_,λh' tk t' ql=>⟨h',tk,t',MM (aG _) ql,(by rw[show vs.toArray.size=ns.length from hl.symm,MJ ns _<|aG _,B7]),rfl⟩⟩;have nW:=Kn hj hl.symm;exact MJ ns (j+1) nW▸hf j nW
theorem Wo (val:Nat->Int):∀n,xI (λi j=>decide (val i>val j)) n<=n∧∀i,i<=n->val i<=val (xI (λi j=>decide (val i>val j)) n)
 |0=>⟨aG _,λi hi=>by rw[Nat.le_zero.mp hi];exact zG _⟩|n+1=>by
  obtain⟨h1,h2⟩:=Wo val n;rw[xI];generalize xI (λi j=>decide (val i>val j)) n=b at *;by_cases hb:val (n+1)>val b
  ·rw[decide_eq_true hb,if_pos rfl];exact⟨aG _,λi hi=>(abE hi).elim (λh=>QY (h2 i<|abx h)<|Int.le_of_lt hb) λh=>h▸zG _⟩
  rw[decide_eq_false hb,if_neg fL];exact⟨Fa h1,λi hi=>(abE hi).elim (λh=>h2 i<|abx h) λh=>h▸sB.mp hb⟩
theorem MN {j:Nat} h:ns.getD j 0=ns[j]:=by rw[ed,bA h];rfl
theorem afu {m:Int}(hk:st[k]?=some (.list (ns.map CV.int)))(hm:m∈ns)(d6:∀y∈ns,y<=m):bk d (.bi "max") [.ab k] [] st (.int m) st:=wy λA own s y q S ry=>by obtain⟨a,vs,n,rfl,ha,ho,hr,hl⟩:=S.kY hk ry;rw[aV] at hl;have hL:s.heap.IsList a vs.toArray:=⟨_,ho,rfl,n,rfl⟩;have Wp:=List.length_pos_of_mem hm;refine Tr.MK S<|call_max_walk<|abn hL ⟨_,_,_,_,_,_,λi j=>decide (ns.getD i 0>ns.getD j 0),rfl,Walks.list (A:=A.in1) q.1 _ a (pQ<|sE ho) vs.toArray,⟨⟨_,iy _ rfl,rfl,rfl⟩,hL.push _⟩,ML<|sE ho,Kn Wp hl,CmpOf.ints_gt _ λi v hv=>GW hr hv,λv h' tk hv ql=>?_⟩;obtain⟨t',oY⟩:=GW hr hv;obtain⟨h1,h2⟩:=Wo (λi=>ns.getD i 0)<|vs.toArray.size-1;refine⟨h',tk,t',MM (aG _) ql,oY.trans ?_,rfl⟩;have hs:vs.toArray.size=ns.length:=hl.symm;rw[hs] at h1 h2 ⊢;generalize xI (λi j=>decide (ns.getD i 0>ns.getD j 0)) (ns.length-1)=b at *;have hb:=q7 h1<|aba Wp abb;obtain⟨i,hi,e⟩:=pN.mp hm;have h3:=h2 i<|Nat.le_sub_one_of_lt hi;rw[MN hi,MN hb,e] at h3;rw[MN hb,Int.le_antisymm (d6 _<|Rs hb) h3]
theorem afv {i j:Int}:bk d (.bi "min") [.int i,.int j] [] st (.int (min i j)) st:=uG λA own s y z q S ry rz=>by
 obtain⟨ti,rfl⟩:=ry;obtain⟨tj,rfl⟩:=rz;have hT:({s with heap:=s.heap.push {cls:=.type "tuple",data:=.seq #[.int i ti,.int j tj]}}).heap.IsTuple s.heap.objs.size #[.int i ti,.int j tj]:=⟨_,iy _ rfl,rfl,_,rfl⟩;have aZ:s.heap.objs.size<(s.heap.push {cls:=.type "tuple",data:=.seq #[.int i ti,.int j tj]}).objs.size:=by rw[E8];exact rg _
 refine Tr.MK S<|call_min_two<|wpAny_pyIter_tuple hT ⟨_,_,_,_,_,_,λa b=>decide (([i,j]).getD a 0<([i,j]).getD b 0),rfl,Walks.tuple (A:=A.in1) q.1 _ s.heap.objs.size (pQ aZ) #[.int i ti,.int j tj],⟨⟨_,iy _ rfl,rfl,rfl⟩,hT.push _⟩,ML aZ,vI 1,CmpOf.ints_lt _ λa v hv=>GW (own:=own) (h:=s.heap) ⟨_,_,rfl,⟨ti,rfl⟩,_,_,rfl,⟨tj,rfl⟩,rfl⟩ hv,λv h' tk hv ql=>?_⟩;have jg:=λb o e=>MM (Ff aZ) (λb o hb e=>ql b o hb<|fT _ e) b o e;have hb:xI (λa b=>decide (([i,j]).getD a 0<([i,j]).getD b 0)) 1=if j<i then 1 else 0:=by
  rw[xI,xI];by_cases h:j<i
  ·rw[if_pos h];exact if_pos<|decide_eq_true h
  rw[if_neg h];exact if_neg<|ne_true_of_eq_false<|decide_eq_false h
 have hv:#[an.int i ti,an.int j tj][xI (λa b=>decide (([i,j]).getD a 0<([i,j]).getD b 0)) 1]?=some v:=hv;rw[hb] at hv;by_cases ii:j<i
 ·rw[if_pos ii] at hv;exact⟨h',tk,tj,jg,by rw[Int.min_eq_right<|Int.le_of_lt ii];exact(dE hv).symm,rfl⟩
 rw[if_neg ii] at hv;exact⟨h',tk,ti,jg,by rw[abF<|sB.mp ii];exact(dE hv).symm,rfl⟩
end
end
section
variable {d:Nat}{c:aY}
section
variable {st:List ae}{k:Nat}{x y:Str}
theorem yx:gM d "join" (.str x) st (.bi "str.join") [.str x]:=λA own s v pl q S r=>by obtain⟨t,rfl⟩:=r;exact GM.join ⟨own,.refl,S,rfl,_,_,rfl,⟨t,rfl⟩,rfl⟩
theorem MO:gM d "lower" (.str x) st (.bi "str.lower") [.str x]:=λA own s v pl q S r=>by obtain⟨t,rfl⟩:=r;exact GM.lower ⟨own,.refl,S,rfl,_,_,rfl,⟨t,rfl⟩,rfl⟩
theorem yy:gM d "count" (.str x) st (.bi "str.count") [.str x]:=λA own s v pl q S r=>by obtain⟨t,rfl⟩:=r;exact GM.count ⟨own,.refl,S,rfl,_,_,rfl,⟨t,rfl⟩,rfl⟩
theorem afw:gM d "replace" (.str x) st (.bi "str.replace") [.str x]:=λA own s v pl q S r=>by obtain⟨t,rfl⟩:=r;exact GM.replace ⟨own,.refl,S,rfl,_,_,rfl,⟨t,rfl⟩,rfl⟩
theorem Wq:∀{ss:List Str} {vs:List an},aF own h (ss.map CV.str) vs->∃l:List (Str×Tok),vs=strValues l∧l.map (·.1)=ss
 |[],x,e=>by subst e;exact⟨[],rfl,rfl⟩|s::ss,x,⟨v,r,e,⟨t,ht⟩,hr⟩=>by subst e;obtain⟨l,h1,h2⟩:=Wq hr;exact⟨(s,t)::l,by rw[ht,h1];rfl,by rw[<-h2];rfl⟩
theorem AR {ss:List Str}(hk:st[k]?=some (.list (ss.map CV.str)))(mZ:zU x ss=true):bk d (.bi "str.join") [.str x,.ab k] [] st (.str (gY x ss)) st:=uG λA own s y z q S ry rz=>by obtain⟨t,rfl⟩:=ry;obtain⟨a,vs,n,rfl,ha,ho,hr,hl⟩:=S.kY hk rz;obtain⟨l,h1,h2⟩:=Wq hr;subst h1;refine bC (xG (l7.mpr S.tk) (E:=λu u=>False) (Q:=λr s'=>∃t' k,r=.str (gY x ss) t'∧s'= {s with toks:=k})<|SC.join ⟨_,ho,rfl,n,rfl⟩ h2 mZ λt' k=>⟨t',k,rfl,rfl⟩) (λr s' hx=>?_) λu u x=>x.2.elim;obtain⟨ku,t',k,rfl,rfl⟩:=hx;have lz:k≠0:=l7.mp ku;exact⟨own,.toks,S.toks _,_,rfl⟩
theorem MP:bk d (.bi "str.count") [.str x,.str y] [] st (.int (sM x y)) st:=uG λA own s y z q S ry rz=>by obtain⟨t,rfl⟩:=ry;obtain⟨u,rfl⟩:=rz;exact vU F.slot_str_count (Fe s x t) F.entry_str_count (F.args_str_count_2 _ _) (gives_str_count x y t u).meets ⟨own,.toks,S.toks _,_,rfl⟩
theorem Wr (h:pU (bZ x).length=false):bk d (.bi "str.lower") [.str x] [] st (.str (bZ x)) st:=wy λA own s y q S ry=>by obtain⟨t,rfl⟩:=ry;exact vU F.slot_str_lower (Fe s x t) F.entry_str_lower (F.args_str_lower_1 _) (gives_str_lower x t h).meets ⟨(by have:=h;simp [pU] at this;exact this),own,.toks,S.toks _,_,rfl⟩
theorem Ws:bk d (.ty "type") [.str x] [] st (.ty "str") st:=Da λA own s y q S ry=>by obtain⟨t,rfl⟩:=ry;exact call_type_of (Fe s x t) rfl ⟨own,.refl,S,rfl⟩
theorem Wt (hk:st[k]?=some (.list xs)):bk d (.ty "type") [.ab k] [] st (.ty "list") st:=Da λA own s y q S ry=>by obtain⟨a,vs,n,rfl,ha,ho,hr,hl⟩:=S.kY hk ry;exact call_type_of ⟨_,ho,rfl⟩ rfl ⟨own,.refl,S,rfl⟩
end
end
section
variable {d:Nat}{c:aY}
theorem gm.get {own:List ai}{h:bf}{x:Str}{c:CV}:∀{es} {dA},gm own h es dA->es.lookup x=some c->∃v,getL x dA=some (some v)∧RelV own h c v
 |[],o,e,h=>by exact nS h|(y,c')::es,o,⟨t,v,r,e,hv,hr⟩,h=>by
  subst e;rw[nD] at h;unfold getL;rw[vV];by_cases hx:x=y
  ·subst hx;simp [beq_self_eq_true,aqm] at h;subst h;rw[show(an.str x t).isStr x=true by simp [Kq]];exact⟨v,rfl,hv⟩
  rw[beq_eq_false_iff_ne.mpr hx] at h;rw[show(an.str y t).isStr x=false by simp [Kq];exact λe=>hx e.symm];obtain⟨u,h1,h2⟩:=gm.get hr h;refine⟨u,?_,h2⟩;unfold getL at h1;simp only;revert h1;cases List.find? (λe=>e.key.isStr x) r with|some e=>exact λh1=>h1|none=>simp only [Fb];intro h1;split at h1<;>cases h1
theorem gm.refKey:∀{es:List (Str×CV)} {dA:List nC},gm own h es dA->dA.any (·.refKey)=false
 |[],x,e=>by subst e;rfl|(y,c')::es,x,⟨t,v,r,e,hv,hr⟩=>by subst e;rw[Fb,gm.refKey hr];rfl
theorem gm.Wu {x:Str}:∀{es} {dA},gm own h es dA->es.lookup x=none->getL x dA=some none:=by
 intro es dA hr hl;have AS:=hr.refKey;have:dA.find? (λe=>e.key.isStr x)=none:=by
  revert hl hr;clear AS;induction es generalizing dA with
  |nil=>intro e _;subst e;rfl|cons p es ih=>
   obtain⟨y,c'⟩:=p;rintro ⟨t,v,r,e,hv,hr⟩ hl;subst e;rw[nD] at hl;rw[vV];by_cases hx:x=y
   ·subst hx;simp at hl
   rw[beq_eq_false_iff_ne.mpr hx] at hl;rw[show(an.str y t).isStr x=false by simp [Kq];exact λe=>hx e.symm];exact ih hr hl
 unfold getL;rw[this,AS];rfl
theorem gm.MQ {own:List ai}{h:bf}{x:Str}{tk:Tok}{c:CV}{y:an}(hy:RelV own h c y):∀{es} {dA},gm own h es dA->gm own h (mj es x c) (putL x (q8 X.w.params x) (.str x tk) y dA)
 |[],u,e=>by subst e;exact⟨tk,y,[],rfl,hy,rfl⟩|(z,c')::es,u,⟨t,v,r,e,hv,hr⟩=>by
  subst e;rw[Ur,putL];by_cases hx:x=z
  ·subst hx;rw[if_pos (by simp),if_pos<|by simp [Kq]];exact⟨t,y,r,rfl,hy,hr⟩
  rw[if_neg (by simpa using hx),if_neg<|by simp [Kq];exact λe=>hx e.symm];exact⟨t,v,_,rfl,hv,gm.MQ hy hr⟩
theorem gm.len:∀{es} {dA},gm own h es dA->dA.length=es.length
 |[],x,e=>by subst e;rfl|(y,c')::es,x,⟨t,v,r,e,hv,hr⟩=>by subst e;simp [gm.len hr]
noncomputable def GX:CV->Bool
 |.bi x=>false|_=>true
theorem Wv {own:List ai}{h:bf}{c:CV}{v:an}(hb:GX c=true)(r:RelV own h c v):handedIn v=true:=by cases c<;>first|(cases hb;done)|(exact False.elim r)|(cases r;rfl)|(obtain⟨t,rfl⟩:=r;rfl)|(obtain⟨t,_,rfl⟩:=r;rfl)|(obtain⟨t,_,_,rfl,_⟩:=r;rfl)|(obtain⟨t,_,rfl,_⟩:=r;rfl)|(obtain⟨t,_,_,_,rfl,_⟩:=r;rfl)
structure wC (C:ai):Prop where
 get:plainGet X.K C "" = true
 dict:hasDictIn X.K C=true
 set:xJ X.K (.ref C) "__setattr__" = some (some (.builtin "object.__setattr__"))
 over:plainOver X.K C=true
section
variable {st:List ae}{k dd:Nat}{C:ai}{es:List (Str×CV)}{name:Str}
theorem GY (S:Sx own st s)(hk:st[k]?=some (.bE C dd))(hd:st[dd]?=some (.bt es))(ha:own[k]?=some a):∃dx dA n,own[dd]?=some dx∧InstAt s.heap a (instObj C dx) C (some (BY dA n))∧s.heap.get? dx=some (BY dA n)∧gm own s.heap es dA:=by obtain⟨a',b8,dx,qw,ho⟩:=S.bD hk;rw[ha] at b8;obtain rfl:=dE b8;obtain⟨dx',De,dA,n,m4,hr⟩:=S.bD hd;rw[qw] at De;obtain rfl:=dE De;exact⟨dx,dA,n,qw,⟨ho,rfl,rfl,m4⟩,m4,hr⟩
theorem MR (Y:wC C)(hk:st[k]?=some (.bE C dd))(hd:st[dd]?=some (.bt es))(hv:es.lookup name=some v)(ha:xJ X.K (.ref C) name=some yz)(hn:noGet X.K yz=true)(hb:GX v=true):rG d name (.ab k) st v st:=λA own s x q S r=>by obtain⟨a,uK,rfl⟩:=r;obtain⟨dx,dA,n,qw,I,m4,hr⟩:=GY S hk hd uK;obtain⟨u,hu,ru⟩:=hr.get hv;exact get_value (vS S.ok.k S.bj) I (Kr Y.get).1 (findObj_own Y.dict ha hn<|by rwa[Rx]) (Wv hb ru) ⟨own,.toks,S.toks _,ru⟩
theorem ta (Y:wC C)(hk:st[k]?=some (.bE C dd))(hd:st[dd]?=some (.bt es))(hv:es.lookup name=none)(hf:xJ X.K (.ref C) name=some (some (.ref f)))(ht:typeIn X.K (.ref f)=some (.type "function")):gM d name (.ab k) st (.aH f) [.ab k]:=λA own s x pl q S r=>by obtain⟨a,uK,rfl⟩:=r;obtain⟨dx,dA,n,qw,I,m4,hr⟩:=GY S hk hd uK;exact method_fn (vS S.ok.k S.bj) I (Kr Y.get).1 (Kr Y.get).2 hf ht (by show(lookIn name<|BY dA n).map _=_;rw[Rx,hr.Wu hv];rfl) ⟨own,.refl,S,rfl,_,_,rfl,⟨a,uK,rfl⟩,rfl⟩
end
end
section
variable {d:Nat}{c:aY}
section
variable {st:List ae}{k dd:Nat}{C:ai}{es:List (Str×CV)}{name:Str}
theorem GZ (Y:wC C)(hk:st[k]?=some (.bE C dd))(hd:st[dd]?=some (.bt es))(ht:takerIn X.K C name=some none)(bn:es.length<=999):uA d name (.ab k) v st (st.set dd (.bt (mj es name v))):=λA own s x y q S r rv=>by
 obtain⟨a,uK,rfl⟩:=r;obtain⟨dx,dA,n,qw,I,m4,hr⟩:=GY S hk hd uK;have KI:=vS S.ok.k S.bj;refine set_plain KI I Y.set<|osa_open KI I Y.over ht λb=>?_;obtain⟨cd,hc,mh⟩:=any_some Y.dict;obtain⟨hx,-,-,-⟩:=I;have G0:(instObj C dx).dict=some dx:=rfl;dsimp only;refine aB<|bH<|aB<|aB<|B8 hx<|aB<|Looks.here (looks_clsIn KI hc) ?_;rw[mh];refine bH<|aB<|bH<|aB ?_;refine aB<|aB<|abr<|bH<|aB<|B1<|aB<|B8 m4 ?_;dsimp only;have Df:(!(dA.toArray).any (·.key.isStr name)&&(dA.toArray).any (·.refKey))=false:=by rw[<-Array.any_toList,<-Array.any_toList,aqp,hr.refKey,abC]
 rw[aRefKeyMayBeTheName_at,Df];have e:=putName_dict name (q8 X.w.params name) (.str name<|s.toks+1) y dA n;have Dg:(s.heap.update dx<|Ry name (q8 X.w.params name) (.str name<|s.toks+1) y).get? dx=some (BY (putL name (q8 X.w.params name) (.str name<|s.toks+1) y dA)<|putN name dA n):=by rw[E9 _ m4 (by rw[e];rfl),e]
 refine wpAny_updatePart m4 ?_;have x8:(putL name (q8 X.w.params name) (.str name<|s.toks+1) y dA).length<=1000:=by
  have:∀l,(putL name (q8 X.w.params name) (.str name<|s.toks+1) y l).length<=l.length+1:=λl=>by induction l with|nil=>simp [putL]|cons e r ih=>rw[putL];split<;>simp<;>omega
  exact ah [_,_,_] (.eq .o .i<|.le .i (.n 999)<|.le .u (.a .o .j)<|.gl .u<|.n 1000) rfl hr.len bn (this dA)
 refine aB<|wpAny_lookBehind Dg (pastItsLine_dict<|ig▸vW▸ah [_,_] (.le .o (.n 1000)<|.gl .o<|.a (.n 16777216) .i) rfl x8) ?_;apply bH;have hs:f6 dx s.heap (s.heap.update dx<|Ry name (q8 X.w.params name) (.str name<|s.toks+1) y):=(rj ..).extBut;exact⟨own,a9.set S qw hs,S.set qw hs λg=>⟨_,_,Dg,gm.MQ (rv.aM g)<|hr.aM g⟩⟩
end
end
section
variable {d:Nat}{c:aY}
theorem afy (q:Rm (d+1) A):Rm d (A.under (.builtin "type.__call__" ⟨.ref C::rest,kw⟩)):=by
 refine⟨q.1,?_,?_⟩
 ·show A.depth+1+d<Ka;have:=q.2.1;exact KJ this
 have h:(Code.builtin "type.__call__" ⟨.ref C::rest,kw⟩).cUnits=1:=rfl;exact ah [_,_,_,_,_] (.lt (.a .o<|.m 8<|.a .i .u) .w<|.eq .x .u<|.gt (.a (.a .o .x)<|.m 8 .i) .w) rfl q.2.2 h
section
variable {st ag:List ae}{C fI:ai}{args:List CV}{kw:List (Str×CV)}
theorem MS (hm:makesIn X.K C=true)(hi:xJ X.K (.ref C) "__init__"=some (some (.ref fI)))(hf:typeIn X.K (.ref fI)=some (.type "function")) (h:bM d (.aH fI) (.ab (st.length+1)::args) kw (st++[.bt [],.bE C st.length]) .none ag):bM (d+1) (.aH C) args kw st (.ab (st.length+1)) ag:=λA own s fv ws ks q S fQ cx di=>by
 subst fQ;have KI:=vS S.ok.k S.bj;have afz:∀b o,s.heap.get? b=some o->((s.heap.push emptyDict).push<|instObj C s.heap.objs.size).get? b=some o:=λb o e=>fT _<|fT _ e;have bn:(s.heap.push emptyDict).objs.size=s.heap.objs.size+1:=E8 ..;have iA:∀a,s.heap.objs.size<=a->s.heap.get? a=none:=λa h=>iI h;obtain⟨S',E',g⟩:=S.Gq (as:=[s.heap.objs.size,s.heap.objs.size+1]) (os:=[.bt [],.bE C st.length]) afz (λa ha=>by
  rcases pO.mp ha with e|ha
  ·exact iA _<|ll e.symm
  ·exact gV.mp ha▸iA _ (ke _)) (by
  refine zJ.mpr ⟨λhm=>?_,by simp⟩;exact absurd (gV.mp hm)<|pQ<|rg _) rfl (λg i o a e1 e2=>by
  match i,e1,e2 with
  |0,e1,e2=>obtain rfl:=dE e1;obtain rfl:=dE e2;exact⟨[],0,fT _<|iy _ rfl,rfl⟩|1,e1,e2=>obtain rfl:=dE e1;obtain rfl:=dE e2;refine⟨s.heap.objs.size,(by rw[<-S.len,dT<|aG _,fk];rfl),?_⟩;exact bn▸iy _ rfl|n+2,e1,e2=>exact nS e1)
 have C2:(own++[s.heap.objs.size,s.heap.objs.size+1])[st.length+1]?=some (s.heap.objs.size+1):=by rw[<-S.len,dT<|ke _,Ks<|aG _,fk];rfl
 apply make_core (makes_of KI hm) (looks_findIn KI hi) (λqf=>bind_fn KI qf hf)<|.inl rfl;refine pS (h (A.under<|.builtin "type.__call__" ⟨.ref C::ws,ks⟩) _ _ _ (.ref (s.heap.objs.size+1)::ws) ks (afy q) S' rfl ⟨_,_,rfl,⟨_,C2,rfl⟩,aF.aM g _ cx⟩ (di.aM g)) λr s' hp=>?_;cases r with
 |error e=>exact hp|ok f=>cases f with|ret v=>obtain⟨av,bX,bw,rv⟩:=hp;exact⟨rv,av,E'.trans bX,bw,_,bX.aM.bD _ _ C2,rfl⟩|_=>exact hp
theorem bM.at aU (h:bM d wt wu ww iE s6 qm)(hn:aU.Nodup)(hs:g4 aU st=some iE)(hf:f.bI (eW aU)=some wt)(ha:CV.gn (eW aU) args=some wu)(hk:jh (eW aU) kw=some ww)(hb:uE aU st qm=some ag)(hv:s6.bI (jT aU st.length)=some v):bM d f args kw st v ag:=λA own s fv vs ks q S fQ cx di=>by
 have aZ:∀k∈aU,k<own.length:=λk hk=>S.len▸yj hs k hk;have R:=C6 (h:=s.heap) aZ;refine pS (h A _ s fv vs ks q (S.aU hn hs) (RelV.bI R f hf fQ) (aF.bI R args ha cx)<|cf.mv R.mv hk di) λr s' hp=>?_;cases r with
 |error e=>exact hp|ok fl=>cases fl with|ret x=>obtain⟨mV,E,S',r⟩:=hp;obtain⟨r',e,E',C7,R'⟩:=S.sU hn hs E S' hb;exact⟨_,E',C7,RelV.bI R' s6 hv r⟩|_=>exact hp
theorem bM.qr (h:bM d f args kw st v aJ)(k:GI st.length aJ v ag v'):bM d f args kw st v' ag:=λA own s fv vs ks q S fQ cx di=>by
 refine pS (h A own s fv vs ks q S fQ cx di) λr s' hp=>?_;cases r with
 |error e=>exact hp|ok fl=>cases fl with|ret x=>obtain⟨aS,E,bw,r⟩:=hp;obtain⟨av,E',S',_,_,k'⟩:=k.ext rfl S E bw;exact⟨av,E',S',k' x r⟩|_=>exact hp
theorem cK (h:jz X.K (.ref a)=true):oM (.aH a) st:=λown s x S r=>by subst r;obtain⟨k,_,hl⟩:=looks_keep h<|vS S.ok.k S.bj;exact⟨k,hl⟩
end
end
section
variable {d:Nat}{c:aY}
theorem afA {o:aq}{x a b:Str}{mn pos iC kT:Pos}{wD tc:Nat}{st aw:List ae}(hb:xY o=true)(ho:a8 d c o st (.str x) aw)(xZ:mn.endLine=pos.line)(oQ:(a==b)=false)(hx:x.length<=1048576)(hz:b.length<=14):a8 d c (.Call (.Attribute o "replace" mn) [.Constant (.str a) wD iC,.Constant (.str b) tc kT] [] pos) st (.str (sN x a b)) aw:=λA own s env q S R=>by
 rw[arm_eval_Call];refine(Lr hb<|ho A own s env q S R).bind λaO ov s₁ bF ⟨bq,cx⟩=>Tr.eh ?_;unfold methodCall;have hs:∀e∈([.Constant (.str a) wD iC,.Constant (.str b) tc kT]:List aq),∀x p,e≠.Starred x p:=λe he y p h=>by
  subst h;rcases pO.mp he with h|h
  ·cases h
  rw[gV] at h;cases h
 have few:Rb (([.Constant (.str a) wD iC,.Constant (.str b) tc kT]:List aq).length+([]:List ub).length) (pP pos<|l6 [.Constant (.str a) wD iC,.Constant (.str b) tc kT] env) (vO pos<|vP [] env)=true:=by rfl
 rw[few];refine(Tr.holding<|afw A aO s₁ ov _ q bq cx).bind λaS ff aR cY ⟨bw,di,ya⟩=>?_;obtain⟨fv,fs⟩:=ff;have e:methodCallPos true o env mn pos=pure pos:=by exact if_pos (by rw[xZ];simp)
 dsimp only;rw[e,pure_bind];delta callWith;have args:Tr A aS aR (Ke fv true (pP pos<|l6 [.Constant (.str a) wD iC,.Constant (.str b) tc kT] env)<|vO pos<|vP [] env) λav p s'=>Sx av aw s'∧∃t u,p=⟨[.str a t,.str b u],[]⟩∧t≠0∧u≠0∧t≠u:=by
  have sp:Tr A aS aR (zO<|(false,d9 (.Constant (.str a) wD iC) env)::pP pos (l6 [.Constant (.str b) tc kT] env)) λav p s'=>Sx av aw s'∧∃t u,p=[.str a t,.str b u]∧t≠0∧u≠0∧t≠u:=by
   rw[Lw];refine Tr.bind (P:=λav v s'=>av=aS∧v=.str a aR.toks∧s'= {aR with toks:=aR.toks+1}) ?_ λdt v bu jP ⟨h1,h2,h3⟩=>?_
   ·rw[arm_eval_Constant];exact B1 ⟨aS,.toks,rfl,rfl,rfl⟩
   subst h1;subst h2;subst h3;have e2:pP pos (l6 [.Constant (.str b) tc kT] env)=(false,d9 (.Constant (.str b) tc kT) env)::pP pos (l6 [] env):=rfl;rw[e2,Lw];refine Tr.bind (P:=λav vs s'=>Sx av aw s'∧vs=[.str b<|aR.toks+1]) (Tr.holding ?_) λqk vs kq Ay ⟨jQ,h4⟩=>?_
   ·refine Tr.bind (P:=λav v s'=>Sx av aw s'∧v=.str b (aR.toks+1)) ?_ λqk v kq Ay ⟨jQ,h4⟩=>?_
    ·rw[arm_eval_Constant];exact B1 ⟨dt,.toks,(bw.toks<|aR.toks+1).toks<|aR.toks+1+1,rfl⟩
    subst h4;exact(Tr.holding<|Tr.pure (P:=λav vs s'=>Sx av aw s'∧vs=[]) ⟨jQ,rfl⟩).bind λx0 vs nM UN ⟨nR,h5⟩=>by subst h5;exact Tr.pure ⟨nR,rfl⟩
   subst h4;exact Tr.pure ⟨jQ,_,_,rfl,bw.tk,ka _,pQ<|rg _⟩
  refine sp.bind λdt p bu jP ⟨cF,t,u,hp,h1,h2,h3⟩=>Tr.holding ?_;subst hp;exact Tr.pure ⟨cF,t,u,rfl,h1,h2,h3⟩
 refine(Tr.holding args).bind λdt p bu jP ⟨cF,t,u,hp,h1,h2,h3⟩=>Tr.eh ?_;subst hp;have afC:((pP pos<|l6 [.Constant (.str a) wD iC,.Constant (.str b) tc kT] env).any (·.1)||(vO pos<|vP [] env).any (·.1.isNone))=false:=rfl;rw[afC];subst di;obtain⟨_,_,hfs,⟨w,hw⟩,jD⟩:=ya;subst jD;subst hw;subst hfs;apply Ls<|Rq rfl;refine bC (xG (l7.mpr cF.tk) (E:=λz z=>False) (Q:=λr s'=>∃t' k,r=.str (sN x a b) t'∧s'= {bu with toks:=k})<|SC.replaceW h1 h2 h3 oQ hx hz λt' k=>⟨t',k,rfl,rfl⟩) (λr s' hx=>?_) λz z x=>x.2.elim;obtain⟨ku,t',k,rfl,rfl⟩:=hx;have lz:k≠0:=l7.mp ku;exact⟨dt,.toks,cF.toks _,_,rfl⟩
end
section
structure EP where
 es:List aq:=[]
 gs:List oF:=[]
 sc:d8:=default
 ar:pL:=default
 ks:List aq:=[]
 p:Pos:=default
 Ww:Bool:=false
noncomputable def ep:aq->EP
 |.ListComp e g s p=>{es:=[e],gs:=g,sc:=s,p:=p}|.DictComp k v g s x=>{es:=[k,v],gs:=g,sc:=s}|.Call x es ks u=>{es:=es,ks:=ks.map (·.value)}|.BinOp l x r u=>{es:=[l,r]}|.Tuple es x u=>{es:=es}|.Compare l x rs u=>{es:=l::rs}|.BoolOp x es u=>{es:=es}|.Lambda a b s x=>{es:=[b],sc:=s,ar:=a,Ww:=true}|.Subscript o x u=>{es:=[o]}|.Name x p=>{p:=p}|_=>{}
def ew (e:aq)(n:Nat):aq:=(ep e).es.getD n default
def uL (e:aq):oF:=(ep e).gs.headD default
def kZ (e:aq):aq:=(uL e).iter
def wE (e:aq):aq:=(uL e).ifs.headD default
def fH (e:aq):d8:=(ep e).sc
def AT (e:aq):Pos:=(ep e).p
def Wx (e:aq):aq:=(ep e).ks.headD default
structure G1 where
 args:pL
 body:aq
 scope:d8
noncomputable def MT (q:EP):G1:=⟨q.ar,q.es.headD default,q.sc⟩
structure SP where
 k:Nat:=0
 e:aq:=default
 t:aq:=default
 b:List bl:=[]
 o:List bl:=[]
 p:Pos:=default
noncomputable def sp:bl->SP
 |.Assign u e z=>{e:=e}|.Expr e u=>{e:=e}|.Return e p=>{k:=4,e:=e.getD default,p:=p}|.If t x y u=>{e:=t,b:=x,o:=y}|.While t x u z=>{k:=2,e:=t,b:=x}|.For t i x u z=>{k:=1,e:=i,t:=t,b:=x}|_=>{}
def yA (k:Nat)(b:List bl):SP:=((b.map sp).find? λs=>s.k==k).getD {}
noncomputable def g7 (b:List bl)(n:Nat):bl:=b[n]?.getD default
def iL (s:bl):aq:=(sp s).e
def rO (b:List bl)(n:Nat):List bl:=(sp (g7 b n)).b
def rP (b:List bl)(n:Nat):List bl:=(sp (g7 b n)).o
def mx (b:List bl):aq×List bl:=((yA 2 b).e,(yA 2 b).b)
def dc (b:List bl):aq×aq×List bl:=((yA 1 b).t,(yA 1 b).e,(yA 1 b).b)
def eY (b:List bl)(n:Nat):G1:=MT (((b.map λs=>ep (sp s).e).filter (·.Ww)).getD n {})
variable {d:Nat}{c:aY}
theorem aW {body:List bl}{st ag:List ae}{sc mm:List iB}{f:cZ}{ob:List Prop}(h:RZ.out (Go d 99 c body ⟨st,sc,[]⟩)=some (f,⟨ag,mm,ob⟩))(k:Z.ok ⟨ag,mm,ob⟩):aI d c body st f ag:=EZ.run h k
theorem dk {e:aq}{st ag:List ae}{sc mm:List iB}{v:CV}{ob:List Prop}(h:RZ.out (fh d 99 c e ⟨st,sc,[]⟩)=some (v,⟨ag,mm,ob⟩))(k:Z.ok ⟨ag,mm,ob⟩):a8 d c e st v ag:=EZ.run h k
theorem nX {e:aq}{st ag:List ae}{sc mm:List iB}{b:Bool}{ob:List Prop}(h:RZ.out (CM d 99 c e ⟨st,sc,[]⟩)=some (b,⟨ag,mm,ob⟩))(k:Z.ok ⟨ag,mm,ob⟩):fx d c e st b ag:=EZ.run h k
theorem i4 {t:aq}{v:CV}{st ag:List ae}{sc mm:List iB}{ob:List Prop}(h:RZ.out (Gn d 99 c t v ⟨st,sc,[]⟩)=some ((),⟨ag,mm,ob⟩))(k:Z.ok ⟨ag,mm,ob⟩):dj d c t v st ag:=EZ.run h k
end
section
variable {d:Nat}{c:aY}
def nY (d:Nat)(target:aq)(k:Nat)(st:List ae)(v:Option CV)(ag:List ae):Prop:=∀A own s a (R:Option an->az->Prop),Rm d A->Sx own st s->own[k]?=some a->(∀av r s',a9 own s av s'->Sx av ag s'->kQ av s'.heap v r->R r s')->be (aQ X.prog X.w) A (l8 (.ref a)) (λr s₁=>match r with
   |none=>R none s₁|some y=>be (aQ X.prog X.w) A (ri target (.ref a) y) (λx aR=>R (some y) aR) (λx x=>False) s₁) (λx x=>False) s
def G3 (d:Nat)(k:Nat)(st:List ae):Prop:=∀A own s a (Q:an->az->Prop),Rm d A->Sx own st s->own[k]?=some a->Q (.ref a) s->be (aQ X.prog X.w) A (ud (.ref a)) Q (λx x=>False) s
inductive te (d:Nat)(c:aY)(target:aq)(body:List bl)(k:Nat):List ae->cZ->List ae->Prop|jk {st aw}:nY d target k st none aw->te d c target body k st .next aw|cons {st v aw aJ f cE f' mS}:nY d target k st (some v) aw->dj d c target v aw aJ->aI d c body aJ f cE->(f=.next∨f=.cont)->te d c target body k cE f' mS->te d c target body k st f' mS|brk {st v aw aJ cE}:nY d target k st (some v) aw->dj d c target v aw aJ->aI d c body aJ .brk cE->te d c target body k st .next cE|ret {st v aw aJ u cE}:nY d target k st (some v) aw->dj d c target v aw aJ->aI d c body aJ (.ret u) cE->te d c target body k st (.ret u) cE
theorem afE {target:aq}{body:List bl}{k:Nat}{st ag:List ae}{f:cZ}(h:te d c target body k st f ag):∀{A bx aT own s a env},Rm d A->a9 bx aT own s->Sx own st s->dK own c env->own[k]?=some a->gK (aQ X.prog X.w) A (.forLoop target (.ref a) body [] env) (x9 bx aT ag f) s:=by
 have item:∀{st aw aJ:List ae} {v:CV} {A bx aT own s a env} {R:Kc->az->Prop},nY d target k st (some v) aw->dj d c target v aw aJ->Rm d A->a9 bx aT own s->Sx own st s->dK own c env->own[k]?=some a->
  (∀aO s₁,a9 bx aT aO s₁->Sx aO aJ s₁->dK aO c env->aO[k]?=some a->
   be (aQ X.prog X.w) A (l4 body env) (λf bu=>match f with
    |.next|.cont=>gK (aQ X.prog X.w) A (.forLoop target (.ref a) body [] env) R bu|.brk=>R (.ok .next) bu|.ret v=>R (.ok<|.ret v) bu) (λu u=>False) s₁)->gK (aQ X.prog X.w) A (.forLoop target (.ref a) body [] env) R s:=by
  intro st aw aJ v A bx aT own s a env R hn ha q E S R' hk kk;refine AA (bC (hn A own s a (λr s₁=>∃y,r=some y∧be (aQ X.prog X.w) A (oE target env y) (λu aR=>be (aQ X.prog X.w) A (l4 body env) (λf bu=>match f with
   |.next|.cont=>gK (aQ X.prog X.w) A (.forLoop target (.ref a) body [] env) R bu|.brk=>R (.ok .next) bu|.ret v=>R (.ok<|.ret v) bu) (λu u=>False) aR) (λu u=>False) s₁) q S hk λaO r s₁ bK bq hr=>?_) (λr s₁ c9=>?_) λu u x=>x)
  ·obtain⟨y,rfl,hy⟩:=hr;exact⟨y,rfl,bC (ha A aO s₁ env y q bq (R'.ext bK) hy) (λu aR ⟨aS,bX,bw⟩=>kk aS aR ((E.trans bK).trans bX) bw ((R'.ext bK).ext bX)<|(bK.trans bX).aM.bD _ _ hk) λu u x=>x⟩
  cases r with|none=>obtain⟨y,e,_⟩:=c9;exact nS e|some y=>refine bC c9 (λu aR ⟨y',e,gf⟩=>?_) λu u x=>x;obtain rfl:=dE e;exact gf
 induction h with
 |jk hn=>
  intro A bx aT own s a env q E S R' hk;refine AA<|bC (hn A own s a (λr s₁=>r=none∧∃av,a9 own s av s₁∧Sx av _ s₁) q S hk λaO r s₁ bK bq hr=>⟨hr,aO,bK,bq⟩) (λr s₁ c9=>?_) λu u x=>x;cases r with
  |none=>obtain⟨_,av,bK,bq⟩:=c9;exact⟨_,av,rfl,E.trans bK,bq,rfl⟩|some y=>exact bC c9 (λu aR gf=>by cases gf.1) λu u x=>x
 |cons hn ha hx hf hr ih=>
  intro A bx aT own s a env q E S R' hk;refine item hn ha q E S R' hk λaO s₁ bK bq uM tf=>?_;refine bC (hx A aO s₁ env q bq uM) (λfl aR ⟨aS,bX,bw,rf⟩=>?_) λu u x=>x;have go:=ih q (bK.trans bX) bw (uM.ext bX)<|bX.aM.bD _ _ tf;rcases hf with rfl|rfl
  ·subst rf;exact go
  subst rf;exact go
 |brk hn ha hx=>intro A bx aT own s a env q E S R' hk;refine item hn ha q E S R' hk λaO s₁ bK bq uM tf=>?_;refine bC (hx A aO s₁ env q bq uM) (λfl aR ⟨aS,bX,bw,rf⟩=>?_) λu u x=>x;subst rf;exact⟨_,aS,rfl,bK.trans bX,bw,rfl⟩|ret hn ha hx=>intro A bx aT own s a env q E S R' hk;refine item hn ha q E S R' hk λaO s₁ bK bq uM tf=>?_;refine bC (hx A aO s₁ env q bq uM) (λfl aR ⟨aS,bX,bw,rf⟩=>?_) λu u x=>x;obtain⟨x,rfl,hv⟩:=rf;exact⟨_,aS,rfl,bK.trans bX,bw,x,rfl,hv⟩
theorem MU {target iter:aq}{body:List bl}{pos:Pos}{k:Nat}{st aw ag:List ae}{f:cZ}(hs:ye iter=true)(hi:a8 d c iter st (.ab k) aw)(hI:G3 d k aw) (h:te d c target body k aw f ag):dB d c (.For target iter body [] pos) st f ag:=λA own s env q S R=>by refine wpAny_For (bC (hi A own s env q S R) (λx s₁ ⟨aO,bK,bq,cx⟩=>?_) λu u x=>x)<|AD hs;obtain⟨a,ha,rfl⟩:=cx;apply hI A aO s₁ a _ q bq ha;refine pS (afE h q bK bq (R.ext bK) ha) λr s' ⟨fl,av,e,E',S',rf⟩=>?_;subst e;exact⟨av,E',S',rf⟩
theorem Wy:Slot "callable_iterator" "__iter__" "callable_iterator.__iter__":=
 .of (owner:="callable_iterator") (n:="__iter__") (by rw[B9,B'];kernel_rfl) (by decide +kernel) (by decide +kernel) (by decide +kernel)
  (by exact .inl<|by decide +kernel) (by rw[Rz];kernel_rfl)
theorem Dh:Slot "callable_iterator" "__next__" "callable_iterator.__next__":=
 .of (owner:="callable_iterator") (n:="__next__") (by rw[B9,B'];kernel_rfl) (by decide +kernel) (by decide +kernel) (by decide +kernel)
  (by exact .inl<|by decide +kernel) (by rw[Rz];kernel_rfl)
theorem Wz:Fg table "callable_iterator.__next__"=some Builtin.«callable_iterator.__next__»:=RA (by kernel_rfl)
theorem afF:Fg table "callable_iterator.__iter__"=some Builtin.«dict_keyiterator.__iter__»:=
 entryFor_alias (id':="dict_keyiterator.__iter__") (by kernel_rfl) (by rfl) (by decide +kernel) (by kernel_rfl)
theorem WA a:argsOk "callable_iterator.__next__" ⟨[a],[]⟩:=by kernel_rfl
end
section
variable {d:Nat}{c:aY}{st ag:List ae}
theorem afH {M:Model}{A:Around}{E:an->az->Prop}{s:az}{f:an}{pos:List an}{Q:an->az->Prop} (hc:gK M A (.call f ⟨pos,[]⟩) (λr s'=>match r with|.ok (.ret v)=>Q v s'|.ok u=>False|.error e=>E e s') s):be M A (callBorrowed f pos) Q E s:=λΓ p hΓ=>by unfold callBorrowed;rw[Sem.wp_call];refine wpCode_mono (λr s' h=>?_)<|hc _ p rfl (hΓ.enter (.call f ⟨pos,[]⟩) none p<|λx=>by exact nS x);rcases r with _|(_|_|_|_)<;>exact h
theorem afI {k:Nat}(Y:wC C)(hk:st[k]?=some (.bE C dd))(hd:st[dd]?=some (.bt es))(hv:es.lookup name=none)(ha:xJ X.K (.ref C) name=some (some (.ref f)))(hf:typeIn X.K (.ref f)=some (.type "function"))(hgf:specialIn X.K (.ref f) "__get__"=some (some (.builtin "function.__get__")))(ht:takesIn X.K (.ref f)=some false)(hc:copiedNames.contains name=false):rG d name (.ab k) st (.ab st.length) (st++[.bg f k]):=λA own s x q S r=>by obtain⟨a,uK,rfl⟩:=r;obtain⟨dx,dA,n,qw,I,m4,hr⟩:=GY S hk hd uK;have KI:=vS S.ok.k S.bj;apply get_bind KI I (Kr Y.get).1 (findObj_fn Y.dict ha hgf ht hc<|by rw[Rx];exact hr.Wu hv) (Kr Y.get).2;refine Ri<|fn_get KI hf<|handed_on rfl ?_;have eV:∀b o,s.heap.get? b=some o->(s.heap.push<|methodObj (.ref f)<|.ref a).get? b=some o:=λb o e=>fT _ e;have iK:s.heap.get? s.heap.objs.size=none:=iI<|aG _;refine⟨own++[s.heap.objs.size],a9.push eV iK,S.push eV iK λg=>⟨a,g.bD _ _ uK,iy _ rfl⟩,s.heap.objs.size,?_,rfl⟩;rw[<-S.len,dT<|aG _,fk];rfl
theorem WB {f:ai}{m k:Nat}{args:List CV}{kw:List (Str×CV)}{v:CV}(hm:st[m]?=some (.bg f k))(h:bM d (.aH f) (.ab k::args) kw st v ag):bM d (.ab m) args kw st v ag:=λA own s fv vs ks q S fQ cx di=>by obtain⟨a,ha,rfl⟩:=fQ;obtain⟨a',b8,x,hx,ho⟩:=S.bD hm;rw[ha] at b8;obtain rfl:=dE b8;exact method_call ho<|h A own s (.ref f) (.ref x::vs) ks q S rfl ⟨_,_,rfl,⟨x,hx,rfl⟩,cx⟩ di
theorem WC {E:an->az->Prop}{x:an}{o:Obj}(ho:s.heap.get? a=some (methodObj (.ref f) x))(hf:s.heap.get? f=some o)(hd:o.data=.func fd)(h:Q true s):be M A (borrowsExactly (.ref a)) Q E s:=by refine aB<|Rk ho ?_;refine aB<|Rk hf ?_;exact hd▸bH h
theorem MV {k m:Nat}{x:Str}(hk:st[k]?=some (.jf m x)):G3 d k st:=λA own s a Q q S ha hQ=>by obtain⟨a',b8,y,t,hy,ho⟩:=S.bD hk;rw[ha] at b8;obtain rfl:=dE b8;have hT:s.TypeIs (.ref a) "callable_iterator":=⟨_,ho,rfl⟩;exact wpAny_pyIter_slot hT Wy<|vX Wy hT afF (bH ⟨_,rfl,"callable_iterator",_,hT,Dh.lookup,hQ⟩)<|(by kernel_rfl)
theorem G4 {prog:q9}{w:pM}{A:Around}{s:az}{α:Type}{K:α->az->Prop}{E:an->az->Prop}(hh:A.handled=none) (hQ:∀h' e,(∀b o,s.heap.get? b=some o->h'.get? b=some o)->(∃o,h'.get? e=some o∧o.cls=.type "StopIteration")->E (.ref e) {s with heap:=h'}):be (aQ prog w) A (Builtin.SmallTypes.stopIteration:Sem α) K E s:=by apply aB;refine aB (vQ ?_<|by size_fits);refine aB<|wpAny_of_eq (by rfl) ?_;refine vQ ?_ (by size_fits);refine aB<|wpAny_handled ?_;rw[hh];exact aB<|bH<|wpAny_throw<|hQ _ _ (λb o e=>fT _<|fT _ e) ⟨_,iy _ rfl,rfl⟩
theorem afK {k:Nat}(hk:st[k]?=some .mR):nY d target k st none st:=λA own s a R q S ha hR=>by
 obtain⟨a',b8,ho⟩:=S.bD hk;rw[ha] at b8;obtain rfl:=dE b8;replace ho:s.heap.get? a=some {cls:=.type "callable_iterator",data:=.fields #[.none,.none,.bool true]}:=ho;have hT:s.TypeIs (.ref a) "callable_iterator":=⟨_,ho,rfl⟩;refine aB (zV (zW hT Dh
  (vX Dh hT Wz ?_<|WA _)))
 show be _ _ (sO (.ref a) 2>>=_) _ _ s;refine aB<|kf ho rfl (x:=.bool true) rfl ?_;refine aB<|sC<|aB<|G4 q.1 λh' e hk hx=>?_;obtain⟨o,gO,hc⟩:=hx;exact aB<|RB ⟨o,gO,hc⟩ RD<|bH<|hR own none _ (a9.more hk) (S.more hk) rfl
theorem WD {target:aq}{k m j:Nat}{x:Str}(hk:st[k]?=some (.jf m x))(hm:st[m]?=some (.bg f j))(hf:X.K.lookup f=some ⟨oc,od,.func fd,kU⟩)(h:bM d (.ab m) [] [] st (.str v) ag)(tf:ag[k]?=some (.jf m x))(Di:ag[m]?=some (.bg f j))(q:Rm (d+1) A)(S:Sx own st s)(ha:own[k]?=some a)(cz:v≠x->∀av s' t,a9 own s av s'->Sx av ag s'->R (some (.str v t)) s')(heq:v=x->∀av s',a9 own s av s'->Sx av (ag.set k .mR) s'->R none s'):be (aQ X.prog X.w) A (l8 (.ref a)) R (λY Y=>False) s:=by
 obtain⟨a',b8,b,t,hb,ho⟩:=S.bD hk;rw[ha] at b8;obtain rfl:=dE b8;obtain⟨b',oX,z,hz,hom⟩:=S.bD hm;rw[hb] at oX;obtain rfl:=dE oX;have hT:s.TypeIs (.ref a) "callable_iterator":=⟨_,ho,rfl⟩;refine aB (zV (zW hT Dh
  (vX Dh hT Wz ?_<|WA _)))
 show be _ _ (sO (.ref a) 2>>=_) _ _ s;refine aB<|kf ho rfl rfl ?_;refine aB<|kf ho rfl rfl ?_;refine aB<|zV ?_;refine aB<|WC hom (S.bj _ _<|S.ok.k _ _ hf) rfl ?_;rw[if_pos rfl];refine afH<|pS (h _ own s (.ref b) [] [] q.in1 S ⟨b,hb,rfl⟩ rfl rfl) λr s₁ c9=>?_;rcases r with e|(_|_|_|r)<;>first|exact c9.elim|skip
 obtain⟨aO,bK,bq,u,rfl⟩:=c9;have AU:=bK.aM.bD _ _ ha;obtain⟨a',b8,ars,G5,Mo,AB⟩:=bq.bD tf;rw[AU] at b8;obtain rfl:=dE b8;refine aB<|kf AB rfl rfl ?_;refine aB<|kf AB rfl rfl ?_;refine aB<|vN<|wpAny_eqBool_str ?_;by_cases hv:v=x
 ·subst hv;simp [decide_true];refine aB<|sC ?_;obtain⟨b',oX,z',AO,afO⟩:=bq.bD Di;rw[Mo] at oX;obtain rfl:=dE oX;apply aB;refine aB<|kf AB rfl rfl ?_;apply aB;refine aB<|WC afO (bq.bj _ _<|bq.ok.k _ _ hf) rfl ?_;rw[if_pos rfl];apply bH;refine aB<|zX AB (by simp) λgf afQ AV=>?_;refine aB<|zX afQ (by simp) λeF afR AW=>?_;refine zX afR (by simp) λyh afS afT=>?_;refine G4 q.1 λh' e Dj hx=>?_;obtain⟨oe,hoe,MW⟩:=hx;refine aB<|RB ⟨oe,hoe,MW⟩ RD<|bH ?_;have hs:=λb o cz e=>Dj b o<|afT.extBut b o cz<|AW.extBut b o cz<|AV.extBut b o cz e;exact heq rfl aO _ (bK.trans<|a9.set bq AU hs) (bq.set (t:=s₁.toks) AU hs λg=>Dj _ _ afS)
 have kW:¬x=v:=λe=>hv e.symm;simp [decide_eq_false kW];exact bH ⟨_,rfl,bH<|cz hv aO s₁ u bK bq⟩
theorem afV {k m j:Nat}{x:Str}(hk:st[k]?=some (.jf m x))(hm:st[m]?=some (.bg f j))(hf:X.K.lookup f=some ⟨oc,od,.func fd,kU⟩)(h:bM d (.ab m) [] [] st (.str v) ag)(tf:ag[k]?=some (.jf m x))(Di:ag[m]?=some (.bg f j))(hv:v≠x):nY (d+1) target k st (some (.str v)) ag:=λA own s a R q S ha hR=>
 WD (target:=target) hk hm hf h tf Di q S ha (λo av s' t E' S'=>by obtain⟨a',b8,b,u,hb,ho⟩:=S'.bD tf;rw[E'.aM.bD _ _ ha] at b8;obtain rfl:=dE b8;exact LW ho rfl rfl (hR av (some<|.str v t) s' E' S' ⟨_,rfl,t,rfl⟩)) λe=>absurd e hv
theorem afX:Fc (.type "method") "__call__"=pure (some (.builtin "method.__call__")):=by rw[B9,B'];kernel_rfl
theorem afY:builtinKind "iter"=none:=by decide +kernel
theorem afZ:plainId "iter"=true:=by decide +kernel
theorem af0:Fg table "iter"=some Builtin.«iter»:=RA (by kernel_rfl)
theorem af1 a b:argsOk "iter" ⟨[a,b],[]⟩:=by kernel_rfl
theorem af3 {m j:Nat}{x:Str}(hm:st[m]?=some (.bg f j)):bk d (.bi "iter") [.ab m,.str x] [] st (.ab st.length) (st++[.jf m x]):=uG λA own s y z q S ry rz=>by obtain⟨a,ha,rfl⟩:=ry;obtain⟨t,rfl⟩:=rz;obtain⟨a',b8,y,hy,ho⟩:=S.bD hm;rw[ha] at b8;obtain rfl:=dE b8;have eV:∀b o,s.heap.get? b=some o->(s.heap.push {cls:=.type "callable_iterator",data:=.fields #[.ref a,.str x t,.bool false]}).get? b=some o:=λb o e=>fT _ e;have iK:s.heap.get? s.heap.objs.size=none:=iI<|aG _;refine call_function_meets afY afZ af0 (af1 _ _) ((show Meets (Builtin.«iter» ⟨[.ref a,(.str x t)],[]⟩) (λu R s=>s.TypeIs (.ref a) "method"∧R (.ok<|.ret<|.ref s.heap.objs.size) {s with heap:=s.heap.push {cls:=.type "callable_iterator",data:=.fields #[.ref a,(.str x t),.bool false]}}) from .of_wp λprog w A R s h=>by obtain⟨hT,h⟩:=h;show be _ _ (specialOf (.ref a) "__call__">>=_) _ _ s;refine aB<|Ko hT afX ?_;refine aB (sC<|aB<|vQ ?_<|by size_fits);exact bH ⟨_,rfl,h⟩)) ⟨⟨_,ho,rfl⟩,?_⟩;refine⟨own++[s.heap.objs.size],a9.push eV iK,S.push eV iK λg=>⟨a,t,g.bD _ _ ha,iy _ rfl⟩,s.heap.objs.size,?_,rfl⟩;rw[<-S.len,dT<|aG _,fk];rfl
end
section
variable {d:Nat}{c:aY}{st ag:List ae}
section
variable {prog:q9}{w:pM}{A:Around}{E:an->az->Prop}{s:az}{it:ai}{x:Str}{t:Tok}{i:Nat}
theorem G6 {T:String}{id:String}(slot:Slot T "__next__" id)(hT:s.TypeIs (.ref it) T){B:Builtin}(he:Fg table id=some B)(ha:argsOk id ⟨[.ref it],[]⟩){Q:an->az->Prop} (h:be (aQ prog w) A.in1 (B ⟨[.ref it],[]⟩) (λyg s'=>∃v,yg=.done (.ret v)∧Q v s') E s):be (aQ prog w) A (abG (.ref it)) Q E s:=by exact aB<|zW hT slot<|vX slot hT he (bC h (λyg s' ⟨v,e,hq⟩=>⟨v,e,bH hq⟩) λu u x=>x) ha
theorem WE {T:String}{o:Obj}(ho:s.heap.get? it=some o)(hc:o.cls=.type T)(hd:o.data=.fields #[.str x t,.int i 0]):(s.heap.update it (Obj.mapFields (·.setIfInBounds 1 (rh ((i:Int)+1))))).IsStrIter it T x t (i+1):=
 ⟨_,E9 _ ho<|Obj.isFreed_of_fields<|RE hd _,(Obj.cls_mapFields ..).trans hc,by rw[RE hd];simp [rh]⟩
theorem af4 {k:Nat}{Q:an->az->Prop}(i3:s.heap.IsStrIter it (jM x) x t i)(hx:x.cps[i]?=some k) (hQ:∀h',h'.IsStrIter it (jM x) x t (i+1)->sJ it s.heap h'->Q (.str ⟨#[k]⟩ s.toks) {s with heap:=h',toks:=s.toks+1}):be (aQ prog w) A (abG (.ref it)) Q E s:=by
 unfold jM at i3 hQ;obtain⟨o,ho,hc,hd⟩:=id i3;split at i3
 ·rename_i h;rw[if_pos h] at hc hQ;apply G6 aqq ⟨o,ho,hc⟩ aqr<|aqs _;show be _ _ (sO (.ref it) 0>>=_) _ _ s;refine aB<|kf ho hd (x:=.str x t) rfl ?_;show be _ _ (sO (.ref it) 1>>=_) _ _ s;refine aB<|kf ho hd (x:=.int i 0) rfl ?_;simp [hx];exact aB (RF ho hd (by simp)<|aB<|wpAny_mkStr (bH ⟨_,rfl,hQ _ (WE ho hc hd)<|rj ..⟩)<|by show 1<=cX;decide)
 rename_i h;rw[if_neg h] at hc hQ;apply G6 aqt ⟨o,ho,hc⟩ aqu<|aqv _;show be _ _ (sO (.ref it) 0>>=_) _ _ s;refine aB<|kf ho hd (x:=.str x t) rfl ?_;show be _ _ (sO (.ref it) 1>>=_) _ _ s;refine aB<|kf ho hd (x:=.int i 0) rfl ?_;simp [Fh,hx];exact aB (RF ho hd (by simp)<|aB<|wpAny_mkStr (bH ⟨_,rfl,hQ _ (WE ho hc hd)<|rj ..⟩)<|by show 1<=cX;decide)
theorem af5 {Q:an->az->Prop}(hh:A.handled=none)(i3:s.heap.IsStrIter it (jM x) x t i)(hx:x.cps[i]?=none) (hE:∀h' e,f6 it s.heap h'->(∃o,h'.get? it=some o∧¬eO o)->(∃o,h'.get? e=some o∧o.cls=.type "StopIteration")->E (.ref e) {s with heap:=h'}):be (aQ prog w) A (abG (.ref it)) Q E s:=by
 unfold jM at i3;obtain⟨o,ho,hc,hd⟩:=id i3;have WF:∀T,o.cls=.type T->T≠"slice"->T≠"range"->∀h':bf,(∀b o,(s.heap.update it<|Obj.mapFields (·.setIfInBounds 0 .none)).get? b=some o->h'.get? b=some o)->∃o,h'.get? it=some o∧¬eO o:=λT hT h2 h3 h' hk=>
  ⟨_,hk _ _<|E9 _ ho<|Obj.isFreed_of_fields<|RE hd _,Obj.uq ((Obj.cls_mapFields ..).trans hT) (RE hd _) h2 h3 rfl⟩
 split at i3
 ·rename_i h;rw[if_pos h] at hc;apply G6 aqq ⟨o,ho,hc⟩ aqr<|aqs _;show be _ _ (sO (.ref it) 0>>=_) _ _ s;refine aB<|kf ho hd (x:=.str x t) rfl ?_;show be _ _ (sO (.ref it) 1>>=_) _ _ s;refine aB<|kf ho hd (x:=.int i 0) rfl ?_;simp [hx];exact aB<|sC<|aB<|RF ho hd (by simp)<|aB<|RG<|G4 hh λh' e hk gE=>hE h' e (λb o cz e=>hk b o<|(rj ..).extBut b o cz e) (WF _ hc (by decide) (by decide) _ hk) gE
 rename_i h;rw[if_neg h] at hc;apply G6 aqt ⟨o,ho,hc⟩ aqu<|aqv _;show be _ _ (sO (.ref it) 0>>=_) _ _ s;refine aB<|kf ho hd (x:=.str x t) rfl ?_;show be _ _ (sO (.ref it) 1>>=_) _ _ s;refine aB<|kf ho hd (x:=.int i 0) rfl ?_;simp [hx];exact aB<|sC<|aB<|RF ho hd (by simp)<|aB<|RG<|G4 hh λh' e hk gE=>hE h' e (λb o cz e=>hk b o<|(rj ..).extBut b o cz e) (WF _ hc (by decide) (by decide) _ hk) gE
theorem af6 {e:ai}{k:Nat}{jg:an}{MX:List aq}{x1:Nat}{pos:Pos}{R:Option an->az->Prop}(he:zI s.heap e it i jg)(i3:s.heap.IsStrIter it (jM x) x t i)(hx:x.cps[i]?=some k)(cz:e≠it) (hQ:∀c9 h' L,c9.IsStrIter it (jM x) x t (i+1)->sJ it s.heap c9->f6 e c9 h'->zI h' e it ((i:Int)+1) (.str ⟨#[k]⟩ s.toks)->s.heap.get? L=none->h'.get? L=some {cls:=.type "tuple",data:=.seq #[.int i (s.toks+1),.str ⟨#[k]⟩ s.toks]}->R (some (.ref L)) {s with heap:=h',toks:=s.toks+1+1}):be (aQ prog w) A (l8 (.ref e)) (λr s₁=>match r with|none=>R none s₁|some y=>be (aQ prog w) A (ri (.Tuple MX x1 pos) (.ref e) y) (λu aR=>R (some y) aR) (λu u=>False) s₁) E s:=by
 obtain⟨hp,g,dr,tk,os⟩:=s;have hT:abH ⟨hp,g,dr,tk,os⟩ (.ref e) "enumerate":=⟨_,he,rfl⟩;refine aB (zV (zW hT RH
  (vX RH hT F.entry_enumerate_next ?_<|aqw _)))
 show be _ _ (sO (.ref e) 2>>=_) _ _ _;refine aB<|kf he rfl rfl ?_;refine aB<|af4 i3 hx λc9 MY qx=>?_;replace qx:sJ it hp c9:=qx;have MZ:=(qx.2 e cz).trans he;refine aB<|kf MZ rfl rfl ?_;refine aB<|kf MZ rfl rfl ?_;refine aB<|wpAny_mkInt ?_;refine aB<|zX MZ (by simp) λgf M0 AV=>?_;replace AV:sJ e c9 gf:=AV;replace M0:zI gf e it (i+1) jg:=M0;refine aB<|zX M0 (by simp) λeF M' AW=>?_;replace AW:sJ e gf eF:=AW;replace M':zI eF e it (i+1) jg:=M';refine aB<|wpAny_newTuple ?_;have ik:hp.get? eF.objs.size=none:=by
  have:eF.objs.size=hp.objs.size:=by rw[AW.1,AV.1,qx.1]
  exact this▸iI (aG _)
 have WG:eF.objs.size≠e:=λq=>by rw[q] at ik;rw[show hp.get? e=_ from he] at ik;cases ik
 generalize hL:eF.objs.size=L at ik WG;have Dk:zI (eF.push {cls:=.type "tuple",data:=.seq #[.int i<|tk+1,.str ⟨#[k]⟩ tk]}) e it (i+1) jg:=fT _ M';have Na:(eF.push {cls:=.type "tuple",data:=.seq #[.int i<|tk+1,.str ⟨#[k]⟩ tk]}).get? L=some {cls:=.type "tuple",data:=.seq #[.int i<|tk+1,.str ⟨#[k]⟩ tk]}:=hL▸iy _ rfl;have Nb:f6 e c9 (eF.push {cls:=.type "tuple",data:=.seq #[.int i<|tk+1,.str ⟨#[k]⟩ tk]}):=λb o hb e'=>fT _<|(λb o hb e'=>AW.extBut b o hb<|AV.extBut b o hb e') b o hb e';revert Dk Na Nb;generalize eF.push {cls:=.type "tuple",data:=.seq #[.int i<|tk+1,.str ⟨#[k]⟩ tk]}=yh;intro Dk Na Nb;apply aB;refine aB<|kf Dk rfl rfl (bH ?_);refine aB<|sC ?_;refine aB<|kf Dk rfl rfl ?_;refine aB<|zX Dk (by simp) λAE Nc Nd=>?_;replace Nd:sJ e yh AE:=Nd;replace Nc:zI AE e it (i+1) (.str ⟨#[k]⟩ tk):=Nc;show be _ _ (aqx (.ref e) (.ref L)>>=_) _ _ ⟨AE,g,dr,tk+1+1,os⟩;apply aB;refine aB<|zX Nc (by simp) λCZ Nf Ng=>?_;replace Ng:sJ e AE CZ:=Ng;replace Nf:IsEnumOut CZ e it (i+1) (.str ⟨#[k]⟩ tk) L:=Nf;refine zX Nf (by simp) λNh Ni Nj=>?_;replace Nj:sJ e CZ Nh:=Nj;replace Ni:IsEnumOut Nh e it (i+1) (.str ⟨#[k]⟩ tk) L:=Ni;refine aB<|RG<|bH ⟨_,rfl,bH ?_⟩;refine wpAny_letOwnedTupleGo_enum Ni λNk af8 Nl=>?_;replace Nl:sJ e Nh Nk:=Nl;have up:=λb o hb e'=>Nl.extBut b o hb<|Nj.extBut b o hb<|Ng.extBut b o hb<|Nd.extBut b o hb e';exact hQ c9 Nk L MY qx (λb o hb e'=>up b o hb<|Nb b o hb e') af8 ik<|up L _ WG Na
theorem af9 {e:ai}(hh:A.handled=none)(he:zI s.heap e it i jg)(i3:s.heap.IsStrIter it (jM x) x t i)(hx:x.cps[i]?=none)(hQ:∀h',f6 it s.heap h'->(∃o,h'.get? it=some o∧¬eO o)->Q none {s with heap:=h'}):be (aQ prog w) A (l8 (.ref e)) Q E s:=by
 have hT:s.TypeIs (.ref e) "enumerate":=⟨_,he,rfl⟩;refine aB (zV (zW hT RH
  (vX RH hT F.entry_enumerate_next ?_<|aqw _)))
 show be _ _ (sO (.ref e) 2>>=_) _ _ _;refine aB<|kf he rfl (x:=.ref it) rfl ?_;refine aB<|af5 hh i3 hx λh' x Nm kW gE=>?_;obtain⟨o,ho,hc⟩:=gE;exact aB<|RB ⟨o,ho,hc⟩ RD<|bH<|hQ _ Nm kW
end
theorem af' {x:Str}:bk d (.ty "enumerate") [.str x] [] st (.ab (st.length+1)) (st++[.ki x 0,.gc st.length 0]):=Da λA own s y q S ry=>by
 obtain⟨t,rfl⟩:=ry;refine call_enumerate_str λh' he hi hz hk=>?_;have iK:∀a∈[s.heap.objs.size,s.heap.objs.size+1],s.heap.get? a=none:=λa ha=>by
  rcases pO.mp ha with rfl|ha
  ·exact iI<|aG _
  exact gV.mp ha▸iI (ke _)
 obtain⟨S',E',g⟩:=S.Gq (os:=[.ki x 0,.gc st.length 0]) hk iK (by simp) rfl λg j o a e1 e2=>by
  match j with
  |0=>obtain rfl:=dE e1;obtain rfl:=dE e2;exact⟨t,hi⟩|1=>obtain rfl:=dE e1;obtain rfl:=dE e2;refine⟨s.heap.objs.size,.none,?_,he⟩;rw[<-S.len,dT<|aG _,fk];rfl|j+2=>exact nS e1
 refine⟨_,E',S',s.heap.objs.size+1,?_,rfl⟩;rw[<-S.len,dT<|ke _,show own.length.succ-own.length=1 by lia];rfl
theorem aga {k i:Nat}(hk:st[k]?=some (.gc n i)):G3 d k st:=λA own s a Q q S ha hQ=>by obtain⟨a',b8,it,jg,hy,ho⟩:=S.bD hk;rw[ha] at b8;obtain rfl:=dE b8;exact wpAny_pyIter_enum ho hQ
theorem agb {k i:Nat}{x:Str}{pos:Pos}(hk:st[k]?=some (.gc n i))(hn:st[n]?=some (.ki x i))(hx:x.cps[i]?=some ch):nY d (.Tuple MX x1 pos) k st (some (.cB [.int i,.str ⟨#[ch]⟩])) ((st.set n (.ki x (i+1))).set k (.gc n (i+1))):=λA own s a R q S ha hR=>by
 obtain⟨a',b8,it,jg,hy,ho⟩:=S.bD hk;rw[ha] at b8;obtain rfl:=dE b8;obtain⟨wm,Dl,t,i3⟩:=S.bD hn;rw[hy] at Dl;obtain rfl:=dE Dl;have yB:k≠n:=λe=>by rw[e,hn] at hk;cases hk
 refine af6 ho i3 hx (S.ne ha hy yB) λc9 h' L MY qx WH Nm ik hL=>?_;have bq:=S.set (o':=.ki x<|i+1) hy qx.extBut λg=>⟨t,MY⟩;exact hR own _ _ ((a9.set S hy qx.extBut).trans<|a9.set bq ha WH) (bq.set (o':=.gc n<|i+1) (t:=s.toks+1+1) ha WH λg=>⟨it,.str ⟨#[ch]⟩ s.toks,hy,by rw[QW];exact Nm⟩) ⟨_,rfl,L,[.int i<|s.toks+1,.str ⟨#[ch]⟩ s.toks],_,rfl,S.jO ik,S.mf ik,hL,_,_,rfl,⟨_,rfl⟩,_,_,rfl,⟨_,rfl⟩,rfl⟩
theorem agc {k i:Nat}{x:Str}(hk:st[k]?=some (.gc n i))(hn:st[n]?=some (.ki x i))(hx:x.cps[i]?=none):nY d target k st none (st.set n .qg):=λA own s a R q S ha hR=>by obtain⟨a',b8,it,jg,hy,ho⟩:=S.bD hk;rw[ha] at b8;obtain rfl:=dE b8;obtain⟨wm,Dl,t,i3⟩:=S.bD hn;rw[hy] at Dl;obtain rfl:=dE Dl;exact af9 q.1 ho i3 hx λh' gE kW=>hR own none _ (a9.set S hy gE) (S.set hy gE λg=>kW) rfl
end
section
open PySem PySem.W PySem.Calls PyProof.Rows PySem.W.X
variable {d:Nat}{c:aY}
section
variable {A:Around}{cd:Code}{fs:List Frame}{s:az}{P:End->az->Prop}
theorem tg {α:Type}{m:Sem α}{K:α->Sem Fin}{H:an->Sem Fin}{gd:Bool->Bool}{lv:List an->List an} (h:be (aQ X.prog X.w) (A.over cd fs) m (λa s'=>iT (aQ X.prog X.w) A cd (K a) fs s' P) (λu u=>False) s):iT (aQ X.prog X.w) A cd (m.wrap K H gd lv) fs s P:=by rintro Γ p rfl hΓ;obtain⟨e,s',hr,hq⟩:=runs_wrap_of_wp K H gd lv m (h (Γ.over fs) p<|hΓ.over fs) (λa p' s' h'=>h' Γ p' rfl hΓ)<|λx p' s' h'=>h'.elim;exact⟨e,s',hr,hq⟩
theorem AX {p:Pos}{k:Unit->Sem Fin}(h:iT (aQ X.prog X.w) A cd (k ()) fs s P):iT (aQ X.prog X.w) A cd (.at p k) fs s P:=
 tg (H:=.raise) (gd:=id) (lv:=id) (zM h)
end
structure G7 (d:Nat)(A:Around)(cd:Code)(fs:List Frame):Prop where
 rm:Rm d (A.over cd fs)
 split:splitAtGen fs=none
 WI:fs.any Frame.guarded=false
structure G8 (fp:List ai)(s s':az):Prop where
 sx:Sx [] [] s'
 own:∀a∈fp,s'.heap.get? a=s.heap.get? a
 val:∀b o,s.heap.get? b=some o->eO o->b∉X.P->s'.heap.get? b=some o
noncomputable def uN (A:Around):List CV->List ai->az->End->az->Prop
 |[],fp,s,e,s'=>e=.ret (.ok (.ret .none))∧∃g8 ag,a9 fp s g8 s'∧Sx g8 ag s'|y::ys,fp,s,e,s'=>∃v l k c p fs g8 ag,e=.susp v false l k c p fs∧a9 fp s g8 s'∧Sx g8 ag s'∧RelV g8 s'.heap y v∧∀eP,G8 g8 s' eP->iT (aQ X.prog X.w) A c (k (.send .none)) fs eP (uN A ys g8 eP)
theorem G8.WJ {fp:List ai}{st:List ae}{s s':az}(y:G8 fp s s')(S:Sx fp st s):Sx fp st s':=by exact⟨y.sx.bj,S.len,S.kj,S.fresh,λi o a e1 e2=>(S.iV i o a e1 e2).aM ⟨λx x e=>e,λb o e v x hp=>y.val b o e v hp,λx h=>.inl h⟩<|y.own a<|c8 e2,y.sx.cU,y.sx.bare,y.sx.tk,S.ok⟩
variable {st aw ag:List ae}
def lD (d:Nat)(c:aY)(b:List bl)(st:List ae)(ys:List CV)(ag:List ae):Prop:=∀(A:Around) (cd:Code) (fs:List Frame) (env:Env) (K:Flow->Sem Fin) (H:an->Sem Fin) (gd:Bool->Bool) (lv:List an->List an) (tail:List CV),G7 d A cd fs->gd false=false->∀bx aT own s,a9 bx aT own s->Sx own st s->dK own c env->(∀mV wF av s',a9 mV wF av s'->Sx av ag s'->dK av c env->(∃w,av=own++w)->iT (aQ X.prog X.w) A cd (K .next) fs s' (uN A tail mV wF))->iT (aQ X.prog X.w) A cd ((l4 b env).wrap K H gd lv) fs s (uN A (ys++tail) bx aT)
theorem qy:lD d c [] st [] st:=λA cd fs env K H gd lv tail q hg bx aT own s E S R hK=>hK bx aT own s E S R ⟨[],by simp⟩
theorem G9 {x:bl}(h:dB d c x st .next aw)(k:lD d c r aw ys ag):lD d c (x::r) st ys ag:=λA cd fs env K H gd lv tail q hg bx aT own s E S R hK=>by rw[execs_cons_wrap];refine tg<|bC (h _ own s env q.rm S R) (λf s' ⟨av,E',S',rf⟩=>?_) λu u x=>x;subst rf;obtain⟨w,rfl⟩:=E'.pre;exact k A cd fs env K H gd lv tail q hg bx aT _ s' (E.trans E') S' (R.ext E') λoZ aT o' s' h1 h2 h3 ⟨w',hw⟩=>hK oZ aT o' s' h1 h2 h3 ⟨w++w',by rw[hw,eJ]⟩
theorem Nn (rQ:c.scope.isCoroutine=false){e:aq}{p:Pos}(h:a8 d c e st v aw)(k:lD d c r aw ys ag):lD d c (.Expr (.Yield (some e) p) p'::r) st (v::ys) ag:=λA cd fs env K H gd lv tail q hg bx aT own s E S R hK=>by
 rw[execs_cons_wrap,exec_Expr env _ p' R.U8 rfl];show iT (aQ X.prog X.w) A cd (.at p' λu=>((d9 e env>>=λv=>(nE p>>=λu=>yieldOut env v))>>=λx=>
  dropValue (.Yield (some e) p) p' x).wrap _ H gd lv) fs s _
 have agd:env.scope.isCoroutine=false:=R.scope▸rQ;have hy:∀v,yieldOut env v=yieldValue v:=λv=>by simp [yieldOut,agd,gJ]
 simp only [hy];apply AX;rw[ue,ue,sP,sP];refine tg<|bC (h _ own s env q.rm S R) (λy s' ⟨av,E',S',ry⟩=>?_) λu u x=>x;apply AX;refine(show iT (aQ X.prog X.w) A cd (.yield y (gd false) (lv []) _) fs s' _ from ?_);rw[hg];refine s_yield X.prog X.w A cd fs _ s' y _ _ q.split q.WI λp=>?_;refine⟨y,_,_,cd,p,fs,av,_,rfl,E.trans E',S',ry,λeP hs=>?_⟩;obtain⟨w,rfl⟩:=E'.pre;exact k A cd fs env K H gd lv tail q hg _ eP _ eP .refl (hs.WJ S') (R.ext E') λoZ aT o' s' h1 h2 h3 ⟨w',hw⟩=>hK oZ aT o' s' h1 h2 h3 ⟨w++w',by rw[hw,eJ]⟩
set_option backward.match.sparseCases true in
theorem yC {t:aq}{x y:List bl}{p:Pos} b (h:fx d c t st b aw)(hb:lD d c (if b then x else y) aw ys aJ)(k:lD d c r aJ jW ag):lD d c (.If t x y p::r) st (ys++jW) ag:=λA cd fs env K H gd lv tail q hg bx aT own s E S R hK=>by rw[execs_cons_wrap];show iT (aQ X.prog X.w) A cd (.at p λu=>(xB t env (d9 t env)>>=λb=>if b then l4 x env else l4 y env).wrap _ H gd lv) fs s _;apply AX;rw[ue,sP];refine tg<|bC (h _ own s env q.rm S R) (λb' s' ⟨av,E',S',e⟩=>?_) λu u x=>x;subst e;rw[eJ];have:=hb A cd fs env (λf=>match f with|.next=>(l4 r env).wrap K H gd lv|f=>K f) H gd lv (jW++tail) q hg bx aT av s' (E.trans E') S' (R.ext E') (λoZ No CX G5 h1 h2 h3 ⟨AF,uD⟩=>k A cd fs env K H gd lv tail q hg oZ No CX G5 h1 h2 h3 λoZ aT o' s' h1 h2 h3 ⟨w',hw⟩=>by obtain⟨w,age⟩:=E'.pre;exact hK oZ aT o' s' h1 h2 h3 ⟨w++AF++w',by rw[hw,uD,age];simp⟩);cases b' with|true=>exact this|false=>exact this
inductive yD (d:Nat)(c:aY)(t:aq)(b:List bl)(k:Nat):List ae->List CV->List ae->Prop|jk {su AY:List ae}:nY d t k su none AY->yD d c t b k su [] AY|step {su AY Np Nq Nr:List ae} {v:CV} {ys jW:List CV}:nY d t k su (some v) AY->dj d c t v AY Np->lD d c b Np ys Nq->yD d c t b k Nq jW Nr->yD d c t b k su (ys++jW) Nr
set_option tactic.hygienic true in
theorem agf {t:aq}{k:Nat}(h:yD d c t b k st ys ag):∀A cd fs env kk wG iC a tail,G7 d A (.forLoop t (.ref a) b [] env) (.ret kk none false wG cd iC []::fs)->∀bx aT own s,a9 bx aT own s->Sx own st s->dK own c env->own[k]?=some a->(∀mV wF av s',a9 mV wF av s'->Sx av ag s'->dK av c env->(∃w,av=own++w)->iT (aQ X.prog X.w) A cd (kk (.ok .next)) fs s' (uN A tail mV wF))->iT (aQ X.prog X.w) A (.forLoop t (.ref a) b [] env) (denote table (.forLoop t (.ref a) b [] env)) (.ret kk none false wG cd iC []::fs) s (uN A (ys++tail) bx aT):=by
 have Dm:∀{A:Around} {fs:List Frame} {env:Env} {a:ai} {s:az} {P:End->az->Prop},
  be (aQ X.prog X.w) (A.over (.forLoop t (.ref a) b [] env) fs) (l8<|.ref a) (λr s₁=>match r with
   |none=>iT (aQ X.prog X.w) A (.forLoop t (.ref a) b [] env) (.pure<|.again<|.block [] env) fs s₁ P|some y=>be (aQ X.prog X.w) (A.over (.forLoop t (.ref a) b [] env) fs) (ri t (.ref a) y) (λu aR=>be (aQ X.prog X.w) (A.over (.forLoop t (.ref a) b [] env) fs) (oE t env y) (λu bu=>
    ∀N,iT (aQ X.prog X.w) A (.forLoop t (.ref a) b [] env) ((l4 b env).wrap (λf=>match f with
     |.next|.cont=>.pure (.again<|.forLoop t (.ref a) b [] env)|.brk=>.pure (.done .next)|.ret v=>.pure<|.done<|.ret v) N id id) fs bu P) (λu u=>False) aR) (λu u=>False) s₁) (λu u=>False) s->
  iT (aQ X.prog X.w) A (.forLoop t (.ref a) b [] env) (denote table<|.forLoop t (.ref a) b [] env) fs s P:=by
  intro A fs env a s P h;show iT (aQ X.prog X.w) A _ ((forTurn t (.ref a) b [] env).onRaise (λx=>do noteFrame x env;theTreesLotGoes x)) fs s P;rw[Sem.onRaise_eq_wrap];apply AX;show iT (aQ X.prog X.w) A _ (((l8<|.ref a).onRaise _>>=_).wrap _ _ _ _) fs s P;rw[ue,sP];refine tg<|E6<|bC h (λr s₁ c9=>?_) λu u x=>x.elim;cases r with
  |none=>exact c9|some y=>
   show iT (aQ X.prog X.w) A _ ((ri t (.ref a) y>>=_).wrap _ _ _ _) fs s₁ P;rw[ue,sP];refine tg<|bC c9 (λu aR gf=>?_) λu u x=>x;rw[ue,sP];refine tg<|bC gf (λu bu eF=>?_) λu u x=>x;rw[ue,sP];rw[Sem.wrap_congr (K':=λf=>match f with
    |.next|.cont=>.pure (.again<|.forLoop t (.ref a) b [] env)|.brk=>.pure (.done .next)|.ret v=>.pure<|.done<|.ret v) _ _ _ (λf=>by cases f<;>rfl)<|λe=>rfl]
   exact eF _
 induction h with
 |jk hn=>
  intro A cd fs env kk wG iC a tail q bx aT own s E S R ha hK;refine Dm<|bC (hn _ own s a (λr s₁=>r=none∧iT (aQ X.prog X.w) A (.forLoop t (.ref a) b [] env) (.pure<|.again<|.block [] env) (.ret kk none false wG cd iC []::fs) s₁ (uN A ([]++tail) bx aT)) q.rm S ha λav r s' E' S' e=>?_) (λr s₁ c9=>?_) λu u x=>x
  ·exact⟨e,s_again X.prog X.w A _ _ _ s' _ rfl (s_pop X.prog X.w A _ _ _ s' (.ok .next) _ rfl _ _ _ _ _ _ _ (hK bx aT av s' (E.trans E') S' (R.ext E') E'.pre))⟩
  cases r with
  |none=>exact c9.2|some y=>exact bC c9 (λu aR gf=>by cases gf.1) λu u x=>x
 |step hn hs hb hr ih=>
  rename_i su AY Np Nq Nr v ys jW;intro A cd fs env kk wG iC a tail q bx aT own s E S R ha hK;refine Dm (bC (hn _ own s a (λr s₁=>∃y,r=some y∧be (aQ X.prog X.w) (A.over (.forLoop t (.ref a) b [] env)<|.ret kk none false wG cd iC []::fs) (oE t env y) (λu bu=>
   ∀N,iT (aQ X.prog X.w) A (.forLoop t (.ref a) b [] env) ((l4 b env).wrap (λf=>match f with
    |.next|.cont=>.pure (.again<|.forLoop t (.ref a) b [] env)|.brk=>.pure (.done .next)|.ret v=>.pure<|.done<|.ret v) N id id) (.ret kk none false wG cd iC []::fs) bu<|uN A (ys++jW++tail) bx aT) (λu u=>False) s₁) q.rm S ha λav r s' E' S' e=>?_) (λr s₁ c9=>?_) λu u x=>x)
  ·obtain⟨y,rfl,ry⟩:=e;refine⟨y,rfl,bC (hs _ av s' env y q.rm S' (R.ext E') ry) (λu aR ⟨aS,bX,bw⟩ N=>?_) λu u x=>x⟩;rw[eJ];refine hb A _ _ env _ N id id (jW++tail) q rfl bx aT aS aR ((E.trans E').trans bX) bw ((R.ext E').ext bX) λmV wF dt bu dC cF agg ⟨Vq,GG⟩=>?_;apply s_again X.prog X.w A _ _ _ bu _ rfl;obtain⟨Mc,AG⟩:=(E'.trans bX).pre;exact ih A cd fs env kk wG iC a tail q mV wF dt bu dC cF agg (by rwa[GG,AG,eJ,d2 (bV.mp ha).1]) λoZ aT o' s' h1 h2 h3 ⟨w',hw⟩=>hK oZ aT o' s' h1 h2 h3 ⟨Mc++Vq++w',by rw[hw,GG,AG];simp⟩
  cases r with|none=>obtain⟨y,e,_⟩:=c9;exact nS e|some y=>refine bC c9 (λu aR ⟨y',e,gf⟩=>?_) λu u x=>x;obtain rfl:=dE e;exact gf
theorem agh {t:aq}{o:List bl}{p:Pos}(q:G7 d A cd fs):G7 d A (.forLoop t a b o env) (.ret kk none false lv cd p []::fs):=by
 refine⟨?_,?_,?_⟩
 ·obtain⟨h1,h2,h3⟩:=q.rm;refine⟨h1,?_,?_⟩
  ·have e:(A.over (.forLoop t a b o env)<|.ret kk none false lv cd p []::fs).depth=(A.over cd fs).depth:=by show A.depth+frameCount ((cd,p)::fs.map RI)+0=A.depth+frameCount (fs.map RI)+cd.weight;rw[frameCount_cons];exact Sy
   rwa[e]
  have e:(A.over (.forLoop t a b o env)<|.ret kk none false lv cd p []::fs).units=(A.over cd fs).units:=by show A.units+unitsOf ((cd,p)::fs.map RI)+0=A.units+unitsOf (fs.map RI)+cd.cUnits;rw[unitsOf_cons];exact Sy
  rwa[e]
 ·show(splitAtGen fs).map _=none;rw[q.split];rfl
 show(false||fs.any Frame.guarded)=false;rw[q.WI];rfl
theorem agi {t i:aq}{p:Pos}{k:Nat}(hs:ye i=true)(h:a8 d c i st (.ab k) aw)(hI:G3 d k aw)(hy:yD d c t b k aw ys aJ)(kr:lD d c r aJ jW ag):lD d c (.For t i b [] p::r) st (ys++jW) ag:=λA cd fs env K H gd lv tail q hg bx aT own s E S R hK=>by rw[execs_cons_wrap];show iT (aQ X.prog X.w) A cd (.at p λu=>(d9 i env>>=λy=>abq i env y>>=λx=>nE i.pos>>=λu=>holding [x] (ud x)>>=λit=>runOwn (.forLoop t it b [] env) env).wrap _ H gd lv) fs s _;apply AX;rw[ue,sP];refine tg<|bC (h _ own s env q.rm S R) (λx s₁ ⟨aO,bK,bq,cx⟩=>?_) λu u x=>x;obtain⟨a,ha,rfl⟩:=cx;rw[AD hs,ue,sP];apply AX;show iT (aQ X.prog X.w) A cd ((holding [.ref a] (ud<|.ref a)>>=λit=>runOwn (.forLoop t it b [] env) env).wrap _ _ _ _) fs s₁ _;rw[ue,sP];refine tg<|vN<|hI _ aO s₁ a _ q.rm bq ha ?_;rw[eJ];obtain⟨w,hw⟩:=bK.pre;refine s_call X.prog X.w A cd fs _ s₁ (.forLoop t (.ref a) b [] env) none (gd false) _ _ λiC=>?_;rw[hg];exact agf hy A cd fs env _ _ iC a (jW++tail) (agh q) bx aT aO s₁ (E.trans bK) bq (R.ext bK) ha λoZ No CX G5 h1 h2 h3 ⟨AF,uD⟩=>kr A cd fs env K H gd lv tail q hg oZ No CX G5 h1 h2 h3 λoZ aT o' s' h1 h2 h3 ⟨w',AZ⟩=>hK oZ aT o' s' h1 h2 h3 ⟨w++AF++w',by rw[AZ,uD,hw];simp⟩
theorem agj (h:lD d c body st ys ag)(q:Rm (d+1) A)(S:Sx own st s)(R:dK own c env):iT (aQ X.prog X.w) A (.func body env) (denote table (.func body env)) [] s (uN A ys own s):=by
 refine tg (H:=.raise) (gd:=id) (lv:=λz=>[])<|wpAny_point ?_;rw[Sem.onRaise_eq_wrap,ue,sP];rw[Sem.wrap_congr (l4 body env) _ _ (K':=λf=>.pure<|.done<|.ret<|match f with|.ret v=>v|_=>.none)
  (H':=λe=>(leaving env e).wrap (λz=>.raise e) .raise id id) (λf=>by cases f<;>rfl)
  (λe=>by rw[Sem.bind_eq_wrap,sP];rfl)]
 rw[<-dM ys];refine h A _ [] env _ _ id id [] ⟨?_,rfl,rfl⟩ rfl own s own s .refl S R λmV wF av s' E' S' R' z=>s_end X.prog X.w A _ _ s' (.ok<|.ret .none) _ rfl ⟨rfl,av,_,E',S'⟩;obtain⟨h1,h2,h3⟩:=q;refine⟨h1,?_,?_⟩
 ·show A.depth+0+_+d<_;have:Code.weight (.func body env)=1:=rfl;exact ah [_,_,_,_,_] (.lt (.a .o<|.a .i .u) .w<|.eq .x .u<|.gt (.a (.a (.a .o .k) .x) .i) .w) rfl h2 this
 show A.units+0+_+8*d<_;exact ah [_,_,_,_] (.lt (.a .o<|.m 8<|.a .i .j) .u<|.eq .w (.n 3)<|.gt (.a (.a (.a .o .k) .w)<|.m 8 .i) .u) rfl h3 rfl
end
section
open PySem PySem.W PySem.Calls PyProof.Rows PySem.W.X
variable {d:Nat}{c:aY}{st aw ag:List ae}
def WK (A:Around)(gs:vK)(s:az)(P:End->az->Prop):Prop:=(∃th,gs=.fresh th∧iT (aQ X.prog X.w) A th (denote table th) [] s P)∨(∃k l th p fs cl,gs=.suspended k l th p fs cl∧iT (aQ X.prog X.w) A th (k (.send .none)) fs s P)
theorem agk {A:Around}{s:az}{ga:ai}{g:Nat}{gs:vK}{P:End->az->Prop}{Q:Option an->az->Prop}(hh:A.handled=none)(hl:s.heap.NoLimit)(G':A.depth<Ka) (hg:s.heap.IsGen ga g)(uO:s.gens[g]?=some gs)(Ha:WK A.in1 gs (s.setGen g .running) P) (hP:∀e s₁,e.quiet=true->P e s₁->(e=.ret (.ok (.ret .none))∧∀h',(∀b o,s₁.heap.get? b=some o->h'.get? b=some o)->Q none {s₁.setGen g .finished with heap:=h'})∨(∃v gd l k c p fs,e=.susp v gd l k c p fs∧Q (some v) (s₁.setGen g e.genState))):be (aQ X.prog X.w) A (l8 (.ref ga)) Q (λx x=>False) s:=by
 refine aB (zV (zW hg.typeIs slot_gen_next
  (vX slot_gen_next hg.typeIs entry_gen_next ?_<|args_gen_next _)))
 show be _ _ (Builtin.Generator.genWake (.ref ga)<|.send .none) _ _ s;refine aB<|vN<|wpAny_genNumber hg<|aB<|wpAny_genState uO ?_;have go:∀{E:an->az->Prop} {l:List an} {k:GenResult->Sem xK} {Q':xK->az->Prop},(∀e s₁,e.quiet=true->P e s₁->be (aQ X.prog X.w) A.in1 (k e.result) Q' E (s₁.setGen g e.genState))->be (aQ X.prog X.w) A.in1 (.resume g (.send .none) l k) Q' E s:=by
  intro E l k Q' hk;rcases Ha with⟨th,rfl,hx⟩|⟨WL,WM,th,WN,agl,cl,rfl,hx⟩
  ·exact wake_any (α:=xK) X.prog X.w uO (.inl ⟨rfl,rfl,rfl,rfl⟩) (λΓ=>Γ.In A.in1) (λx h=>h) λΓ p hc hΓ=>by obtain⟨e,s',hr,hq,hp⟩:=hx Γ p hc hΓ;exact⟨e,s',hr,hq,λNt p' hC=>hk e s' hq hp Nt p' hC⟩
  exact wake_any (α:=xK) X.prog X.w uO (.inr ⟨WL,WM,WN,cl,rfl,rfl⟩) (λΓ=>Γ.In A.in1) (λx h=>h) λΓ p hc hΓ=>by obtain⟨e,s',hr,hq,hp⟩:=hx Γ p hc hΓ;exact⟨e,s',hr,hq,λNt p' hC=>hk e s' hq hp Nt p' hC⟩
 have hst:gs.status=.fresh∨gs.status=.suspended:=by
  rcases Ha with⟨th,rfl,hx⟩|⟨WL,WM,th,WN,agl,cl,rfl,hx⟩
  ·exact .inl rfl
  exact .inr rfl
 generalize gs.status=art at *;have hw:be (aQ X.prog X.w) A.in1 roomToWake (λx s'=>s'=s) (λx x=>False) s:=wpAny_roomToWake hl G' rfl;rcases hst with e|e<;>rw[e]<;>clear e<;>refine ?same
 refine aB<|wpAny_roomToWake hl G' ?_;refine go λe s₁ hq hp=>?_;rcases hP e s₁ hq hp with⟨rfl,hQ⟩|⟨v,gd,l,k,c,p,fs,rfl,hQ⟩
 ·show be _ _ (newExc (.type "StopIteration") []>>=_) _ _ _;apply aB;refine aB (vQ ?_<|by size_fits);refine aB<|wpAny_of_eq (by first|rfl|(simp [firstArgMember];rfl)) ?_;refine vQ ?_ (by size_fits);refine aB<|aB<|wpAny_handled ?_;rw[hh];apply wpAny_throw;exact aB<|RB ⟨_,iy _ rfl,rfl⟩ RD<|bH<|hQ _ λb o hb=>fT _<|fT _ hb
 exact bH ⟨v,rfl,bH hQ⟩
theorem RelV.iW (hv:∀a o,h.get? a=some o->eO o->a∉own) y (h0:y.lo 0=true)(r:RelV fp h y v):RelV own h y v:=RelV.mv ((⟨λx x x e=>nS e,λb o e v x x=>⟨hv b o e v,e⟩⟩)) y y v (CV.kR (λk hk=>absurd hk<|zY k) y h0) r
theorem Sx.nil (S:Sx own st s):Sx [] [] s:=⟨S.bj,rfl,EX,λa h=>(nomatch h),λi o a e=>(nomatch e),S.cU,S.bare,S.tk,S.ok⟩
theorem WO {x:vK}(h:AllBare gens)(hx:x.bare=true):AllBare (gens.setIfInBounds g x):=λy hy=>by
 rcases Array.mem_or_eq_of_mem_setIfInBounds hy with h'|h'
 ·exact h y h'
 exact h'▸hx
theorem Sx.setGen (S:Sx own st s){x:vK}(hx:x.bare=true):Sx own st (s.setGen g x):=⟨S.bj,S.len,S.kj,S.fresh,S.iV,S.cU,WO S.bare hx,S.tk,S.ok⟩
theorem Sx.Dn (S:Sx own st s)(F:Sx fp tm s)(E:a9 fp s g8 s')(F':Sx g8 A0 s')(hd:∀a∈fp,a∉own):Sx own st s':=by refine⟨F'.bj,S.len,S.kj,S.fresh,λi o a e1 e2=>?_,F'.cU,F'.bare,F'.tk,F'.ok⟩;have r:=S.iV i o a e1 e2;obtain⟨ob,e⟩:=r.qh;exact r.aM ⟨λx x e=>e,λb o e v x hp=>E.bj b o e (F.rC e v) hp,λx h=>.inl h⟩<|((λa ha o e=>E.bj a o e (λh=>hd a h ha) (S.fresh a ha).2) a (c8 e2) ob e).trans e.symm
theorem agp {s:az}{g i:Nat}{x y:vK}(h:s.gens[i]?=some y)(cz:i≠g):(s.setGen g x).gens[i]?=some y:=by show(s.gens.setIfInBounds g x)[i]?=_;rwa[Array.getElem?_setIfInBounds_ne<|rc cz]
theorem sT.setGen {x:vK}(h:sT aT s)(h0:aT.gens[g]?=none):sT aT (s.setGen g x):=⟨h.os,λi y e=>agp (h.gens i y e) λq=>by rw[q,h0] at e;exact nS e⟩
structure yE (A:Around)(ys:List CV)(bx:List ai)(aT:az)(own:List ai)(st:List ae)(s:az)(ga:ai)(g:Nat)(fp:List ai):Prop where
 E:a9 bx aT own s
 S:Sx own st s
 yF:s.heap.IsGen ga g
 g1:ga∉own
 g2:ga∉X.P
 g3:ga∉fp
 run:∃gs,s.gens[g]?=some gs∧WK A.in1 gs (s.setGen g .running) (uN A.in1 ys fp (s.setGen g .running))
 g0:aT.gens[g]?=none
 Dp:∀a∈fp,aT.heap.get? a=none∧a∉own
 F:∃tm,Sx fp tm s
 q0:∀q∈X.P,∃o,aT.heap.get? q=some o
theorem a9.Dn {tm:List ae}(E:a9 bx aT own s)(E':a9 fp s g8 s')(h0:∀a∈fp,aT.heap.get? a=none)(F':Sx g8 A0 s'):a9 bx aT own s':=
 ⟨E.pre,E.new,λb o e hn hp=>E'.bj b o (E.bj b o e hn hp) (λh=>by rw[h0 b h] at e;exact nS e) hp,λq hq o e=>let ⟨ps,e',_⟩:=F'.cU q hq;⟨_,e'⟩,E.os.trans E'.os⟩
theorem yE.next (I:yE A ys bx aT own st s ga g fp)(q:Rm d A)(jD:ys=[]->∀s',a9 bx aT own s'->Sx own st s'->Q none s')(agq:∀y r,ys=y::r->y.lo 0=true->∀v s' g8,a9 bx aT own s'->Sx own st s'->RelV own s'.heap y v->s'.heap.IsGen ga g->(∀aO s₁ aw,a9 own s' aO s₁->Sx aO aw s₁->yE A r bx aT aO aw s₁ ga g g8)->Q (some v) s')(b9:∀y∈ys,y.lo 0=true):be (aQ X.prog X.w) A (l8 (.ref ga)) Q (λu u=>False) s:=by
 obtain⟨gs,uO,agr⟩:=I.run;obtain⟨tm,F⟩:=I.F;have Fr:Sx fp tm (s.setGen g .running):=F.setGen rfl;have Sr:Sx own st (s.setGen g .running):=I.S.setGen rfl;have Er:a9 bx aT own (s.setGen g .running):=⟨I.E.pre,I.E.new,I.E.bj,I.E.cU,I.E.os.setGen I.g0⟩;have hgr:(s.setGen g .running).gens[g]?=some .running:=by show(s.gens.setIfInBounds g .running)[g]?=_;rw[aqy<|(abI.mp uO).1]
 refine agk q.1 (I.S.ok.fw.nolimit.keeps I.S.bj) q.depth I.yF uO agr λe s₁ hq hp=>?_;cases ys with
 |nil=>obtain⟨rfl,g8,A0,E',F'⟩:=hp;refine .inl ⟨rfl,λh' hk=>?_⟩;have bK:=Er.Dn (tm:=tm) E' (λa ha=>(I.Dp a ha).1) F';have bq:=Sr.Dn Fr E' F' λa ha=>(I.Dp a ha).2;have bX:a9 bx aT own (s₁.setGen g .finished):=⟨bK.pre,bK.new,bK.bj,bK.cU,bK.os.setGen I.g0⟩;have bw:Sx own st (s₁.setGen g .finished):=bq.setGen rfl;exact jD rfl _ (bX.trans<|a9.more hk) (bw.more hk)|cons y r=>
  obtain⟨v,l,k,c',p,fs,g8,A0,rfl,E',F',rv,Ha⟩:=hp;refine .inr ⟨v,false,l,k,c',p,fs,rfl,?_⟩;have bK:=Er.Dn (tm:=tm) E' (λa ha=>(I.Dp a ha).1) F';have bq:=Sr.Dn Fr E' F' λa ha=>(I.Dp a ha).2;generalize WP:(End.susp v false l k c' p fs).genState=yG;have hb:yG.bare=true:=WP▸End.bare_of_quiet hq;have bX:a9 bx aT own (s₁.setGen g yG):=⟨bK.pre,bK.new,bK.bj,bK.cU,bK.os.setGen I.g0⟩;have bw:Sx own st (s₁.setGen g yG):=bq.setGen hb;have y0:=b9 y<|.head _;have Nu:s₁.heap.IsGen ga g:=by obtain⟨o,nm,qn,ho,hr⟩:=I.yF;exact⟨o,nm,qn,E'.bj ga o ho I.g3 I.g2,hr⟩
  have Nv:∀a∈g8,aT.heap.get? a=none∧a∉own:=λa ha=>by
   rcases E'.new a ha with h|h
   ·exact I.Dp a h
   refine⟨?_,Sr.jO h⟩;cases e:aT.heap.get? a with
   |none=>rfl|some o=>
    exfalso;have MB:=(F'.fresh a ha).2;by_cases ho:a∈bx
    ·obtain⟨w,hw⟩:=Er.pre;exact Sr.jO h<|hw▸EY _ ho
    rw[Er.bj a o e ho MB] at h;cases h
  refine agq y r rfl y0 v _ g8 bX bw (RelV.iW (λa o e t=>bq.rC e t) y y0 rv) Nu λaO aR aJ dC cF=>?_;have kp:∀a∈g8,aR.heap.get? a=s₁.heap.get? a:=λa ha=>by obtain⟨ob,e⟩:=F'.qh ha;exact(dC.bj a ob e (Nv a ha).2 (F'.fresh a ha).2).trans e.symm
  have ag:∀x:vK,x.bare=true->G8 g8 s₁ (aR.setGen g x):=λx hx=>⟨(cF.setGen hx).nil,kp,λb o e t hp=>dC.bj b o e (λhm=>bw.rC e t hm) hp⟩;refine⟨bX.trans dC,cF,?_,λhm=>?_,I.g2,λhm=>?_,⟨yG,dC.os.gens g yG ?_,?_⟩,I.g0,λa ha=>⟨(Nv a ha).1,λhm=>?_⟩,⟨A0,?_⟩,I.q0⟩
  ·obtain⟨o,nm,qn,ho,hr⟩:=Nu;exact⟨o,nm,qn,dC.bj ga o ho I.g1 I.g2,hr⟩
  ·obtain⟨o,nm,qn,ho,hr⟩:=Nu;rcases dC.new ga hm with h|h
   ·exact I.g1 h
   rw[show s₁.heap.get? ga=none from h] at ho;exact nS ho
  ·obtain⟨o,nm,qn,ho,hr⟩:=I.yF;rcases E'.new ga hm with h|h
   ·exact I.g3 h
   rw[show s.heap.get? ga=none from h] at ho;exact nS ho
  ·show(s₁.gens.setIfInBounds g yG)[g]?=_;rw[aqy<|(abI.mp<|E'.os.gens g _ hgr).1]
  ·exact .inr ⟨k,l,c',p,fs,_,WP.symm,Ha _<|ag .running rfl⟩
  ·obtain⟨ob,e⟩:=F'.qh ha;rcases dC.new a hm with h|h
   ·exact(Nv a ha).2 h
   rw[show s₁.heap.get? a=none from h] at e;exact nS e
  have:=(ag yG hb).WJ F';exact⟨this.bj,this.len,this.kj,this.fresh,this.iV,this.cU,cF.bare,cF.tk,cF.ok⟩
theorem agu (h:s.heap.IsGen ga g)(hQ:Q () s):be (aQ X.prog X.w) A (ri target (.ref ga) v) Q (λx x=>False) s:=by obtain⟨o,nm,qn,ho,hc,_⟩:=h;exact LW ho hc rfl hQ
theorem agv (b9:∀y∈ys,y.lo 0=true):∀{st ag} {f},fG d c target body (λu=>True) ys st f ag->∀{A bx aT own s ga g fp env},Rm d A->yE A ys bx aT own st s ga g fp->dK own c env->gK (aQ X.prog X.w) A (.forLoop target (.ref ga) body [] env) (x9 bx aT ag f) s:=by
 have item:∀{y:CV} {ys:List CV} {st aw:List ae} {A bx aT own s ga g fp env} {R:Kc->az->Prop},(∀z∈y::ys,z.lo 0=true)->dj d c target y st aw->Rm d A->yE A (y::ys) bx aT own st s ga g fp->dK own c env->
  (∀aO s₁,a9 bx aT aO s₁->Sx aO aw s₁->dK aO c env->(∀aS aR aJ,a9 aO s₁ aS aR->Sx aS aJ aR->∃g8,yE A ys bx aT aS aJ aR ga g g8)->
   be (aQ X.prog X.w) A (l4 body env) (λf bu=>match f with
    |.next|.cont=>gK (aQ X.prog X.w) A (.forLoop target (.ref ga) body [] env) R bu|.brk=>R (.ok .next) bu|.ret v=>R (.ok<|.ret v) bu) (λu u=>False) s₁)->gK (aQ X.prog X.w) A (.forLoop target (.ref ga) body [] env) R s:=by
  intro y ys st aw A bx aT own s ga g fp env R b9 ha q I R' k;refine AA<|I.next q (λe=>nomatch e) (λy' r e y0 v s' g8 bK bq rv hg kk=>?_) b9;cases e;apply agu hg;exact bC (ha A own s' env v q bq ⟨R'.scope,R'.kind,R'.wc,R'.cells,R'.globals,R'.builtins,R'.tab⟩ rv) (λu aR ⟨aS,bX,bw⟩=>k aS aR (bK.trans bX) bw (R'.ext bX) λdt bu cE dC cF=>⟨g8,kk dt bu cE (bX.trans dC) cF⟩) λu u x=>x
 induction ys with|nil=>intro st ag f h A bx aT own s ga g fp env q I R;obtain⟨_,rfl,rfl⟩:=h;exact AA (I.next q (λu s' E' S'=>⟨_,own,rfl,E',S',rfl⟩) (λy r e=>nomatch e) b9)|cons y ys ih=>intro st ag f h A bx aT own s ga g fp env q I R;obtain⟨_,_,_,_,ha,hx,hr⟩:=h;refine item b9 ha q I R λaO s₁ bK bq uM kk=>bC (hx A aO s₁ env q bq uM) (λfl aR ⟨aS,bX,bw,rf⟩=>Vm hr (bK.trans bX) bw rf λh=>?_) λu u x=>x;obtain⟨g8,I'⟩:=kk aS aR _ bX bw;exact ih (λy hy=>b9 y<|.tail _ hy) h q I'<|uM.ext bX
theorem agw {pos:Pos}(hp:Av f=false)(hf:a8 (d+4) c f st (.aH a) aw)(hv:qj (d+4) c args aw vs aJ)(hk:sV (d+4) c fg aJ ks cE)(uy:oM (.aH a) cE)(F:CS a fd yH)(x7:fd.scope.isGenerator=true)(hb:db fd cE vs ks binds cE)(ly:Gu fd.scope binds=true)(WQ:∀n,je n fd.scope.names []=[])(WR:(binds.all λp=>p.2.lo 0)=true)(hg:lD d (da fd.scope 0 none) yH [.frame (CQ fd.scope binds)] ys Hb)(b9:∀y∈ys,y.lo 0=true)(h:fG (d+4) c target body (λu=>True) ys cE fl ag):dB (d+4) c (.For target (.Call f args fg tn) body [] pos) st fl ag:=λA own s env q S R=>by
 refine wpAny_For (UF hp hf hv hk uy q S R λaS aR fv ws kk bX bw fQ cx di=>?_)<|AD rfl;subst fQ;obtain⟨oc,od,kU,LR⟩:=F.bD;refine Ri<|codeAny_call_generator q.depth (bw.bj _ _<|bw.ok.k _ _ LR) rfl F.co x7 F.body (codeRec_of (λa o e=>bw.bj _ _<|bw.ok.k a o e) F.code) (hb aS aR ws kk bw cx di _ _ _ _ λdt bs bu dC cF wj=>?_);rw[F.aH,F.d3,F.blt];refine bC (xG (l7.mpr cF.tk) (E:=λu u=>False) (Q:=λenv s'=>env=_∧InCallC bu env.locals (bindL env.kindOf bs λu=>none) env.cells (bindC env.kindOf bs λu=>none) s')
  (ap7 F.kind (λx hx=>?_) λenv he s' x=>⟨he,x⟩)) (λtp kq hx=>?_) λu u x=>x.2.elim
 ·have hm:x.1∈binds.map (·.1):=cf.names wj▸Kf hx;obtain⟨p,hp,e⟩:=cu.mp hm;have:=dI.mp ly p hp;rw[e] at this;rcases ap8.mp this with h1|h1
  ·exact .inl (by simpa using h1)
  rw[bz] at h1;obtain⟨h2,h3⟩:=h1;refine .inr ⟨by simpa using h2,?_⟩;obtain⟨i,hi,e2⟩:=pN.mp<|ap9.mp h3;have hm:=CR fd.scope.names (bu.heap.objs.size+1) [] i x.1 (by rw[bA hi,e2]);rw[abm (cellsFrom_names fd.scope.names 0 (bu.heap.objs.size+1) [] [] rfl▸F.Gs) hm];rfl
 obtain⟨ku,he,x⟩:=hx;obtain⟨qk,oU,jQ,mT,Vj⟩:=Vh cF wj rfl (by rw[he];rfl) (by rw[he];rfl) (by rw[he];rfl) F.nd F.Gs x (l7.mp ku);obtain⟨h',tk,rfl,eV⟩:=x.done;refine⟨(bw.ok.fw.nolimit.keeps cF.bj).keeps eV,?_⟩;have WS:bu.heap.get? tp.locals=none:=he▸iI (aG _);obtain⟨aL,WT,m,hm,hv⟩:=jQ.bD (by rw[dT<|aG _,fk];rfl);rw[mT] at WT;obtain rfl:=dE WT;have yI:=c8 mT;have C8:h'.get? h'.objs.size=none:=iI<|aG _;have Hc:bu.heap.get? h'.objs.size=none:=by cases e:bu.heap.get? h'.objs.size with|none=>rfl|some o=>rw[eV _ _ e] at C8;cases C8
 generalize Hd:({cls:=.type "generator",data:=.fields #[.int (bu.gens.size) 0,.str fd.name tk,.str fd.qualname<|tk+1]}:Obj)=go;have WU:∀b o,bu.heap.get? b=some o->(h'.push go).get? b=some o:=λb o e=>fT _<|eV b o e;have gb:AllBare (bu.gens.push<|.fresh<|.func yH tp):=cF.bare.push rfl;have wH:=cF.more (t:=tk+1+1) WU;have nR:Sx dt cE {bu with heap:=h'.push go,toks:=tk+1+1,gens:=bu.gens.push (.fresh<|.func yH tp)}:=⟨wH.bj,wH.len,wH.kj,wH.fresh,wH.iV,wH.cU,gb,wH.tk,wH.ok⟩;have He:=bX.trans dC;have A3:=He.trans<|a9.more (t:=tk+1+1) WU;have yl:a9 own s dt {bu with heap:=h'.push go,toks:=tk+1+1,gens:=bu.gens.push (.fresh<|.func yH tp)}:=⟨A3.pre,A3.new,A3.bj,A3.cU,⟨A3.os.os,λi y e=>by have:=A3.os.gens i y e;rw[Array.getElem?_push];rw[if_neg<|by exact ah [_,_] (.lt .o .i<|.g (-1) 0<|.no<|.eq .o .i) rfl ((abI.mp this).1)];exact this⟩⟩;have WV:(h'.push go).IsGen h'.objs.size bu.gens.size:=⟨_,_,_,iy _ (by rw[<-Hd];rfl),by rw[<-Hd],by rw[<-Hd],by rw[<-Hd]⟩;apply wpAny_pyIter_gen WV;have nv:∀o,(h'.push go).get? tp.locals=some o->¬eO o:=λo e t=>by obtain⟨ob,eb⟩:=jQ.qh yI;rw[fT _ eb] at e;obtain rfl:=dE e;exact jQ.rC eb t yI
 have I:yE A ys own s dt cE {bu with heap:=h'.push go,toks:=tk+1+1,gens:=bu.gens.push (.fresh<|.func yH tp)} h'.objs.size bu.gens.size [tp.locals]:=by
  have Sg:∀gens:Array vK,AllBare gens->Sx [tp.locals] [.frame<|CQ fd.scope binds] {bu with heap:=h'.push go,toks:=tk+1+1,gens:=gens}:=λgens hgb=>by
   refine⟨nR.bj,rfl,by simp,λb hb=>gV.mp hb▸jQ.fresh _ yI,λi o b e1 e2=>?_,nR.cU,hgb,nR.tk,nR.ok⟩;cases i with
   |succ i=>exact nS e1|zero=>
    obtain rfl:=dE e1;obtain rfl:=dE e2;obtain⟨ofr,es,ep,agz,agA⟩:=hm;refine⟨m,⟨ofr,es,ep,fT _ agz,agA⟩,λz=>?_⟩;rcases hv z with hz|hz
    ·exact .inl hz
    refine .inr ?_;cases hl:(CQ fd.scope binds).lookup z with|none=>rwa[hl] at hz|some v=>rw[hl] at hz;obtain⟨y,e1,e2⟩:=hz;have Nw:=dI.mp WR _ (by have:=abJ.mp<|Uj hl;exact(Ca.mp this).1);exact⟨y,e1,RelV.iW (λb o e t hb=>by rw[gV.mp hb] at e;exact nv o e t) v Nw<|e2.aM ⟨λu u e=>e,λb o e u u u=>fT _ e,λu h=>.inl h⟩⟩
  have hL0:=CW S He cF WS;refine⟨yl,nR,WV,cF.jO Hc,cF.mf Hc,?_,⟨.fresh<|.func yH tp,?_,.inl ⟨_,rfl,agj hg (Rm.in1<|Rm.le q<|by exact ah [_] (.gl (.a (.a .o .j) .j)<|.a .o<|.n 4) rfl) (Sg _<|WO gb rfl) ?_⟩⟩,?_,λb hb=>?_,⟨_,Sg _ gb⟩,λp hp=>let ⟨ps,e,_⟩:=S.cU p hp;⟨_,e⟩⟩
  ·intro hb;have e:=gV.mp hb;obtain⟨ob,eb⟩:=jQ.qh yI;have WW:h'.get? h'.objs.size=some ob:=by rwa[e]
   rw[C8] at WW;exact nS WW
  ·show(bu.gens.push _)[bu.gens.size]?=_;simp
  ·refine⟨by rw[he];rfl,F.kind,rfl,?_,by rw[he];rfl,by rw[he];rfl,λq hq=>nomatch hq⟩;show gZ _ (je 1 fd.scope.names []) _;rw[WQ,he];exact WQ _
  ·cases e:s.gens[bu.gens.size]? with|none=>rfl|some y=>have:=He.os.gens _ _ e;rw[Array.getElem?_eq_none<|aG _] at this;exact nS this
  exact gV.mp hb▸⟨hL0,cF.jO WS⟩
 refine pS (agv b9 h q I<|R.ext He) λr s' ⟨fl,av,e,E',S',rf⟩=>?_;subst e;exact⟨av,E',S',rf⟩
end
section
theorem Nx (xs:List α) a:∀n,((aK n).map (a + ·)).filterMap (xs[·]?)=(xs.drop a).take n
 |0=>by simp|n+1=>by rw[abK,fU,List.filterMap_append,Nx xs a n];rw[aa2,sL];congr 1
noncomputable def eZ (lo:Option Int)(n:Nat):Nat:=lo.elim 0 (nH n)
noncomputable def i5 (hi:Option Int)(n:Nat):Nat:=hi.elim n (nH n)
theorem Hf (xs:List α) lo hi:e7 xs lo hi none=(xs.drop (eZ lo xs.length)).take (i5 hi xs.length-eZ lo xs.length):=by unfold e7;rw[sliceBounds_plain];rw[sliceRange_one,Nx];rfl
theorem Dq x  lo hi:gD x lo hi=⟨((x.cps.toList.drop (eZ lo x.length)).take (i5 hi x.length-eZ lo x.length)).toArray⟩:=by
 have e:Kp lo hi 1 x.length=(aK<|i5 hi x.length-eZ lo x.length).map (eZ lo x.length + ·):=by have:=sliceBounds_plain lo hi x.length;show Rt (zS lo hi none x.length).1 (zS lo hi none x.length).2.1 1=_;exact this▸sliceRange_one _ _
 have hn:x.length=x.cps.toList.length:=by simp [Fi]
 have Ny:i5 hi x.length<=x.length:=by cases hi with|none=>exact aG _|some i=>exact Int.toNat_le.mpr<|Int.max_le.mpr ⟨mK _,Int.min_le_right _ _⟩
 unfold gD;rw[e];have pk:((aK<|i5 hi x.length-eZ lo x.length).map (eZ lo x.length + ·)).filterMap (x.cps[·]?)=(x.cps.toList.drop<|eZ lo x.length).take (i5 hi x.length-eZ lo x.length):=by have:=Nx x.cps.toList (eZ lo x.length)<|i5 hi x.length-eZ lo x.length;simpa using this
 rw[pk];by_cases h:(((aK<|i5 hi x.length-eZ lo x.length).map (eZ lo x.length + ·)).length==x.length)=true
 ·rw[if_pos h];simp [aV,fb,beq_iff_eq] at h;by_cases h0:x.length=0
  ·have:=Fj<|hn▸h0;apply xC;rw[this];simp;exact Rd h0
  have h1:eZ lo x.length=0:=by lia
  apply xC;rw[h1,sQ,uc<|by exact acB h hn]
 rw[if_neg h]
theorem yJ x  lo hi:(gD x lo hi).length<=x.length:=by
 rw[Dq];show(abB _).size<=_;simp [ig,nG,jA];have:x.cps.toList.length=x.length:=by simp [Fi]
 exact acC this
theorem uP (n k:Nat):nH n (k:Int)=min k n:=by
 unfold nH;rw[if_neg<|sB.mpr<|mK k];rcases Nat.le_total k n with h|h
 ·rw[abF<|EV.mpr h,zH h,abL<|mK _];rfl
 rw[Int.min_eq_right<|EV.mpr h,Nat.min_eq_right h,abL<|mK _];rfl
theorem WX n:nH n (-1)=n-1:=by unfold nH;rw[if_pos (by decide),Rr];cases n with|zero=>rfl|succ m=>rw[show(m+1:Nat) + -1=(m:Int) from aby m 1,abF<|EV.mpr<|ke m,abL<|mK _];rfl
variable {d:Nat}{st:List ae}{k:Nat}{xs:List CV}
theorem jX (hk:st[k]?=some (.list xs)):gM d "append" (.ab k) st (.bi "list.append") [.ab k]:=yo F.slot_list_append F.type_list_append hk
theorem A4 (hk:st[k]?=some (.list xs)):gM d "pop" (.ab k) st (.bi "list.pop") [.ab k]:=yo F.slot_list_pop F.type_list_pop hk
theorem WY (hk:st[k]?=some (.list xs)):gM d "insert" (.ab k) st (.bi "list.insert") [.ab k]:=yo F.slot_list_insert F.type_list_insert hk
theorem Nz (hk:st[k]?=some (.list xs)):gM d "extend" (.ab k) st (.bi "list.extend") [.ab k]:=yo F.slot_list_extend F.type_list_extend hk
theorem agD (hk:st[k]?=some (.list xs)):gM d "count" (.ab k) st (.bi "list.count") [.ab k]:=yo F.slot_list_count F.type_list_count hk
theorem WZ (hk:st[k]?=some (.list xs)):gM d "index" (.ab k) st (.bi "list.index") [.ab k]:=yo F.slot_list_index F.type_list_index hk
theorem agE:∀{a b} {st aw ag} {f},aI d c a st .next aw->aI d c b aw f ag->aI d c (a++b) st f ag:=λ{a b st aw ag f} h k A own s env q S R=>by
 have e:∀a,l4 (a++b) env=(l4 a env>>=λf=>match f with|.next=>l4 b env|f=>pure f):=λa=>by induction a with|nil=>rfl|cons x r ih=>rw[fM,Gi,Gi,ih,bind_assoc];congr 1;funext f;cases f<;>rfl
 rw[e];refine(h A own s env q S R).bind λaO fl s₁ bF ⟨bq,rf⟩=>?_;subst rf;exact k A aO s₁ env q bq<|R.ext bF
theorem jY n (h:aI d c (b.take n) st .next aw)(k:aI d c (b.drop n) aw f ag):aI d c b st f ag:=by have:=agE h k;rwa[E5] at this
end
section
variable {d:Nat}{c:aY}{st ag:List ae}
theorem CodeAll.mem:∀{cU},CodeAll cU h->∀q∈cU,CodeHd h q.1 q.2
 |_::_,k,_,.head _=>k.1|_::_,k,q,.tail _ hq=>CodeAll.mem k.2 q hq
theorem agF pos  ext ps (h:J9 ps):vL pos (ps++ext)=(vL pos ps).or (vL pos ext):=by
 fun_induction J9 ps with
 |case1=>rfl|case2 l t k u c r ih=>
  show vL pos (.int l t::.int k u::c::(r++ext))=_;rw[vL,vL];by_cases hh:(l==(pos.line)&&k==(pos.col))=true
  ·rw[if_pos hh,if_pos hh];rfl
  rw[if_neg hh,if_neg hh];exact ih h
 |case3=>exact h.elim
theorem agG (h:rB vs=true):∃q t,vs[1]?=some (.str q t):=by
 unfold rB at h;generalize vs[1]?=o at *;cases o with
 |none=>exact nB h|some v=>cases v<;>first|exact nB h|exact⟨_,_,rfl⟩
theorem Sx.tab (S:Sx own st s){P:ai}{t:Tok}(hP:P∈X.P)(hB:X.H.get? P=none)(hk:f6 P s.heap h')(hT:Ak h' P)(ht:t≠0):Sx own st {s with heap:=h',toks:=t}:=by
 have hv:∀o,s.heap.get? P=some o->¬eO o:=λo e v=>by obtain⟨ps,e',h1,_⟩:=S.cU P hP;rw[e] at e';obtain rfl:=dE e';obtain⟨q,t,e⟩:=agG<|(cP _).symm.trans<|v;exact triples_no_str h1 q t<|Array.getElem?_toList.trans e
 refine⟨S.CC hB hk,S.len,S.kj,S.fresh,λi o a e1 e2=>(S.iV i o a e1 e2).CD (eD.iW hv hk) hk<|Lh (λh=>(S.fresh P h).2 hP) e2,λq hq=>?_,S.bare,ht,S.ok⟩;by_cases uQ:q=P
 ·subst uQ;exact hT
 obtain⟨ps,e,r,r'⟩:=S.cU q hq;exact⟨ps,hk _ _ uQ e,r,r'.bj λb o e v x=>hk b o (λq=>hv o (q▸e) v) e⟩
theorem a9.tab {P:ai}{t:Tok}(hP:P∈X.P)(hk:f6 P s.heap h')(hT:Ak h' P):a9 own s own {s with heap:=h',toks:=t}:=
 ⟨⟨[],by simp⟩,λx h=>.inl h,λb o e x hp=>hk b o (λq=>hp<|q▸hP) e,λq hq o e=>by
  by_cases uQ:q=P
  ·subst uQ;obtain⟨ps,e',_⟩:=hT;exact⟨_,e'⟩
  exact⟨o,hk q o uQ e⟩,.of rfl rfl⟩
section
variable {M:Model}{A:Around}{E:an->az->Prop}{s:az}{name qual:Str}{params:pL}{body:aq}{scope:d8}{env:Env}{cd P:ai}{ps:Array an}{pos:Pos}{W0:Nat}{mg:Str->Option an} {qz:List (Str×ai)}{Q:an->az->Prop}
theorem agH (eG:closureFor scope env=pure qz)(agI:env.globals=jy)(hg:s.heap.Ns jy mg)(A5:env.code=.ref cd)(C:CodeHd s.heap cd P)(hP:s.heap.get? P=some (xy ps))(ht:J9 ps.toList) (hnf:vL pos ps.toList=none)(NA:jy≠P)(hb:s.heap.BuiltinsAt mg P) (h:∀c' yK h' tk pm,f6 P s.heap h'->s.heap.objs.size<=c'->h'.CodeRec (.ref c') qual->(∃o,h'.get? c'=some o∧o.cls=.type "code")->h'.get? P=some (xy (ps++#[rh pos.line,rh pos.col,.ref c']))->Q (.ref h'.objs.size) {s with heap:=h'.push {cls:=.type "function",data:=.func (vJ name qual params body scope qz pm (.ref c') yK)},toks:=tk}):be M A (makeFunction name qual params (.expr body) scope env [] [] [] pos W0) Q E s:=by
 rw[makeFunction_eq];simp [List.zip_nil_right,List.filterMap_nil,List.isEmpty_nil,if_true];obtain⟨bm,ob,hbm,agL,_,agM,hbo,Hg,agO,agP⟩:=hb;unfold makeTail;rw[eG,agI];refine aB<|bH ?_;have tail:∀yK s₁,(∀b o,s.heap.get? b=some o->s₁.heap.get? b=some o)->s.heap.objs.size<=s₁.heap.objs.size->s₁= {s with heap:=s₁.heap}->
  be M A (do
   let cv<-functionCode env pos W0 name qual params scope (.expr body);let bv<-builtinsFor jy env.builtins;let nm<-nsGet jy "__name__";let doc<-pure an.none
   newObj (.type "function") (.func {name:=name,qualname:=qual,params:=params,body:=.expr body,scope:=scope,globals:=jy,closure:=qz,closureTuple:=yK,code:=cv,builtins:=bv,defaults:=.none,kwdefaults:=.none,annotations:=none,pyModule:=nm.getD .none,doc:=doc})) Q E s₁:=λyK s₁ hk hz he=>by
  refine aB<|wpAny_functionCodeX A5 ((C.keeps hk).code (hk _ _ hP) ht) ((C.keeps hk).tab<|hk _ _ hP) hnf λc' h' tk hx Dr aZ x NB NC ⟨u,z,w,⟨⟨oc,v,tu,Ds,t⟩,y⟩⟩=>?_;have wo:=(hg.keeps hk).extBut hx NA;refine aB<|wpAny_builtinsFor wo hbm agL (hx _ _ agM<|hk _ _ hbo) Hg agO agP ?_;refine aB (wpAny_nsGet wo<|aB<|bH<|vQ ?_<|by size_fits);rw[he];exact h c' yK h' tk ((mg "__name__").getD .none) (λb o hb e=>hx b o hb<|hk _ _ e) (fC hz Dr) NB ⟨oc,tu,Ds⟩ NC.2
 cases qz with|nil=>exact aB (bH<|tail .none s (λx x e=>e) (aG _) rfl)|cons q r=>exact aB<|wpAny_newTextTuple<|tail _ _ (λb o e=>fT _ e) (by rw[E8];exact pY) rfl
end
inductive agQ (own:List ai)(s:az)(P:ai)(args:pL)(body:aq)(scope:d8)(qz:List (Str×ai))(v:an)(s':az):Prop|mk (h':bf) (tk:Tok) (nm qu:Str) (pm ct:an) (c':ai) (o:Obj) (vs:Array an) (q:Str) (t:Tok) (hk:f6 P s.heap h') (hT:Ak h' P) (hv:v=.ref h'.objs.size)
   (hs:s'= {s with heap:=h'.push {cls:=.type "function",data:=.func (vJ nm qu args body scope qz pm (.ref c') ct)},toks:=tk}) (h1:c'∉own) (h2:c'∉X.P) (h3:h'.get? c'=some o) (h4:o.data=.fields vs) (h5:vs[1]?=some (.str q t)) (h6:o.cls≠.type "callable_iterator")
theorem xT.CE {P:ai}{pos:Pos}(yL:J9 ps.toList)(rQ:xT h ps.toList)(hP:P∈X.P)(hk:f6 P h h')(hc:T8 h' (.ref c')):xT h' (ps++#[rh pos.line,rh pos.col,.ref c']).toList:=λrH cv e=>by
 rw[z3,agF _ _ _ yL] at e;cases hx:vL rH ps.toList with
 |some cv'=>rw[hx] at e;obtain rfl:=dE e;obtain⟨jU,o,vs,q,t,e1,e2,e3,e4,e5,e6⟩:=rQ rH _ hx;exact⟨jU,o,vs,q,t,e1,e2,hk _ _ (λz=>e2<|z▸hP) e3,e4,e5,e6⟩|none=>
  rw[hx] at e;have e':(if(((pos.line)==(rH.line:Int))&&((pos.col)==(rH.col:Int)))=true then some (an.ref c') else none)=some cv:=e;by_cases hz:(((pos.line)==(rH.line:Int))&&((pos.col)==(rH.col:Int)))=true
  ·rw[if_pos hz] at e';exact dE e'▸hc
  rw[if_neg hz] at e';exact nS e'
theorem agR (S:Sx own st s){P:ai}(hP:P∈X.P):jy≠P∧s.heap.BuiltinsAt X.mg P:=by
 have T:=S.ok.fw;have hB:=S.ok.T3 P hP;obtain⟨bm,ob,b1,b2,b3,b4,b5,b6⟩:=T.bmain;obtain⟨o,es,ep,e,hd,_⟩:=T.g;refine⟨λq=>?_,bm,ob,b1,b2,λq=>?_,λq=>?_,S.bj _ _ b3,b4,b5,b6⟩
 ·rw[q,hB] at e;exact nS e
 ·rw[q,e] at b3;obtain rfl:=dE b3;rw[hd] at b6;cases b6
 rw[q,hB] at b3;exact nS b3
theorem agS {P:ai}{pos:Pos}(S:Sx own st s)(R:dK own c env)(hq:(cd,P)∈X.cU)(A5:env.code=.ref cd)(hP:P∈X.P)(AK:closureFor scope env=pure qz):be (aQ X.prog X.w) A (makeFunction name qual args (.expr body) scope env [] [] [] pos n) (agQ own s P args body scope qz) (λx x=>False) s:=by
 have C:=(CodeAll.mem S.ok.code _ hq).keeps S.bj;obtain⟨ps,A6,yL,rQ⟩:=S.cU P hP;have uO:=S.ok.fw.g.keeps S.bj;obtain⟨NA,W1⟩:=agR S hP;cases hf:vL pos ps.toList with
 |some cv=>refine kla_makeFunctionHit AK R.globals uO A5 C A6 yL hf W1 λyK h' tk hk bn=>?_;obtain⟨c',o,vs,q,t,rfl,e2,e3,e4,e5,e6⟩:=rQ pos cv hf;exact⟨h',tk,_,_,_,_,c',o,vs,q,t,λb o x e=>hk b o e,⟨ps,hk _ _ A6,yL,rQ.bj λb o e x x=>hk b o e⟩,rfl,rfl,S.rC e3<|FT e4 e5 e6,e2,hk _ _ e3,e4,e5,e6⟩|none=>
  refine agH AK R.globals uO A5 C A6 yL hf NA W1 λc' yK h' tk pm hk Dr NB ⟨oc',agT,Ds⟩ NC=>?_;have ik:=iI Dr;obtain⟨oV,oc,vs,t,e2,tu,hd,hv⟩:=NB;cases e2;have Hg:oc.cls≠.type "callable_iterator":=by rw[dE<|tu.symm.trans agT,Ds];exact λz=>absurd (an.type.inj z) (by decide)
  have Hh:=S.mf ik;exact⟨h',tk,_,_,_,_,c',oc,vs,_,t,hk,⟨_,NC,by rw[z3];exact TriplesOk_snoc _ _ _ _ yL,rQ.CE yL hP hk ⟨c',oc,vs,_,t,rfl,Hh,tu,hd,hv,Hg⟩⟩,rfl,rfl,S.jO ik,Hh,tu,hd,hv,Hg⟩
theorem Hi (ht:c.tab=some q){pos:Pos}(agU:∀env,defaultsOf args env=([],[]))(eG:mW c.cells scope.names []=some cells):a8 d c (.Lambda args body scope pos) st (.ab st.length) (st++[.d3 args body scope cells none]):=λA own s env rm S R=>by obtain⟨hq,A5⟩:=R.tab q ht;obtain⟨cd,P⟩:=q;have hP:P∈X.P:=Kf hq;obtain⟨qz,AK,rcl⟩:=Vx R.cells eG;apply kla_eval<|agU env;refine bC (xG (l7.mpr S.tk)<|agS S R hq A5 hP AK) (λv s' hx=>?_) λu u x=>x.2.elim;obtain⟨ku,h',tk,nm,qu,pm,ct,c',o,vs,q,t,hk,hT,rfl,rfl,e2,Mw,e3,e4,e5,e6⟩:=hx;have lz:tk≠0:=l7.mp ku;have bq:=S.tab hP (S.ok.T3 P hP) hk hT lz;have bK:a9 own s own {s with heap:=h',toks:=tk}:=a9.tab hP hk hT;have eV:∀b o,h'.get? b=some o->(h'.push {cls:=.type "function",data:=.func (vJ nm qu args body scope qz pm (.ref c') ct)}).get? b=some o:=λb o e=>fT _ e;have iK:h'.get? h'.objs.size=none:=iI<|aG _;refine⟨own++[h'.objs.size],bK.trans<|a9.push eV iK,bq.push eV iK λg=>⟨nm,qu,qz,pm,.ref c',ct,none,iy _ rfl,⟨q,c',o,vs,t,rfl,eV _ _ e3,e4,e5⟩,⟨c',rfl,g.not e3 e2<|FT e4 e5 e6,Mw,λo' e=>?_⟩,rcl.aM g,rfl⟩,h'.objs.size,(by rw[<-S.len,dT<|aG _,fk];rfl),rfl⟩;rwa[<-dE ((eV _ _ e3).symm.trans e)]
end
section
variable {d:Nat}{c:aY}{st ag g:List ae}
theorem cf.lookup {x:Str}:∀{es} {k},cf own h es k->kQ own h (es.lookup x) (k.lookup x)
 |[],u,e=>by subst e;rfl|(y,cv)::es,u,⟨v,k',e,hv,hr⟩=>by subst e;rw[nD,nD];cases xU:x==y with|true=>exact⟨v,rfl,hv⟩|false=>exact cf.lookup hr
theorem cf.append:∀{es ls} {k k'},cf own h es k->cf own h ls k'->cf own h (es++ls) (k++k')
 |[],x,u,o,e,r=>by subst e;exact r|(y,cv)::es,x,u,o,⟨v,k',e,hv,hr⟩,r=>by subst e;exact⟨v,_,rfl,hv,cf.append hr r⟩
theorem cf.reverse:∀{es} {k},cf own h es k->cf own h es.reverse k.reverse
 |[],x,e=>by subst e;rfl|(y,cv)::es,x,⟨v,k',e,hv,hr⟩=>by subst e;rw[B3,B3];exact cf.append (cf.reverse hr) ⟨v,[],rfl,hv,rfl⟩
section
variable {prog:q9}{w:pM}{A:Around}{R:Kc->az->Prop}{s:az}
theorem agW {a:ai}{args:Args}{o:Obj}{fd:el}{body:aq}{q:Str}(G':A.depth<Ka) (ho:s.heap.get? a=some o)(lC:o.data=.func fd)(rQ:fd.scope.isCoroutine=false)(x7:fd.scope.isGenerator=false)(agX:fd.body=.expr body)(mh:s.heap.CodeRec fd.code q) (h:be (aQ prog w) A.in1 (sH fd args) (λbinds s₁=>be (aQ prog w) A.in1 (abv fd.scope fd.globals fd.closure binds (q++".<locals>.") (some a) fd.code none fd.builtins) (λenv aR=>aR.heap.NoLimit∧gK (aQ prog w) A (.expr body env) R aR) (λe s'=>R (.error e) s') s₁) (λe s'=>R (.error e) s') s):gK (aQ prog w) A (.call (.ref a) args) R s:=by
 refine Kh ?_;refine aB<|Rk ho ?_;obtain⟨c,oc,vs,tq,hc,tu,hdc,hq⟩:=mh;rw[lC];show be _ A.in1 (callFunction a fd args) _ _ s;delta callFunction;rw[hc] at h ⊢;rw[rQ,x7,agX];refine aB<|kf tu hdc hq<|aB<|bH ?_;exact aB (bC h (λbinds s₁ c9=>aB (bC c9 (λenv aR gf=>aB (wpAny_enterFrame gf.1 G'
  (bH<|And.intro rfl gf.2))) λx x h'=>h')) λx x h'=>h')
end
theorem Hj (hn:st[n]?=some (.d3 params body scope cells dict))(hb:∀nm qu cl pm cv ct,db (vJ nm qu params body scope cl pm cv ct) st args kw binds st)(rQ:scope.isCoroutine=false)(x7:scope.isGenerator=false)(ly:scope.kind=.function)(hnc:(scope.names.all λx=>x.2 != .cell)=true)(mT:(binds.all λp=>scope.names.lookup p.1==some .local)=true)(h:a8 d {scope:=scope,locals:=st.length,cells:=cells} body (st++[.frame binds.reverse]) v (ag++g))(bJ:st.length<=ag.length)(b9:(ag.all λo=>o.lo ag.length)=true)(uB:v.lo ag.length=true):bM (d+2) (.ab n) args kw st v ag:=λA own s fv vs ks q S fQ cx di=>by
 obtain⟨a,ha,rfl⟩:=fQ;obtain⟨a',b8,name,qual,cl,pm,jN,ct,dd,ho,⟨qq,mh⟩,ND,eG,W2⟩:=S.bD hn;rw[ha] at b8;obtain rfl:=dE b8;refine agW q.depth ho rfl rQ x7 rfl mh (hb name qual cl pm jN ct own s vs ks S cx di _ _ _ _ λaO bs s₁ bK bq wj=>?_);refine bC (xG (l7.mpr bq.tk) (E:=λu u=>False) (Q:=λenv s'=>env=newEnv scope s₁.heap.objs.size jy cl (qq++".<locals>.") (some a) jN none Kb∧∃h',h'.Ns s₁.heap.objs.size (λx=>bs.reverse.lookup x)∧sJ s₁.heap.objs.size (s₁.heap.push {cls:=.type "frame",data:=.dict #[]}) h'∧s'= {s₁ with heap:=h',toks:=s₁.toks+bs.length})
  (wpAny_newFunctionEnv (λx hx=>?_) (λx hx=>?_) (λh' mu NE=>⟨rfl,h',mu,NE,rfl⟩) ly)) (λenv s' hx=>?_) λu u x=>x.2.elim
 ·have:=dI.mp hnc x hx;simpa using this
 ·have hm:x.1∈binds.map (·.1):=by rw[<-cf.names wj];exact Kf hx
  obtain⟨p,hp,e⟩:=cu.mp hm;have:=dI.mp mT p hp;rw[e] at this;simpa using this
 obtain⟨ku,rfl,h',mu,NE,rfl⟩:=hx;have lz:=l7.mp ku;have hk:=λb o e=>NE.extBut b o (pQ<|sE e)<|fT _ e;have iK:s₁.heap.get? s₁.heap.objs.size=none:=iI<|aG _;refine⟨(S.ok.fw.nolimit.keeps bq.bj).keeps hk,kla_codeExpr ?_⟩;have bX:a9 aO s₁ (aO++[s₁.heap.objs.size]) {s₁ with heap:=h',toks:=s₁.toks+bs.length}:=a9.push hk iK;have R:dK (aO++[s₁.heap.objs.size]) {scope:=scope,locals:=st.length,cells:=cells} (newEnv scope s₁.heap.objs.size jy cl (qq++".<locals>.") (some a) jN none Kb):=
  ⟨rfl,ly,by rw[<-bq.len,dT<|aG _,fk];rfl,(eG.aM bK.aM).aM bX.aM,rfl,rfl,λq hq=>nomatch hq⟩
 refine bC (h _ _ _ _ (Rm.deeper<|Rm.le q<|Tq) (bq.push (o':=.frame binds.reverse) hk iK λg=>⟨_,mu,λx=>.inr (cf.reverse<|wj.aM g).lookup⟩) R) (λx aR ⟨aS,dC,cF,rx⟩=>?_) λu u x=>x.elim;obtain⟨dt,ya,e1,e2,E',S'⟩:=Gy S (bK.trans<|bX.trans dC) cF bJ b9;subst e1;exact⟨dt,E',S',aF.Gv e2 uB rx⟩
end
section
open PySem PySem.W PySem.Calls PyProof.Rows Builtin Builtin.ObjectAttr
variable {d:Nat}{c:aY}{st ag g:List ae}
theorem A7:StoreFacts "function" [.type "function",.type "object"] "object.__setattr__" "object" where
 mro:=by rw[mroOf_type];kernel_rfl
 slot:=.of (owner:="object") (n:="__setattr__") (by rw[B9,B'];kernel_rfl) (by decide +kernel) (by decide +kernel) (by decide +kernel)
  (by first|exact .inl (by decide +kernel)|exact .inr<|by decide +kernel) (by rw[Rz];kernel_rfl)
 entry:=PySem.F.store_object.entry
 kind:=by decide +kernel
 split:=by decide +kernel
 hasOwner:=by decide +kernel
 args:=λa b c=>by kernel_rfl
 passes:=λqf=>by kernel_rfl
theorem Hk:Slot "function" "__getattribute__" "object.__getattribute__":=
 .of (owner:="object") (n:="__getattribute__") (by rw[B9,B'];kernel_rfl) (by decide +kernel) (by decide +kernel) (by decide +kernel)
  (by first|exact .inl (by decide +kernel)|exact .inr<|by decide +kernel) (by rw[Rz];kernel_rfl)
theorem ag0:Fg table "object.__getattribute__"=some Builtin.«object.__getattribute__»:=RA (by kernel_rfl)
theorem ag2:Fc (.type "function") "__getattr__"=pure none:=by rw[B9,B'];kernel_rfl
theorem W3:Fc (.type "function") "read"=pure none:=by rw[B9,B'];kernel_rfl
theorem ag3:typeHasDict (.type "function")=true:=by kernel_rfl
theorem ag4:finalisedInACycleAlone "function"=false:=by kernel_rfl
theorem ag5 {k:Nat}(hk:st[k]?=some (.d3 ps b sc cells none))(hl:Fc (.type "function") name=pure none):uA d name (.ab k) v st (((st++[ae.bt []]).set k (.d3 ps b sc cells (some st.length))).set st.length (.bt [(name,v)])):=λA own s x y q S r rv=>by
 obtain⟨a,ha,rfl⟩:=r;obtain⟨a',b8,NF,qual,cl,pm,jN,ct,dd,ho,lE,ND,eG,W2⟩:=S.bD hk;rw[ha] at b8;obtain rfl:=dE b8;have ag6:=W2;subst ag6;have hT:∀t,abH {s with toks:=t} (.ref a) "function":=λt=>⟨_,ho,rfl⟩;have aZ:=(bV.mp hk).1;refine aB<|B1<|aB<|zW (hT _) A7.slot<|vX A7.slot (hT _) A7.entry ?_<|A7.args _ _ _;rw[osa_eq,refuse_eq];refine aB<|aB<|RJ (hT _) ?_;rw[A7.mro,pure_bind,A7.passes];refine bH<|aB<|RJ (hT _) ?_;rw[hl,pure_bind];show be _ _ (instanceDict a true>>=_) _ _ _;refine aB<|aB<|B8 ho ?_;dsimp only;rw[ag3];simp only [mN,Bool.or_self,gJ,if_false];refine aB<|wpAny_alloc ?_;have eV:∀b o,s.heap.get? b=some o->(s.heap.push {cls:=.type "dict",data:=.dict #[]}).get? b=some o:=λb o e=>fT _ e;have iK:s.heap.get? s.heap.objs.size=none:=iI<|aG _;have bq:=S.push (o':=.bt []) (t:=s.toks+1) eV iK λg=>⟨[],0,iy _ rfl,rfl⟩;have bK:a9 own s (own++[s.heap.objs.size]) {s with heap:=s.heap.push {cls:=.type "dict",data:=.dict #[]},toks:=s.toks+1}:=a9.push eV iK;refine aB<|wpAny_update (eV _ _ ho) ?_;have Dg:((s.heap.push {cls:=.type "dict",data:=.dict #[]}).update a<|λo=>{o with dict:=some s.heap.objs.size}).get? a=some {cls:=.type "function",dict:=some s.heap.objs.size,data:=.func (vJ NF qual ps b sc cl pm jN ct)}:=
  E9 _ (eV _ _ ho) rfl
 have qx:f6 a (s.heap.push {cls:=.type "dict",data:=.dict #[]}) ((s.heap.push {cls:=.type "dict",data:=.dict #[]}).update a<|λo=>{o with dict:=some s.heap.objs.size}):=(rj ..).extBut;have AU:=bK.aM.bD _ _ ha;have Hl:(own++[s.heap.objs.size])[st.length]?=some s.heap.objs.size:=by rw[<-S.len,dT<|aG _,fk];rfl
 have bw:=bq.set (o':=.d3 ps b sc cells<|some st.length) (t:=s.toks+1) AU qx λg'=>by obtain⟨qq,lE⟩:=lE;have k1:=xS.mv bK.aM.mv lE ND;have k2:=xS.mv g'.mv k1.1 k1.2;exact⟨NF,qual,cl,pm,jN,ct,some s.heap.objs.size,Dg,⟨qq,k2.1⟩,k2.2,eG.aM bK.aM,s.heap.objs.size,Hl,rfl⟩
 have bX:=bK.trans<|a9.set (t:=s.toks+1) bq AU qx;generalize ((s.heap.push {cls:=.type "dict",data:=.dict #[]}).update a<|λo=>{o with dict:=some s.heap.objs.size})=gf at Dg qx bw bX ⊢;generalize hLe:s.heap.objs.size=L at *;obtain⟨L',Hm,dA,n,m4,NG⟩:=bw.bD (i:=st.length) (by rw[lZ (by exact SH aZ),dT<|aG _,fk];rfl);rw[Hl] at Hm;obtain rfl:=dE Hm;subst NG;simp only [if_false];refine aB<|bH<|bH ?_;show be _ _ (nsSet L name y>>=_) _ _ _;refine aB ?_;unfold nsSet;refine aB<|aB<|abr<|bH<|aB<|B1<|aB<|B8 m4 ?_;dsimp only;have Df:(!(([]:List nC).toArray).any (·.key.isStr name)&&(([]:List nC).toArray).any (·.refKey))=false:=by simp
 rw[aRefKeyMayBeTheName_at,Df];have e:=putName_dict name (q8 X.w.params name) (.str name<|s.toks+1) y ([]:List nC) n;have W4:(gf.update L<|Ry name (q8 X.w.params name) (.str name<|s.toks+1) y).get? L=some (BY (putL name (q8 X.w.params name) (.str name<|s.toks+1) y [])<|putN name [] n):=by rw[E9 _ m4 (by rw[e];rfl),e]
 refine wpAny_updatePart m4 ?_;refine aB<|wpAny_lookBehind W4 (pastItsLine_dict<|by rw[ig,vW];simp [putL]) ?_;have hs:f6 L gf (gf.update L<|Ry name (q8 X.w.params name) (.str name<|s.toks+1) y):=(rj ..).extBut;refine bH ⟨_,rfl,bH ?_⟩;exact⟨_,bX.trans<|a9.set bw Hl hs,bw.set Hl hs λg=>⟨_,_,W4,gm.MQ (es:=[]) ((rv.aM bX.aM).aM g) rfl⟩⟩
theorem ag7:(Manifest.canonical "object.__getattribute__" != "object.__getattribute__")=false:=by decide +kernel
theorem ag8 {k:Nat}(hk:st[k]?=some (.d3 ps b sc cells (some dd)))(hd:st[dd]?=some (.bt es))(hv:es.lookup name=some v)(hb:GX v=true)(hl:Fc (.type "function") name=pure none):gM d name (.ab k) st v []:=λA own s x pl q S r=>by obtain⟨a,ha,rfl⟩:=r;obtain⟨a',b8,NF,qual,cl,pm,jN,ct,dp,ho,lE,ND,eG,dx,qw,rfl⟩:=S.bD hk;rw[ha] at b8;obtain rfl:=dE b8;obtain⟨dx',De,dA,n,m4,hr⟩:=S.bD hd;rw[qw] at De;obtain rfl:=dE De;obtain⟨u,hu,ru⟩:=hr.get hv;have hT:∀t,abH {s with toks:=t} (.ref a) "function":=λt=>⟨_,ho,rfl⟩;refine aB<|Ko ⟨_,ho,rfl⟩ Hk.lookup ?_;dsimp only;rw[ag7];refine aB<|Ko ⟨_,ho,rfl⟩ ag2 ?_;refine aB<|Ko ⟨_,ho,rfl⟩ hl ?_;apply aB;refine aB<|B1<|vN<|aB<|RJ (hT _) ?_;rw[Hk.lookup,pure_bind];show be _ _ ((boundAndCalled (.builtin "object.__getattribute__") (.ref a)<|.str name s.toks).attempt>>=_) _ _ _;refine aB<|zV ?_;unfold boundAndCalled;rw[Hk.bind,pure_bind];refine vX Hk (hT _) ag0 ?_<|(by kernel_rfl);show be _ _ (typeOf (.ref a)>>=_) _ _ _;refine aB<|RJ (hT _) ?_;apply aB;unfold find;rw[hl,pure_bind];show be _ _ (ownThenClass (.ref a) name none none) _ _ _;apply aB;apply aB;refine aB<|B8 (s:={s with toks:=s.toks+1}) ho ?_;show be _ _ (instanceDict a false) _ _ _;unfold instanceDict;refine aB<|B8 ho ?_;apply bH;show be _ _ (nsGet dx name) _ _ _;unfold nsGet;refine aB<|B8 m4 ?_;rw[nsLook_of<|by rwa[Rx]];refine bH<|aB<|sC<|bH ?_;refine bH ⟨u,rfl,?_⟩;show be _ _ (handedOut u) _ _ _;rw[handedOut_of<|Wv hb ru];refine bH<|bH ?_;exact⟨own,.toks,S.toks _,ru,rfl⟩
end
section
variable {d:Nat}{c:aY}{st ag g:List ae}
theorem Hn {α:Type}{h:α->CV}{f:Nat->Option Nat}(H:∀x,(h x).bI f=some (h x))(xs:List α):CV.gn f (xs.map h)=some (xs.map h):=by induction xs with|nil=>rfl|cons x xs ih=>exact gC (H x) ih
theorem W5 f (cs:List Nat):CV.gn f (cs.map jR)=some (cs.map jR):=Hn (λx=>rfl) cs
theorem yM f (ss:List Str):CV.gn f (ss.map CV.str)=some (ss.map CV.str):=Hn (λx=>rfl) ss
theorem Ho f (ss:List Int):CV.gn f (ss.map CV.int)=some (ss.map CV.int):=Hn (λx=>rfl) ss
theorem fz (h:CV.gn f xs=some ys):(ae.list xs).bI f=some (.list ys):=congrArg (dg ae.list) h
theorem cq {α β:Type}{f:α->Option β}{x:α}{xs:List α}{y:β}{ys:List β}(h:f x=some y)(k:lA f xs=some ys):lA f (x::xs)=some (y::ys):=gC (g:=id) h k
theorem gq {k:Nat}{o:ae}(h:st[k]?=some o)(hr:o.bI f=some o'):st[k]?.bind (ae.bI f)=some o':=by rw[h];exact hr
theorem iF:lA f []=some []:=rfl
theorem wI {α:Type}{β:Type}{F:α->Option β}{xs:List α}{ys:List β}(hl:ys.length=xs.length)(h:∀(i:Nat) x y,xs[i]?=some x->ys[i]?=some y->F x=some y):lA F xs=some ys:=by
 induction xs generalizing ys with
 |nil=>cases ys with
  |nil=>rfl|cons u o=>cases hl
 |cons x xs ih=>cases ys with|nil=>cases hl|cons y ys=>exact cq (h 0 x y rfl rfl) (ih (by simpa using hl) λi a b h1 h2=>h (i+1) a b (by simpa using h1)<|by simpa using h2)
theorem NH:∀aU k,k∉aU->eW aU k=none
 |[],u,o=>rfl|x::r,k,h=>by rw[Me,if_neg (by simpa using λe:x=k=>h<|e▸.head _),NH r k λq=>h<|.tail _ q];rfl
theorem gr:∀aU j k,aU.Nodup->aU[j]?=some k->eW aU k=some j
 |[],u,o,z,h=>by exact nS h|x::r,0,k,hn,h=>by obtain rfl:=dE h;rw[Me,if_pos<|by simp]|x::r,j+1,k,hn,h=>by rw[re] at h;have hx:x≠k:=λe=>(zJ.mp hn).1<|e▸c8 h;rw[Me,if_neg (by simpa using hx),gr r j k (zJ.mp hn).2 h];rfl
theorem uR {k:Nat}(h:k<n):eW (aK n) k=some k:=gr _ _ _ xF (by rw[iS h])
theorem NI (b9:(st.all λo=>o.lo st.length)=true):g4 (aK st.length) (st++g)=some st:=by unfold g4;refine wI (by simp) λi k o h1 h2=>?_;have hi:i<st.length:=(bV.mp h2).1;rw[iS hi] at h1;obtain rfl:=dE h1;rw[d2 hi,h2];exact ae.kR (λk hk=>uR hk) o<|dI.mp b9 o<|c8 h2
theorem W6 (hl:ag.length=st.length)(b9:(ag.all λo=>o.lo st.length)=true):uE (aK st.length) (st++g) ag=some (ag++g):=by
 unfold uE;have hN:(st++g).length+(ag.length-(aK st.length).length)=st.length+g.length:=by simp [hl]
 rw[hN];refine wI (by simp [hl]) λi k o h1 h2=>?_;have hi:i<st.length+g.length:=by have:=(bV.mp h1).1;simpa using this
 rw[iS hi] at h1;obtain rfl:=dE h1;rw[if_pos<|by simpa using hi];by_cases h:i<st.length
 ·rw[uR h];rw[d2<|by exact o1 h hl] at h2;simp only [h2];exact ae.kR (λk hk=>by unfold jT;rw[iS hk]) o<|dI.mp b9 o<|c8 h2
 rw[NH _ _<|by simpa using h];rw[dT<|by(first|exact ah [_,_,_] (.eq .o .i<|.c 1 0 (.no<|.lt .u .i)<|.gl .o .u) rfl hl h|exact o8 h)] at h2 ⊢;rw[hl] at h2;exact h2
theorem bk.wide (h:bk d f args kw st v ag)(hl:ag.length=st.length)(h1:(st.all λo=>o.lo st.length)=true)(h2:(ag.all λo=>o.lo st.length)=true)(h3:f.lo st.length=true)(h4:CV.cV st.length args=true)(h5:(kw.all λp=>p.2.lo st.length)=true)(h6:v.lo st.length=true):bk d f args kw (st++g) v (ag++g):=
 h.at (aK st.length) xF (NI h1) (CV.kR (λk hk=>uR hk) f h3) (CV.FY (λk hk=>uR hk) h4) (CF (λk hk=>uR hk) h5) (W6 hl h2)
  (CV.kR (λk hk=>by unfold jT;rw[iS hk]) v h6)
theorem bM.wide (h:bM d f args kw st v ag)(hl:ag.length=st.length)(h1:(st.all λo=>o.lo st.length)=true)(h2:(ag.all λo=>o.lo st.length)=true)(h3:f.lo st.length=true)(h4:CV.cV st.length args=true)(h5:(kw.all λp=>p.2.lo st.length)=true)(h6:v.lo st.length=true):bM d f args kw (st++g) v (ag++g):=
 h.at (aK st.length) xF (NI h1) (CV.kR (λk hk=>uR hk) f h3) (CV.FY (λk hk=>uR hk) h4) (CF (λk hk=>uR hk) h5) (W6 hl h2)
  (CV.kR (λk hk=>by unfold jT;rw[iS hk]) v h6)
end
section
variable {d:Nat}{c:aY}{st ag g:List ae}
theorem Dt:∀{l:List α} {i} {x},l[i]?=some x->l.set i x=l
 |[],u,o,h=>by exact nS h|y::l,0,x,h=>by obtain rfl:=dE h;rfl|y::l,i+1,x,h=>by rw[abM,Dt<|by simpa using h]
theorem ag9 {y:Str}{pos:Pos}{k:Nat}(C9:st[c.locals]?=some (.frame vars))(hy:ji c st y=some (.ab k))(hyc:(y==("__classdict__":Str))=false)(hyd:(y==("__debug__":Str))=false)(hk:st[k]?=some .iz)(tw:c.scope.names.lookup xk=some .local)(k4:c.scope.names.lookup xv=some .local)(xZ:(mn.endLine==tn.line)=true):dB d c (.For (.Tuple [.Name xk pk,.Name xv pv] x1 pt) (.Call (.Attribute (.Name y py) "items" mn) [] [] tn) body [] pos) st .next st:=λA own s env q S R=>by
 obtain⟨L,hL,m,hm,hv⟩:=S.bD C9;have Hm:env.locals=L:=by have:=R.wc;rw[hL] at this;obtain rfl:=dE this;rfl
 subst Hm;obtain⟨a,ha,⟨n,ho⟩,mu⟩:=S.bD hk;have cz:k≠c.locals:=λe=>by rw[e,C9] at hk;cases hk
 have tx:env.kindOf xk=some .local:=by show env.scope.names.lookup xk=_;rwa[R.scope]
 have uS:env.kindOf xv=some .local:=by show env.scope.names.lookup xv=_;rw[R.scope];exact k4
 refine bC (xG (l7.mpr S.tk) (E:=λu u=>False) (Q:=λf s'=>f=.next∧∃h' tk,s'= {s with heap:=h',toks:=tk}∧h'.Ns env.locals m∧∀b o,b≠env.locals->s.heap.get? b=some o->h'.get? b=some o)
  (wpAny_For_items_locals (knd:=strKind X.prog X.w) (kvs:=[]) q.1 tx uS (by rw[R.hk];rfl) (S.ne ha hL cz) mu ⟨_,#[],ho,⟨rfl,rfl,rfl⟩,rfl,?_,.nil,by simp⟩ hm rfl xZ (λQ' hQ'=>?_) (λu m'=>m'=m) rfl (λi k v key arz s₁ h=>by exact nS h) λh' tk m' mU hJ eV=>⟨rfl,h',tk,rfl,hJ▸mU,eV⟩)) (λf s' hx=>?_) λu u x=>x.2.elim
 ·intro e he;simp at he
 ·exact wpAny_Name (Lm S R hy hyc λy hy'=>by obtain⟨a',b8,rfl⟩:=hy';rw[ha] at b8;obtain rfl:=dE b8;exact hQ') hyd
 obtain⟨ku,rfl,h',tk,rfl,mU,eV⟩:=hx;have hs:=λb o hb e=>eV b o hb e;have lz:tk≠0:=l7.mp ku;have S':=S.set (o':=.frame vars) hL hs<|λg=>⟨m,mU,λz=>(hv z).aM g⟩;rw[Dt C9] at S';exact⟨own,a9.set S hL hs,S',rfl⟩
theorem ahd {y:Str}(hf:∀vs:List an,vs.length=args.length->∃bs:List (Str×an),(∀own h,aF own h args vs->cf own h binds bs)∧sH fd ⟨vs,[]⟩=(alloc {cls:=.type "dict",data:=.dict #[]}>>=λd=>pure (bs++[(y,.ref d)]))):db fd st args [] (binds++[(y,.ab st.length)]) (st++[.iz]):=λown s vs ks S cx di M A E Q hQ=>by
 subst di;obtain⟨bs,h1,h2⟩:=hf vs (aF.length cx).symm;rw[h2];refine aB<|wpAny_alloc<|bH ?_;have eV:∀b o,s.heap.get? b=some o->(s.heap.push {cls:=.type "dict",data:=.dict #[]}).get? b=some o:=λb o e=>fT _ e;have iK:s.heap.get? s.heap.objs.size=none:=iI<|aG _;have ho:=S.ok.k _ _ (by kernel_rfl:X.K.lookup jy=some ((kF P0).lookup jy |>.getD default));have aZ:=sE<|S.bj _ _ ho;have mu:(s.heap.objs.size==sysModules)=false:=by simp only [beq_eq_false_iff_ne];exact ah [_] (.lt (.n 3) .o<|.g 1 0<|.no<|.eq .o .j) rfl aZ
 have E':a9 own s (own++[s.heap.objs.size]) {s with heap:=s.heap.push {cls:=.type "dict",data:=.dict #[]}}:=a9.push eV iK;apply hQ _ _ _ E'<|S.push eV iK λg=>⟨⟨0,iy _ rfl⟩,mu⟩;refine cf.append ((h1 own s.heap cx).aM E'.aM) ⟨_,[],rfl,⟨s.heap.objs.size,?_,rfl⟩,rfl⟩;rw[<-S.len,dT<|aG _,fk];rfl
end
section
section
variable {d:Nat}
structure gu (a:ai)(D:fe)(fd:el):Prop where
 is:CS a fd D.body
 scope:fd.scope=D.scope
 yF:D.scope.isGenerator=false
theorem gu.code {a:ai}{D:fe}{fd:el}(F:gu a D fd){args:List CV}{kw binds:List (Str×CV)}{st aw ag g:List ae}{f:cZ}{v:CV}{tab:Option (ai×ai)} (hb:db fd st args kw binds aw)(hk:Gu D.scope binds=true)(wi:∀q,tab=some q->q∈X.cU∧fd.code=.ref q.1) (h:aI d (da D.scope aw.length tab) D.body (aw++dU D.scope binds) f (ag++g))(hv:f=.ret v∨f=.next∧v=.none) (bJ:st.length<=ag.length)(b9:(ag.all λo=>o.lo ag.length)=true)(uB:v.lo ag.length=true):bM (d+2) (.aH a) args kw st v ag:=by
 have e:=F.scope;have we:Gu fd.scope binds=true:=by rw[e];exact hk
 have h':aI d (da fd.scope aw.length tab) D.body (aw++dU fd.scope binds) f (ag++g):=by rw[e];exact h
 exact aec F.is (by rw[e];exact F.yF) hb we wi h' hv bJ b9 uB
structure NJ (a:ai)(D:fe)(fd:el):Prop where
 is:CS a fd D.body
 scope:fd.scope=D.scope
 yF:D.scope.isGenerator=true
structure pd (C:ai)(name:Str)(a:ai)(D:fe)(fd:el):Prop where
 find:xJ X.K (.ref C) name=some (some (.ref a))
 ty:typeIn X.K (.ref a)=some (.type "function")
 bj:jz X.K (.ref a)=true
 fn:gu a D fd
end
def Du (g:Bool)(sc:d8):Bool:=decide (sc.kind=.function)&&(!sc.isCoroutine&&(sc.isGenerator==g&&(decide (fy sc.names).Nodup&&decide ((je 0 sc.names []).map (·.1)).Nodup)))
theorem W7 {nm:Str}(hl:(kF P0).lookup a=some ⟨oc,od,.func (fP nm qn D df kw md cd),kU⟩)(hc:codeIn (kF P0) cd qn=true)(hs:Du g D.scope=true):CS a (fP nm qn D df kw md cd) D.body∧D.scope.isGenerator=g:=by unfold Du at hs;rw[bz,bz,bz,bz] at hs;obtain⟨h1,h2,h3,h4,h5⟩:=hs;refine⟨⟨⟨_,_,_,by rw[hX];exact hl⟩,rfl,rfl,rfl,rfl,by rw[hX];exact hc,?_,(by simpa using h2:D.scope.isCoroutine=false),of_decide_eq_true h4,of_decide_eq_true h5⟩,eq_of_beq h3⟩;exact of_decide_eq_true h1
theorem ahf {nm:Str}(hl:(kF P0).lookup a=some ⟨oc,od,.func (fP nm qn D df kw md cd),kU⟩)(hc:codeIn (kF P0) cd qn=true)(hs:Du true D.scope=true):NJ a D (fP nm qn D df kw md cd):=
 let h:=W7 hl hc hs
 ⟨h.1,rfl,h.2⟩
theorem NK {k:List (Str×CV)}(hk:cf own hp k kv)(names:List Str):∀cs vs,aF own hp cs vs->cf own hp (names.zip cs++k) (names.zip vs++kv):=by
 induction names with
 |nil=>exact λx x x=>hk|cons n ns ih=>intro cs;cases cs with|nil=>intro vs r;rw[show vs=[] from r];exact hk|cons c cs=>intro vs r;obtain⟨v,r',e,hv,hr⟩:=r;rw[e];exact⟨v,_,rfl,hv,ih cs r' hr⟩
theorem yN {Q:List an->Prop}(h:Q []) vs (e:vs.length=0):Q vs:=by rw[Fj e];exact h
theorem kE {Q:List an->Prop}{n:Nat}(h:∀v vs,vs.length=n->Q (v::vs)) vs (e:vs.length=n+1):Q vs:=by cases vs with|nil=>nomatch e|cons v vs=>exact h v vs<|RK e
section
variable {st:List ae}{fd:el}{x1 x2 x3 x4 x5:Str}{c1 c2 c3 c4 c5:CV}{rest:List (Str×CV)}{i6:List (Str×an)}
theorem Hp (names:List Str)(h:∀vs,vs.length=args.length->∀S,pR (kF P0) S (sH fd ⟨vs,[]⟩)=some (names.zip vs++i6))(hr:∀own hp,cf own hp rest i6):db fd st args [] (names.zip args++rest) st:=
 Vi λown hp vs ks r hk=>⟨_,λS=>by rw[hX,show ks=[] from hk];exact h vs (aF.length r).symm S,λx=>NK (hr _ _) names args vs r⟩
theorem pe (h:∀v1 S,pR (kF P0) S (sH fd ⟨[v1],[]⟩)=some ((x1,v1)::i6))(hr:∀own hp,cf own hp rest i6):db fd st [c1] [] ((x1,c1)::rest) st:=
 Hp (args:=[c1]) [x1] (kE λv1=>yN<|h v1) hr
theorem qA (h:∀v1 v2 S,pR (kF P0) S (sH fd ⟨[v1,v2],[]⟩)=some ((x1,v1)::(x2,v2)::i6))(hr:∀own hp,cf own hp rest i6):db fd st [c1,c2] [] ((x1,c1)::(x2,c2)::rest) st:=
 Hp (args:=[c1,c2]) [x1,x2] (kE λv1=>kE λv2=>yN<|h v1 v2) hr
theorem NL (h:∀v1 v2 v3 S,pR (kF P0) S (sH fd ⟨[v1,v2,v3],[]⟩)=some ((x1,v1)::(x2,v2)::(x3,v3)::i6))(hr:∀own hp,cf own hp rest i6):db fd st [c1,c2,c3] [] ((x1,c1)::(x2,c2)::(x3,c3)::rest) st:=
 Hp (args:=[c1,c2,c3]) [x1,x2,x3] (kE λv1=>kE λv2=>kE λv3=>yN<|h v1 v2 v3) hr
theorem ahg (h:∀v1 v2 v3 v4 S,pR (kF P0) S (sH fd ⟨[v1,v2,v3,v4],[]⟩)=some ((x1,v1)::(x2,v2)::(x3,v3)::(x4,v4)::i6))(hr:∀own hp,cf own hp rest i6):db fd st [c1,c2,c3,c4] [] ((x1,c1)::(x2,c2)::(x3,c3)::(x4,c4)::rest) st:=
 Hp (args:=[c1,c2,c3,c4]) [x1,x2,x3,x4] (kE λv1=>kE λv2=>kE λv3=>kE λv4=>yN<|h v1 v2 v3 v4) hr
theorem W8 {args:List CV}(names:List Str){uT:List (Str×CV)}{qB:List (Str×an)}(h:∀vs,vs.length=args.length->∀v S,pR (kF P0) S (sH fd ⟨vs,[(x5,v)]⟩)=some (names.zip vs++(qB++[(x5,v)])))(hr:∀own hp k kv,cf own hp k kv->cf own hp (uT++k) (qB++kv)):db fd st args [(x5,c5)] (names.zip args++(uT++[(x5,c5)])) st:=
 Vi λown hp vs ks r hk=>by obtain⟨v,k',e,hv,e'⟩:=hk;exact⟨_,λS=>by rw[hX,e,show k'=[] from e'];exact h vs (aF.length r).symm v S,λx=>NK (hr own hp [(x5,c5)] [(x5,v)] ⟨v,[],rfl,hv,rfl⟩) names args vs r⟩
theorem NM {uT:List (Str×CV)}{qB:List (Str×an)}(h:∀v1 v2 v3 S,pR (kF P0) S (sH fd ⟨[v1,v2],[(x3,v3)]⟩)=some ((x1,v1)::(x2,v2)::(qB++[(x3,v3)])))(hr:∀own hp k kv,cf own hp k kv->cf own hp (uT++k) (qB++kv)):db fd st [c1,c2] [(x3,c3)] ((x1,c1)::(x2,c2)::(uT++[(x3,c3)])) st:=
 W8 (args:=[c1,c2]) [x1,x2] (kE λv1=>kE λv2=>yN<|h v1 v2) hr
theorem W9 (h:∀v1 v2 v3 v4 v5 S,pR (kF P0) S (sH fd ⟨[v1,v2,v3,v4],[(x5,v5)]⟩)=some [(x1,v1),(x2,v2),(x3,v3),(x4,v4),(x5,v5)]):db fd st [c1,c2,c3,c4] [(x5,c5)] [(x1,c1),(x2,c2),(x3,c3),(x4,c4),(x5,c5)] st:=
 W8 (args:=[c1,c2,c3,c4]) [x1,x2,x3,x4] (uT:=[]) (qB:=[]) (kE λv1=>kE λv2=>kE λv3=>kE λv4=>yN<|h v1 v2 v3 v4) λx x x x h=>h
end
theorem gF:∀own hp,cf own hp [] []:=λx x=>rfl
theorem tz {x:Str}(h:∀own hp,cf own hp rest i6):∀own hp,cf own hp ((x,.none)::rest) ((x,.none)::i6):=λown hp=>⟨_,_,rfl,rfl,h own hp⟩
theorem W' {x:Str}{i:Int}{t:Tok}(h:∀own hp,cf own hp rest i6):∀own hp,cf own hp ((x,.int i)::rest) ((x,.int i t)::i6):=λown hp=>⟨_,_,rfl,⟨_,rfl⟩,h own hp⟩
theorem ku:(293,289)∈X.cU:=by rw[Cy];exact .head _
end
section
theorem iM {nm:Str}(h:(kF P0).lookup a=some ⟨.type "function",none,.func (fP nm qn D df kw md cd),#[]⟩)(hc:codeIn (kF P0) cd qn=true)(hs:Du false D.scope=true):gu a D (fP nm qn D df kw md cd):=let h:=W7 h hc hs
 ⟨h.1,rfl,h.2⟩
theorem ahi:gu 333 wb TX:=iM (by kernel_rfl) (by kernel_rfl) (by decide +kernel)
theorem ahj:gu 328 cH TW:=iM (by kernel_rfl) (by kernel_rfl) (by decide +kernel)
theorem ahk:gu 313 qe Lb:=iM (by kernel_rfl) (by kernel_rfl) (by decide +kernel)
theorem ahl:gu 318 Cr Lc:=iM (by kernel_rfl) (by kernel_rfl) (by decide +kernel)
theorem ahm:gu 323 wa Ld:=iM (by kernel_rfl) (by kernel_rfl) (by decide +kernel)
theorem ahn:gu 308 kh La:=iM (by kernel_rfl) (by kernel_rfl) (by decide +kernel)
theorem aho:gu 301 Cq K9:=iM (by kernel_rfl) (by kernel_rfl) (by decide +kernel)
theorem ahp:gu 294 ef FQ:=iM (by kernel_rfl) (by kernel_rfl) (by decide +kernel)
theorem ahA:gu 197 Ac K5:=iM (by kernel_rfl) (by kernel_rfl) (by decide +kernel)
theorem ahB:gu 215 Ad K6:=iM (by kernel_rfl) (by kernel_rfl) (by decide +kernel)
theorem NN:gu 206 f9 xR:=iM (by kernel_rfl) (by kernel_rfl) (by decide +kernel)
theorem Xa:gu 224 gL Ae:=iM (by kernel_rfl) (by kernel_rfl) (by decide +kernel)
theorem ahC:gu 238 mQ Cw:=iM (by kernel_rfl) (by kernel_rfl) (by decide +kernel)
theorem ahD:gu 245 qc K8:=iM (by kernel_rfl) (by kernel_rfl) (by decide +kernel)
theorem Xb:NJ 231 oL K7:=ahf (oc:=.type "function") (od:=none) (kU:=#[]) (by kernel_rfl) (by kernel_rfl) (by decide +kernel)
theorem iG (h:jz (kF P0) v=true):jz X.K v=true:=by rw[hX];exact h
theorem tA {C a:ai}{name:Str}{D:fe}{fd:el}(h1:xJ (kF P0) (.ref C) name=some (some (.ref a)))(h2:typeIn (kF P0) (.ref a)=some (.type "function"))(h3:jz (kF P0) (.ref a)=true)(F:gu a D fd):pd C name a D fd:=⟨by rw[hX];exact h1,by rw[hX];exact h2,by rw[hX];exact h3,F⟩
theorem NO:pd 283 "get_token" 273 qd FO:=tA (by kernel_rfl) (by kernel_rfl) (by kernel_rfl) (iM (by kernel_rfl) (by kernel_rfl)<|by decide +kernel)
theorem Xc:pd 283 "_read_char" 266 xP Ag:=tA (by kernel_rfl) (by kernel_rfl) (by kernel_rfl) (iM (by kernel_rfl) (by kernel_rfl)<|by decide +kernel)
theorem NP:pd 283 "push_token" 280 Co FP:=tA (by kernel_rfl) (by kernel_rfl) (by kernel_rfl) (iM (by kernel_rfl) (by kernel_rfl)<|by decide +kernel)
theorem NQ:pd 283 "__init__" 259 Cp Af:=tA (by kernel_rfl) (by kernel_rfl) (by kernel_rfl) (iM (by kernel_rfl) (by kernel_rfl)<|by decide +kernel)
theorem A8:pd 184 "__init__" 76 uk Cs:=tA (by kernel_rfl) (by kernel_rfl) (by kernel_rfl) (iM (by kernel_rfl) (by kernel_rfl)<|by decide +kernel)
theorem yO:pd 184 "get" 131 nL Cu:=tA (by kernel_rfl) (by kernel_rfl) (by kernel_rfl) (iM (by kernel_rfl) (by kernel_rfl)<|by decide +kernel)
theorem NR:pd 184 "items" 148 Cn FM:=tA (by kernel_rfl) (by kernel_rfl) (by kernel_rfl) (iM (by kernel_rfl) (by kernel_rfl)<|by decide +kernel)
theorem Hq:pd 184 "setdefault" 174 uj FN:=tA (by kernel_rfl) (by kernel_rfl) (by kernel_rfl) (iM (by kernel_rfl) (by kernel_rfl)<|by decide +kernel)
theorem NS:pd 184 "add_header" 181 xQ Cv:=tA (by kernel_rfl) (by kernel_rfl) (by kernel_rfl) (iM (by kernel_rfl) (by kernel_rfl)<|by decide +kernel)
theorem Hr:wC 283:=⟨by kernel_rfl,by kernel_rfl,by kernel_rfl,by kernel_rfl⟩
theorem Dv:wC 184:=⟨by kernel_rfl,by kernel_rfl,by kernel_rfl,by kernel_rfl⟩
end
section
variable {d:Nat}
noncomputable def cM (right:α->Bool)(xs:List α):Nat->Nat->Nat->Nat
 |0,lo,x=>lo|n+1,lo,hi=>if lo<hi then(match xs[(lo+hi)/2]? with
  |some v=>if right v then cM right xs n ((lo+hi)/2+1) hi else cM right xs n lo ((lo+hi)/2)|none=>lo) else lo
theorem rR {α:Type}{right:α->Bool}{xs:List α}{n lo hi:Nat}:cM right xs (n+1) lo hi=if lo<hi then(match xs[(lo+hi)/2]? with|some v=>if right v then cM right xs n ((lo+hi)/2+1) hi else cM right xs n lo ((lo+hi)/2)|none=>lo) else lo:=rfl
noncomputable def qB (m:Option Int):List (Str×CV):=match m with
 |some m=>[("mid",CV.int m)]|none=>[]
def im (x:CV)(lo hi:Int)(m:Option Int):ae:=.frame (("key",.none)::("hi",.int hi)::("lo",.int lo)::("x",x)::("a",.ab 0)::qB m)
theorem Hs (lo hi:Nat):((lo:Int)+(hi:Int)).fdiv 2=(((lo+hi)/2:Nat):Int):=by rw[abN _<|by decide];rfl
theorem Ht {i:Int}(h0:0<=i)(h1:i<2^60):Re i 2=false:=RL (by lia)
theorem ahF {st:List ae}{e:aq}{k:Nat}{ns:List Int}{i:Int}{j:Nat}{v:Int}(hk:st[k]?=some (.list (ns.map CV.int)))(hi:i=(j:Int))(hv:ns[j]?=some v)(hb:ns.length<2^40):fF d e (.ab k) (.int i) st (.int v) st:=by have aZ:=(bV.mp hv).1;subst hi;exact uI hk (Tx hb aZ) (by rw[aV];exact rM aZ) (by rw[dN,hv];rfl)
theorem e8 {st:List ae}{e:aq}{k:Nat}{ns:List Str}{i:Int}{j:Nat}{v:Str}(hk:st[k]?=some (.list (ns.map CV.str)))(hi:i=(j:Int))(hv:ns[j]?=some v)(hb:ns.length<2^40):fF d e (.ab k) (.int i) st (.str v) st:=by have aZ:=(bV.mp hv).1;subst hi;exact uI hk (Tx hb aZ) (by rw[aV];exact rM aZ) (by rw[dN,hv];rfl)
noncomputable def nZ (x:CV)(lo:Int)(hi:CV):List (Str×CV):=[("a",.ab 0),("x",x),("lo",.int lo),("hi",hi),("key",.none)]
theorem NT:∀(ns:List Int),CV.cV n (ns.map CV.int)=true
 |[]=>rfl|x::ns=>by rw[eC,CV.uu,NT ns];rfl
theorem cJ:∀(ns:List Str),CV.cV n (ns.map CV.str)=true
 |[]=>rfl|x::ns=>by rw[eC,CV.uu,cJ ns];rfl
theorem b00 {c:aY}{t:aq}{b:List bl}{ns:List Str}{f:Str->Bool}{S:Nat->Nat->Option Int->List ae} (T:∀lo hi m,fx d c t (S lo hi m) (decide ((lo:Int)<(hi:Int))) (S lo hi m)) (B:∀{lo hi m v},ns[(lo+hi)/2]?=some v->lo<hi->hi<=ns.length->aI d c b (S lo hi m) .next (if f v then S ((lo+hi)/2+1) hi (some ((lo+hi)/2:Nat)) else S lo ((lo+hi)/2) (some ((lo+hi)/2:Nat)))):∀n lo hi m,hi<=lo+n->hi<=ns.length->lo<=hi->∃m',rK d c t b (S lo hi m) .next (S (cM f ns (n+1) lo hi) (cM f ns (n+1) lo hi) m'):=λn=>by
 have e:∀n lo hi m,¬lo<hi->lo<=hi->∃m',rK d c t b (S lo hi m) .next (S (cM f ns (n+1) lo hi) (cM f ns (n+1) lo hi) m'):=λn lo hi m z h=>by have t:=T lo hi m;obtain rfl:lo=hi:=FA h z;rw[decide_eq_false<|Int.lt_irrefl _] at t;rw[rR];exact if_neg z▸⟨m,.done t⟩
 induction n with
 |zero=>exact λlo hi m h1 h2 h3=>e _ lo hi m (Nat.not_lt.2 h1) h3|succ n ih=>
  intro lo hi m h1 h2 h3;by_cases z:lo<hi
  ·have t:=T lo hi m;have hm:(lo+hi)/2<ns.length:=Fx z h2;have g:=bA hm;have b:=B (m:=m) g z h2;rw[rR,if_pos z,g];rw[decide_eq_true<|Int.ofNat_lt.2 z] at t;show ∃m',rK d _ _ _ _ _<|S (ite (f _=true) _ _) (ite (f _=true) _ _) m';cases hf:f ns[(lo+hi)/2] with|true=>rw[hf] at b;exact (ih _ hi _ (Fz h1) h2<|Cf z).imp λm' h=>.cons t b (.inl rfl) h|false=>rw[hf] at b;exact (ih lo _ _ (Fy h1) (xN hm)<|Ce z).imp λm' h=>.cons t b (.inl rfl) h
  exact e _ lo hi m z h3
def b02 (r:Bool):fe:=cond r f9 gL
def b03 (r:Bool)(x v:Str):Bool:=cond r (!bP x v) (bP v x)
noncomputable def b04 (ns:List Str)(x:Str)(lo hi:Nat)(m:Option Int):List ae:=[.list (ns.map CV.str),im (CV.str x) lo hi m]
theorem b01 {x:Str}{lo hi:Nat}{m:Option Int}{v:Str}(r)(hb:ns.length<2^40)(hv:ns[(lo+hi)/2]?=some v)(d6:lo<hi)(bJ:hi<=ns.length):aI d (da (b02 r).scope 1 none) (mx (rO (b02 r).body 2)).2 (b04 ns x lo hi m) .next (if b03 r x v=true then b04 ns x ((lo+hi)/2+1) hi (some ((lo+hi)/2:Nat)) else b04 ns x lo ((lo+hi)/2) (some ((lo+hi)/2:Nat))):=by
 have hm:=Hs lo hi;have hp:=Ht (Ft)<|Fu hb d6 bJ;suffices h:aI d (da (b02 r).scope 1 none) (mx<|rO (b02 r).body 2).2 (b04 ns x lo hi m) .next [.list<|ns.map CV.str,im (CV.str x) (cond (b03 r x v) (((lo:Int)+hi).fdiv 2+1) lo) (cond (b03 r x v) hi<|((lo:Int)+hi).fdiv 2)<|some<|((lo:Int)+hi).fdiv 2] by rw[hm] at h;revert h;cases b03 r x v<;>exact id
 cases hq:b03 r x v<;>cases r<;>cases m<;>first|exact aW (sc:=[.aE (CV.str v)<|b04 ns x lo hi<|some<|((lo:Int)+hi).fdiv 2,.yes]) (by rfl) (am (by simpa [b03] using hq)<|am (e8 rfl hm hv hb)<|am (And.intro (show(2:Int)≠0 by decide) hp) aX)|exact aW (sc:=[.aE (CV.str v) [.list<|ns.map CV.str,im (CV.str x) lo hi<|some<|((lo:Int)+hi).fdiv 2],.no]) (by rfl)<|am (by simpa [b03] using hq)<|am (e8 rfl hm hv hb)<|am (And.intro (show(2:Int)≠0 by decide) hp) aX
noncomputable def b07 {ns:List Str}(r)(x:Str)(hb:ns.length<2^40):=b00 (d:=d+1) (c:=da (b02 r).scope 1 none) (t:=(mx (rO (b02 r).body 2)).1) (S:=b04 ns x) (λlo hi m=>by cases r<;>exact nX (sc:=[]) (by rfl) aX) (b01 r hb)
theorem b08 (r):gu (cond r 206 224) (b02 r) (cond r xR Ae):=by cases r;exact Xa;exact NN
theorem b20 {x:Str}{lo:Nat}(r)(hb:db (cond r xR Ae) [.list (ns.map CV.str)] args kw (nZ (CV.str x) lo .none) [.list (ns.map CV.str)])(bn:ns.length<2^40)(d6:lo<=ns.length):bM (d+3) (.aH (cond r 206 224)) args kw [.list (ns.map CV.str)] (.int (cM (b03 r x) ns (ns.length+1) lo ns.length)) [.list (ns.map CV.str)]:=by
 obtain⟨m',W⟩:=b07 r x bn ns.length lo ns.length none FB (aG _) d6;let z:List ae:=[.list<|ns.map CV.str,.frame [("key",.none),("hi",.none),("lo",.int lo),("x",.str x),("a",.ab 0)]];have L:bk (d+1) (.bi "len") [.ab 0] [] z (.int ns.length) z:=by exact aV (f:=CV.str)▸uJ rfl (by rw[aV];exact Sl bn)
 generalize cM (b03 r x) ns (ns.length+1) lo ns.length=q at *;cases r<;>exact(b08 _).code hb (by kernel_rfl) (λq h=>nS h) (aW (sc:=[.no,.aE (.bool true) z,.cw,.aE (.int ns.length) z,.aE (.bool true)<|b04 ns x lo ns.length none,.cw,.iX .next (b04 ns x q q m')]) (by rfl)
  (am (CY W)<|am (ky rfl)<|am L<|am gP<|am (ky rfl)<|am (by simp) aX)) (.inl rfl) (aG _) (by simp [ae.lo,cJ]) rfl
theorem b06 {x:Str}{lo hi:Nat}(hb:db xR [.list (ns.map CV.str)] args kw (nZ (CV.str x) lo (.int hi)) [.list (ns.map CV.str)])(bn:ns.length<2^40)(d6:lo<=hi)(bJ:hi<=ns.length):bM (d+3) (.aH 206) args kw [.list (ns.map CV.str)] (.int (cM (b03 true x) ns (ns.length+1) lo hi)) [.list (ns.map CV.str)]:=by
 obtain⟨m',W⟩:=b07 true x bn ns.length lo hi none (o55 bJ) bJ d6;have h0:decide (lo<0)=false:=by simp
 generalize cM _ ns (ns.length+1) lo hi=r at *;exact NN.code hb (by kernel_rfl) (λq h=>nS h) (aW (sc:=[.no,.aE (.bool false)<|b04 ns x lo hi none,.cw,.aE (.bool true)<|b04 ns x lo hi none,.cw,.iX .next (b04 ns x r r m')]) (by rfl)
  (am (CY W)<|am (ky rfl)<|am (ky rfl)<|am h0 aX)) (.inl rfl) (aG _) (by simp [ae.lo,cJ]) rfl
end
section
open Builtin Builtin.Str
variable {d:Nat}
noncomputable def wJ:Nat->Str->Str
 |0,s=>s|n+1,s=>wJ n (sN s "()" "")
noncomputable def mz (s:Str)(c:Option Str):ae:=.frame (("signs",.str s)::match c with
 |some c=>[("sign",CV.str c)]|none=>[])
theorem ahO (hs:s.length<=1048576):aI d (da kh.scope 0 none) (dc kh.body).2.2 [mz s c] .next [mz (sN s "()" "") c]:=by
 have hw:kn (da kh.scope 0 none) [mz s c] "signs" (.str<|sN s "()" "")=some [mz (sN s "()" "") c]:=by cases c<;>rfl'
 have hr:ji (da kh.scope 0 none) [mz s c] "signs"=some (.str s):=by cases c<;>rfl'
 exact U7 (Vc rfl rfl (afA rfl (eu rfl rfl hr) rfl rfl hs (by decide)) rfl (wg hw)) (λx=>U4)<|λh=>absurd rfl h
theorem Xe:∀(cs:List Nat) s c,s.length<=1048576->∃c',fG d (da kh.scope 0 none) (dc kh.body).1 (dc kh.body).2.2 (λx=>True) (cs.map jR) [mz s c] .next [mz (wJ cs.length s) c']
 |[],s,c,hs=>⟨c,.nil trivial⟩|k::cs,s,c,hs=>by
  obtain⟨c',h⟩:=Xe cs (sN s "()" "") (some ⟨#[k]⟩) (fC ((by
   unfold sN;split
   ·exact aG _
   have hy:(glued "()"<|partsBetween s (occurrences s "()" 0 s.length<|s.length+1) ("()":Str).length).length=s.length:=by rw[StrLaws.glued_between_self]
   rw[size_glued] at hy ⊢;have h0:("":Str).length=0:=by decide
   rw[h0,Nat.mul_zero,Nat.add_zero];exact ah [_,_,_] (.eq (.a .o .i) .u<|.gl .o .u) rfl hy)) hs)
  have hw:kn (da kh.scope 0 none) [mz s c] "sign" (jR k)=some [mz s<|some ⟨#[k]⟩]:=by cases c<;>rfl'
  have ha:dj d (da kh.scope 0 none) (dc kh.body).1 (jR k) [mz s c] [mz s<|some ⟨#[k]⟩]:=by exact wg hw
  exact⟨c',.cons trivial ha (ahO hs) (.inl rfl) h⟩
def n7 (s:Str):Bool:=d4 (wJ s.cps.toList.length s) ""
theorem ahP (hs:s.length<=1048576):∃c',aI d (da kh.scope 0 none) kh.body ([]++dU kh.scope [("signs",.str s)]) (.ret (.bool (n7 s))) [mz (wJ s.cps.toList.length s) c']:=by
 obtain⟨c',L⟩:=Xe s.cps.toList s none hs;have F:∀{t i:aq} {b:List bl} {p:Pos},t=(dc kh.body).1->b=(dc kh.body).2.2->(∃q,i=.Name "signs" q)->dB d (da kh.scope 0 none) (.For t i b [] p) [mz s none] .next [mz (wJ s.cps.toList.length s) c']:=by intro t i b p h1 h2 ⟨q,h3⟩;subst h1;subst h2;subst h3;exact mq (Gw s) rfl (eu rfl rfl (by rfl')) trivial L
 unfold n7;generalize wJ s.cps.toList.length s=r at *;exact⟨c',aW (sc:=[.iX .next [mz r c']]) rfl (am (by exact F rfl rfl ⟨_,rfl⟩) aX)⟩
end
section
open Builtin Builtin.Str
variable {d:Nat}
noncomputable def yP (name:Str):Str:="\\"++name
def m6 (name:Str)(aC:Int):Str:="\""++(if(aC==2&&!ko name "\"\\") then name else yP name)++"\""
def jE (name:Str)(aC:Int):Str:=if aC=0 then yP name else if aC=1∨aC=2 then m6 name aC else if ko name "\t \"\\" then yP name else name
theorem jF (a b:Str):(a++b).length=a.length+b.length:=by simp [Fi,vR]
def rS (name:Str)(aC:Int):List CV:=[.str (yP name),.str (m6 name aC),.str (m6 name aC),.str (if ko name "\t \"\\" then yP name else name)]
theorem tB {st:List ae}{e:aq}{name:Str}{k:Nat}{aC:Nat}(hw:aC<4)(hk:st[k]?=some (.list (rS name aC))):fF d e (.ab k) (.int aC) st (.str (jE name aC)) st:=by have:aC=0∨aC=1∨aC=2∨aC=3:=Ts hw;rcases this with rfl|rfl|rfl|rfl<;>exact uI hk (by decide) rfl rfl
theorem ahR {name:Str}{aC:Nat}(hw:aC<4)(hn:name.length<=100):∃g,aI d (da Cq.scope 0 none) Cq.body ([]++dU Cq.scope [("name",.str name),("way",.int aC)]) (.ret (.str (jE name aC))) g:=by
 have NX:("\\":Str).length=1:=by decide
 have yQ:("\"":Str).length=1:=by decide
 have bn:(1000:Nat)<=cX:=by decide
 have tC:("\\"++name:Str).length<=cX:=by rw[jF,NX];exact Tt bn hn
 have Xf:("\""++name:Str).length<=cX:=by rw[jF,yQ];exact Tt bn hn
 have wK:("\""++("\\"++name):Str).length<=cX:=by rw[jF,jF,NX,yQ];exact ah [_,_] (.le (.n 1000) .o<|.le .i (.n 100)<|.gl (.a .j<|.a .j .i) .o) rfl bn hn
 have Xg:("\""++name++"\"":Str).length<=cX:=by rw[jF,jF,yQ];exact ah [_,_] (.le (.n 1000) .o<|.le .i (.n 100)<|.gl (.a (.a .j .i) .j) .o) rfl bn hn
 have wL:("\""++("\\"++name)++"\"":Str).length<=cX:=by rw[jF,jF,jF,NX,yQ];exact ah [_,_] (.le (.n 1000) .o<|.le .i (.n 100)<|.gl (.a (.a .j<|.a .j .i) .j) .o) rfl bn hn
 have tD:(4:Nat)<=cX:=by decide
 have Hv:∀b,ko name "\"\\"=b->(!ko name "\"\\")= !b:=λb h=>by rw[h]
 have Xh:∀b,ko name "\t \"\\"=b->(!ko name "\t \"\\")= !b:=λb h=>by rw[h]
 have hc:aC=0∨aC=1∨aC=2∨aC=3:=by exact Ts hw
 cases ht:ko name "\t \"\\" with
 |true=>
  have oY:=Xh _ ht;rcases hc with rfl|rfl|rfl|rfl
  ·refine⟨_,aW (sc:=[.cw,.cw,.no,.val<|.str<|jE name (0:Nat)]) (by rfl) ?_⟩;refine am (tB hw ?_)<|am tD<|am oY<|am wL<|am wK<|am tC aX;simp only [rS,ht];rfl'
  ·refine⟨_,aW (sc:=[.cw,.cw,.no,.val<|.str<|jE name (1:Nat)]) rfl ?_⟩;refine am (tB hw ?_)<|am tD<|am oY<|am wL<|am wK<|am tC aX;simp only [rS,ht];rfl'
  ·cases hi:ko name "\"\\" with|true=>have jl:=Hv _ hi;refine⟨_,aW (sc:=[.cw,.no,.cw,.no,.val<|.str<|jE name (2:Nat)]) rfl ?_⟩;refine am (tB hw ?_)<|am tD<|am oY<|am wL<|am wK<|am jl<|am tC aX;simp only [rS,m6,hi,ht];rfl'|false=>have jl:=Hv _ hi;refine⟨_,aW (sc:=[.cw,.yes,.cw,.no,.val<|.str<|jE name (2:Nat)]) rfl ?_⟩;refine am (tB hw ?_)<|am tD<|am oY<|am Xg<|am Xf<|am jl<|am tC aX;simp only [rS,m6,hi,ht];rfl'
  refine⟨_,aW (sc:=[.cw,.cw,.no,.val<|.str<|jE name (3:Nat)]) rfl ?_⟩;refine am (tB hw ?_)<|am tD<|am oY<|am wL<|am wK<|am tC aX;simp only [rS,ht];rfl'
 |false=>
  have oY:=Xh _ ht;rcases hc with rfl|rfl|rfl|rfl
  ·refine⟨_,aW (sc:=[.cw,.cw,.yes,.val<|.str<|jE name (0:Nat)]) rfl ?_⟩;refine am (tB hw ?_)<|am tD<|am oY<|am wL<|am wK<|am tC aX;simp only [rS,ht];rfl'
  ·refine⟨_,aW (sc:=[.cw,.cw,.yes,.val<|.str<|jE name (1:Nat)]) rfl ?_⟩;refine am (tB hw ?_)<|am tD<|am oY<|am wL<|am wK<|am tC aX;simp only [rS,ht];rfl'
  ·cases hi:ko name "\"\\" with|true=>have jl:=Hv _ hi;refine⟨_,aW (sc:=[.cw,.no,.cw,.yes,.val<|.str<|jE name (2:Nat)]) rfl ?_⟩;refine am (tB hw ?_)<|am tD<|am oY<|am wL<|am wK<|am jl<|am tC aX;simp only [rS,m6,hi,ht];rfl'|false=>have jl:=Hv _ hi;refine⟨_,aW (sc:=[.cw,.yes,.cw,.yes,.val<|.str<|jE name (2:Nat)]) rfl ?_⟩;refine am (tB hw ?_)<|am tD<|am oY<|am Xg<|am Xf<|am jl<|am tC aX;simp only [rS,m6,hi,ht];rfl'
  refine⟨_,aW (sc:=[.cw,.cw,.yes,.val<|.str<|jE name (3:Nat)]) rfl ?_⟩;refine am (tB hw ?_)<|am tD<|am oY<|am wL<|am wK<|am tC aX;simp only [rS,m6,ht];rfl'
end
section
variable {d:Nat}
theorem Hw {c:aY}{x:bl}{st ag:List ae}{sc mm:List iB}{f:cZ}{ob:List Prop}(h:RZ.out (Vg d 99 c x ⟨st,sc,[]⟩)=some (f,⟨ag,mm,ob⟩))(k:Z.ok ⟨ag,mm,ob⟩):dB d c x st f ag:=
 EZ.run h k
theorem ahT {c:aY}{e:aq}{st ag:List ae}{b b':Bool}(h:b=b')(t:fx d c e st b ag):fx d c e st b' ag:=h▸t
theorem wM:2<=cX:=by decide
noncomputable def m7:Str:=⟨#[92]⟩
noncomputable def gR (x:Str)(pos:Int)(fY:Bool)(ch:Option Str):ae:=.frame (("addr",.str x)::("pos",.int pos)::("escape",.bool fY)::match ch with
 |some c=>[("ch",CV.str c)]|none=>[])
def gS:Nat->Bool->List Nat->List (Nat×Str)
 |x,u,[]=>[]|i,true,k::r=>(i,m7++⟨#[k]⟩)::gS (i+1) false r|i,false,k::r=>if k=92 then gS (i+1) true r else(i,⟨#[k]⟩)::gS (i+1) false r
noncomputable def pf:Bool->List Nat->Bool
 |e,[]=>e|true,k::r=>pf false r|false,k::r=>pf (k==92) r
theorem NY {i k:Nat}:gS i false (k::r)=if k=92 then gS (i+1) true r else(i,⟨#[k]⟩)::gS (i+1) false r:=rfl
def kG (x:Str):List (Nat×Str):=gS 0 false x.cps.toList++if pf false x.cps.toList then [(x.cps.toList.length-1,m7)] else []
noncomputable def m8 (p:Nat×Str):CV:=.cB [.int p.1,.str p.2]
abbrev yR:aY:=da oL.scope 0 none
theorem ahV k:d4 ⟨#[k]⟩ m7=(k==92):=by simp [d4,m7]
theorem ahW {x:Str}{i k:Nat}:lD d yR (dc oL.body).2.2 [gR x i fY (some ⟨#[k]⟩),a,b] (match fY with|true=>[m8 (i,m7++⟨#[k]⟩)]|false=>if k=92 then [] else [m8 (i,⟨#[k]⟩)]) [gR x i (match fY with|true=>false|false=>k==92) (some ⟨#[k]⟩),a,b]:=by
 cases fY with
 |true=>
  have hl:(m7++⟨#[k]⟩).length<=cX:=by show 2<=cX;decide
  refine yC (aw:=[gR x i true<|some ⟨#[k]⟩,a,b]) true ?_ (Nn (aw:=[gR x i true<|some ⟨#[k]⟩,a,b]) ?_ ?_<|G9 ?_ qy) qy
  ·exact nX (sc:=[]) (by rfl) aX
  ·rfl
  ·exact dk (sc:=[]) (by rfl)<|am wM<|am hl aX
  exact Hw (sc:=[]) (by rfl) aX
 |false=>
  by_cases hk:k=92
  ·subst hk;show lD d yR (dc oL.body).2.2 [gR x i false<|some m7,a,b] [] [gR x i true<|some m7,a,b];refine yC (ys:=[]) (aw:=[gR x i false<|some m7,a,b]) false ?_ (yC (aw:=[gR x i false<|some m7,a,b]) true ?_ (G9 ?_ qy) qy) qy
   ·exact nX (sc:=[]) (by rfl) aX
   ·exact nX (sc:=[]) (by rfl) aX
   exact Hw (sc:=[]) (by rfl) aX
  have we:d4 ⟨#[k]⟩ m7=false:=by rw[ahV];simpa using hk
  have hb:(k==92)=false:=by simpa using hk
  rw[if_neg hk];show lD d yR (dc oL.body).2.2 [gR x i false<|some ⟨#[k]⟩,a,b] _ [gR x i (k==92)<|some ⟨#[k]⟩,a,b];rw[hb];refine yC (ys:=[m8 (i,⟨#[k]⟩)]) (aw:=[gR x i false<|some ⟨#[k]⟩,a,b]) false ?_ (yC (aw:=[gR x i false<|some ⟨#[k]⟩,a,b]) false ?_ (Nn ?_ ?_ qy) qy) qy
  ·exact nX (sc:=[]) (by rfl) aX
  ·exact ahT we<|nX (sc:=[]) (by rfl) aX
  ·rfl
  exact dk (sc:=[]) (by rfl)<|am wM aX
noncomputable def yS (x:Str):Nat:=x.cps.toList.length-1
theorem Xi {x:Str}:∀cs i pos fY ch,x.cps.toList.drop i=cs->i<=x.cps.toList.length->pos=i-1->∃em,yD d yR (dc oL.body).1 (dc oL.body).2.2 2 [gR x pos fY ch,.ki x i,.gc 1 i] ((gS i fY cs).map m8) [gR x (yS x) (pf fY cs) em,.qg,.gc 1 x.cps.toList.length]
 |[],i,pos,fY,ch,hd,hi,hp=>by
  have he:=abh hi<|ap'.mp hd;subst he;subst hp;refine⟨ch,?_⟩;have e:gS x.cps.toList.length fY []=[]:=by cases fY<;>rfl
  have e':pf fY []=fY:=by cases fY<;>rfl
  rw[e,e'];exact .jk<|agc (st:=[gR x (yS x) fY ch,.ki x _,.gc 1 _]) (n:=1) rfl rfl (by simp)
 |k::cs,i,pos,fY,ch,hd,hi,hp=>by
  have aZ:i<x.cps.toList.length:=by
   rcases Nat.lt_or_ge i x.cps.toList.length with h|h
   ·exact h
   rw[abp h] at hd;cases hd
  have hx:x.cps[i]?=some k:=by have:=sL (xs:=x.cps.toList) (i:=i) (j:=0);rw[hd] at this;simpa using this.symm
  have hxs:x.cps.toList.drop (i+1)=cs:=by rw[<-Ki,hd];rfl
  obtain⟨em,h⟩:=Xi cs (i+1) i (match fY with|true=>false|false=>k==92) (some ⟨#[k]⟩) hxs aZ (by lia);refine⟨em,?_⟩;have st:=yD.step (k:=2) (t:=(dc oL.body).1) (b:=(dc oL.body).2.2) (agb (st:=[gR x pos fY ch,.ki x i,.gc 1 i]) rfl rfl hx) ((by cases ch<;>exact i4 (sc:=[]) rfl aX)) (ahW (d:=d) (x:=x) (i:=i) (k:=k) (fY:=fY) (a:=.ki x<|i+1) (b:=.gc 1<|i+1)) h;cases fY with
  |true=>exact st|false=>
   by_cases hk:k=92
   ·subst hk;exact st
   have hb:(k==92)=false:=by simpa using hk
   rw[if_neg hk,hb] at st;have e1:gS i false (k::cs)=(i,⟨#[k]⟩)::gS (i+1) false cs:=by rw[NY,if_neg hk]
   have e2:pf false (k::cs)=pf false cs:=by show pf (k==92) cs=_;rw[hb]
   rwa[e1,e2]
theorem ahY x:∃Hb,lD d yR oL.body [.frame [("addr",.str x)]] ((kG x).map m8) Hb:=by
 obtain⟨ch,L⟩:=Xi x.cps.toList 0 0 false none rfl (dQ _) rfl;unfold kG;rw[fU];have it:∀{p q r:Pos},a8 d yR (.Call (.Name "enumerate" p) [.Name "addr" q] [] r) [gR x 0 false none] (.ab 2) [gR x 0 false none,.ki x 0,.gc 1 0]:=λ{p q r}=>by exact dk (sc:=[.aE (.ab 2) [gR x 0 false none,.ki x 0,.gc 1 0]]) rfl (am (af')<|am yn aX)
 refine⟨[gR x (yS x) (pf false x.cps.toList) ch,.qg,.gc 1 x.cps.toList.length],?_⟩;generalize hE:pf false x.cps.toList=e at L ⊢;refine G9 (aw:=[.frame [("addr",.str x),("pos",.int 0)]]) ?_<|G9 (aw:=[gR x 0 false none]) ?_<|agi ?_ ?_ ?_ L ?_
 ·exact Hw (sc:=[]) (by rfl) aX
 ·exact Hw (sc:=[]) (by rfl) aX
 ·rfl
 ·exact it
 ·exact aga rfl
 cases e with
 |true=>
  refine yC (aw:=[gR x (yS x) true ch,.qg,.gc 1 x.cps.toList.length]) true ?_ (Nn ?_ ?_ qy) qy
  ·exact nX (sc:=[]) (by rfl) aX
  ·rfl
  exact dk (sc:=[]) (by rfl)<|am wM aX
 |false=>refine yC false ?_ qy qy;exact nX (sc:=[]) (by rfl) aX
theorem Xj {a:ai}{fd:el}(F:NJ a oL fd){c:aY}{target:aq}{body:List bl}{f arg:aq}{tn pos:Pos}{x:Str}{st ag:List ae}{fl:cZ}(hp:Av f=false)(hs:lu arg=false)(hf:a8 (d+4) c f st (.aH a) st)(hv:a8 (d+4) c arg st (.str x) st)(uy:oM (.aH a) st)(hb:db fd st [.str x] [] [("addr",.str x)] st)(h:fG (d+4) c target body (λu=>True) ((kG x).map m8) st fl ag):dB (d+4) c (.For target (.Call f [arg] [] tn) body [] pos) st fl ag:=by
 obtain⟨Hb,G⟩:=ahY x;have e:=F.scope;have hl:CQ fd.scope [("addr",CV.str x)]=([("addr",CV.str x)]:List (Str×CV)):=by rw[e];rfl'
 exact agw hp hf (oO hs hv sW) F8 uy F.is (e▸F.yF) hb (by rw[e];rfl') (λn=>by rw[e];rfl') rfl (by rwa[hl,e]) ((λy hy=>by obtain⟨p,_,e⟩:=cu.mp hy;rw[<-e];rfl)) h
end
section
variable {d:Nat}
abbrev yT:aY:=da mQ.scope 0 none
noncomputable def dq:Str:="\""
noncomputable def ah0:Option Nat->CV
 |none=>.none|some p=>.int p
noncomputable def Xk:Option (Nat×Str)->List (Str×CV)
 |none=>[]|some (p,c)=>[("pos",.int p),("ch",.str c)]
def jZ (x:Str)(dG:Nat)(op:Option Nat)(pc:Option (Nat×Str)):ae:=.frame (("addr",.str x)::("start",.int dG)::("open_pos",ah0 op)::("result",.ab 1)::Xk pc)
structure rT where
 dG:Nat
 op:Option Nat
 aE:List Str
def eK (x:Str)(z:rT)(p:Nat×Str):rT:=if d4 p.2 dq then(match z.op with
 |none=>⟨z.dG,some p.1,z.aE⟩|some o=>⟨p.1+1,none,if z.dG=o then z.aE else z.aE++[gD x (some (z.dG:Int)) (some (o:Int))]⟩) else z
noncomputable def kH (aE:List Str):ae:=.list (aE.map CV.str)
theorem NZ aE  s:ae.list (aE.map CV.str++[.str s])=kH (aE++[s]):=by rw[kH,fU];rfl
theorem ah1 {x:Str}{p:Nat×Str}(hx:x.length<=1000000)(hr:z.aE.length<1000000):aI d yT (dc mQ.body).2.2 [jZ x z.dG z.op (some p),kH z.aE] .next [jZ x (eK x z p).dG (eK x z p).op (some p),kH (eK x z p).aE]:=by
 obtain⟨dG,op,aE⟩:=z;obtain⟨p,c⟩:=p;unfold eK;cases hc:d4 c dq with
 |false=>simp [if_false];cases op<;>exact aW (sc:=[.no]) rfl (am hc aX)|true=>
  simp [if_true];cases op with
  |none=>exact aW (sc:=[.yes,.val<|.bool true,.cw]) rfl (am (ky rfl)<|am hc aX)|some o=>
   dsimp only;by_cases ho:dG=o
   ·have gO:(dG != (o:Int))=false:=by subst ho;simp
    rw[if_pos ho];exact aW (sc:=[.yes,.val<|.bool false,.cw,.no]) rfl (am gO<|am (ky rfl)<|am hc aX)
   have gO:(dG != (o:Int))=true:=by simp;lia
   rw[if_neg ho,<-NZ];have g9:=yJ x (some (dG:Int))<|some o;apply aW (sc:=[.yes,.val<|.bool false,.cw,.yes,.bg (.bi "list.append") [.ab 1],.val<|.str<|gD x (some dG)<|some o,.aE .none [jZ x dG (some o)<|some (p,c),.list<|aE.map CV.str++[.str<|gD x (some dG)<|some o]]]) rfl;refine am ?_<|am gP<|am ?_<|am ?_<|am gO<|am (ky rfl)<|am hc aX
   ·exact mX rfl (by rw[aV];show _<2^24;exact ah [_] (.lt .o (.n 1000000)<|.gt .o<|.n<|2^24) rfl hr)
   ·exact yu rfl rfl (by exact ah [_,_] (.le .o (.n 1000000)<|.le .i .o<|.gl .i<|.n<|2^24) rfl hx g9)
   exact jX rfl
theorem Xl x  z  p:(eK x z p).aE.length<=z.aE.length+1:=by
 unfold eK;split
 ·split
  ·exact ke _
  dsimp only;split
  ·exact ke _
  simp
 exact ke _
theorem Xm {x:Str}(hx:x.length<=1000000):∀(ps:List (Nat×Str)) z pc,z.aE.length+ps.length<=1000000->∃lF,fG d yT (dc mQ.body).1 (dc mQ.body).2.2 (λv=>True) (ps.map m8) [jZ x z.dG z.op pc,kH z.aE] .next [jZ x (ps.foldl (eK x) z).dG (ps.foldl (eK x) z).op lF,kH (ps.foldl (eK x) z).aE]
 |[],z,pc,h=>⟨pc,.nil trivial⟩|p::ps,z,pc,h=>by
  rw[dO] at h;obtain⟨lF,L⟩:=Xm hx ps (eK x z p) (some p)<|ah [_,_,_,_,_] (.le (.a .o<|.a .i .u) .w<|.le .x (.a .o .u)<|.gl (.a .x .i) .w) rfl h (Xl x z p);exact⟨lF,.cons trivial ((by
   obtain⟨i,c⟩:=p;cases pc with
   |none=>exact i4 (sc:=[]) rfl aX|some q=>obtain⟨j,c'⟩:=q;exact i4 (sc:=[]) rfl aX)) (ah1 hx<|SV h) (.inl rfl) L⟩
theorem Hx:∀cs i e,(gS i e cs).length<=cs.length
 |[],i,e=>by cases e<;>exact aG 0|k::cs,i,true=>z4 (Hx cs (i+1) false)|k::cs,i,false=>by
  by_cases hk:k=92
  ·rw[NY,if_pos hk];exact Fa<|Hx cs (i+1) true
  rw[NY,if_neg hk];exact z4<|Hx cs (i+1) false
theorem N0 x:(kG x).length<=x.length+1:=by
 have h:=Hx x.cps.toList 0 false;have hn:x.cps.toList.length=x.length:=by simp [Fi]
 unfold kG;split<;>simp only [dJ,zT]<;>(first|exact ah [_,_,_] (.eq .o .i<|.le .u .o<|.gl (.a .u<|.a .k .j)<|.a .i .j) rfl hn h|exact ah [_,_,_] (.eq .o .i<|.le .u .o<|.gl (.a .u .k)<|.a .i .j) rfl hn h)
def pg (x:Str):rT:=(kG x).foldl (eK x) ⟨0,none,[]⟩
def tE (x:Str):List Str:=if(pg x).dG<x.length then(pg x).aE++[gD x (some ((pg x).dG:Int)) none] else(pg x).aE
def j0 (x:Str):Str:=if ko dq x then gY "" (tE x) else x
theorem Xn:∀(ss:List Str) acc,(∀s∈ss,s.length<=B)->ss.foldl (λn s=>n+s.length+0) acc<=acc+ss.length*B
 |[],acc,h=>by simp|s::ss,acc,h=>by simp only [dO,Nat.succ_mul];exact ah [_,_,_,_,_] (.le .o (.a (.a (.a .i .u) .k) .w)<|.le .u .x<|.gl .o<|.a .i<|.a .w .x) rfl (Xn ss (acc+s.length+0) λt ht=>h t<|.tail _ ht) (h s<|.head _)
theorem Hz {ss:List Str}(h:∀s∈ss,s.length<=B)(hb:ss.length*B<=2^24):zU "" ss=true:=by
 unfold zU pU;have e:ss.toArray.foldl (λn s=>n+s.length+("":Str).length) 0=ss.foldl (λn s=>n+s.length+0) 0:=by rw[List.foldl_toArray];rfl
 rw[e];simp only [E0,decide_eq_false_iff_not,Rw];exact ah [_,_] (.le .o (.a .k .i)<|.le .i (.n<|2^24)<|.gl .o<|.n<|2^24) rfl (Xn ss 0 h) hb
theorem Oa x:∀(ps:List (Nat×Str)) z,(∀s∈z.aE,s.length<=x.length)->(∀s∈(ps.foldl (eK x) z).aE,s.length<=x.length)∧(ps.foldl (eK x) z).aE.length<=z.aE.length+ps.length
 |[],z,h=>⟨h,aG _⟩|p::ps,z,h=>by
  obtain⟨h1,h2⟩:=Oa x ps (eK x z p) ((by
   unfold eK;split
   ·split
    ·exact h
    dsimp only;split
    ·exact h
    intro s hs;rcases f7.mp hs with h'|h'
    ·exact h s h'
    rw[gV.mp h'];exact yJ _ _ _
   exact h))
  exact⟨h1,by rw[fu,dO];exact ah [_,_,_,_,_] (.le .o (.a .i .u)<|.le .i (.a .w .x)<|.gl .o<|.a .w<|.a .u .x) rfl h2 (Xl x z p)⟩
theorem ah4 x (hx:x.length<=1000):zU "" (tE x)=true:=by
 obtain⟨h1,h2⟩:=Oa x (kG x) ⟨0,none,[]⟩ nofun;have h3:=N0 x;have h4:∀s∈tE x,s.length<=x.length:=by
  unfold tE;split
  ·intro s hs;rcases f7.mp hs with h'|h'
   ·exact h1 s h'
   exact gV.mp h'▸yJ _ _ _
  exact h1
 have h5:(tE x).length<=x.length+2:=by
  unfold tE;split
  ·rw[dJ];exact ah [_,_,_] (.le .o (.a .k .i)<|.le .i (.a .u .j)<|.gl (.a .o .j)<|.a .u<|.n 2) rfl h2 h3
  exact ah [_,_,_] (.le .o (.a .k .i)<|.le .i (.a .u .j)<|.gl .o<|.a .u<|.n 2) rfl h2 h3
 apply Hz<|λs hs=>fC (h4 s hs) hx;have:(tE x).length<=1002:=ah [_,_] (.le .o (.n 1000)<|.le .i (.a .o<|.n 2)<|.gl .i<|.n 1002) rfl hx h5;lia
theorem Xo {st:List ae}{x:Str}:db K7 st [.str x] [] [("addr",.str x)] st:=pe (λv1 S=>by kernel_rfl) gF
theorem Xp {st:List ae}:oM (.aH 231) st:=cK (iG<|by kernel_rfl)
theorem ah5 {x:Str}(hx:x.length<=1000):∃g,aI (d+4) yT mQ.body ([]++dU mQ.scope [("addr",.str x)]) (.ret (.str (j0 x))) g:=by
 unfold j0;cases hq:ko dq x with
 |false=>
  have uQ:(!ko dq x)=true:=by rw[hq];rfl
  exact⟨_,aW (sc:=[.yes]) rfl (am uQ aX)⟩
 |true=>
  have uQ:(!ko dq x)=false:=by rw[hq];rfl
  obtain⟨pc,L⟩:=Xm (sS hx) (kG x) ⟨0,none,[]⟩ none (by have:=N0 x;simp only [zT];exact ah [_,_] (.le .o (.n 1000)<|.le .i (.a .o .j)<|.gl (.a .k .i)<|.n 1000000) rfl hx this);have jo:=ah4 x hx;have jn:(pg x).aE.length<2^24:=by have:=(Oa x (kG x) ⟨0,none,[]⟩ nofun).2;have:=N0 x;unfold pg;simp only [zT] at *;exact ah [_,_,_] (.le .o (.a .k .i)<|.le .i (.a .u .j)<|.le .u (.n 1000)<|.gt .o<|.n<|2^24) rfl (by assumption) this hx
  change fG (d+4) yT (dc mQ.body).1 (dc mQ.body).2.2 (λw=>True) ((kG x).map m8) [jZ x 0 none none,kH []] .next [jZ x (pg x).dG (pg x).op pc,kH (pg x).aE] at L;unfold tE at jo ⊢;generalize pg x=z at *;obtain⟨dG,op,aE⟩:=z;have F:∀{t i:aq} {b:List bl} {p:Pos},t=(dc mQ.body).1->b=(dc mQ.body).2.2->(∃q r s,i=.Call (.Name "_iter_escaped_chars" q) [.Name "addr" r] [] s)->dB (d+4) yT (.For t i b [] p) [jZ x 0 none none,kH []] .next [jZ x dG op pc,kH aE]:=by intro t i b p h1 h2 ⟨q,r,s,h3⟩;subst h1;subst h2;subst h3;exact Xj Xb rfl rfl (dk (sc:=[]) rfl aX) (dk (sc:=[]) rfl aX) Xp Xo L
  have bJ:bk (d+4) (.bi "len") [.str x] [] [jZ x dG op pc,kH aE] (.int x.length) [jZ x dG op pc,kH aE]:=afn (by exact ah [_] (.le .o (.n 1000)<|.g 1 0<|.it (.c .o)<|.n<|2^63) rfl hx);have H1:aI (d+4) yT (mQ.body.take 5) ([]++dU mQ.scope [("addr",.str x)]) .next [jZ x dG op pc,kH aE]:=
   aW (sc:=[.no,.iX .next [jZ x dG op pc,kH aE]]) rfl (am (by exact F rfl rfl ⟨_,_,_,rfl⟩)<|am (dQ _)<|am uQ aX)
  by_cases hs:dG<x.length
  ·have iD:decide ((dG:Int)<(x.length:Int))=true:=by simp;omega
   rw[if_pos hs] at jo ⊢;refine⟨[jZ x dG op pc,kH<|aE++[gD x (some (dG:Int)) none]],jY 5 H1<|jY 1 (aW (sc:=[.val<|.int x.length,.yes,.bg (.bi "list.append") [.ab 1],.val<|.str<|gD x (some (dG:Int)) none,.aE .none [jZ x dG op pc,.list<|aE.map CV.str++[.str<|gD x (some (dG:Int)) none]]]) rfl ?_) ?_⟩
   ·exact am (mX rfl (by rw[aV];show _<2^24;omega))<|am gP<|am (yu rfl rfl (by exact ah [_,_] (.le .o (.n 1000)<|.le .i .o<|.gl .i<|.n<|2^24) rfl hx (yJ x (some (dG:Int)) none)))<|am (jX rfl)<|am iD<|am bJ<|am gP aX
   rw[NZ];exact aW (sc:=[.bg (.bi "str.join") [.str ""],.val<|.str<|gY ""<|aE++[gD x (some (dG:Int)) none]]) rfl (am (AR rfl jo)<|am gP<|am yx aX)
  have iD:decide ((dG:Int)<(x.length:Int))=false:=by simp;exact o8 hs
  rw[if_neg hs] at jo ⊢;refine⟨[jZ x dG op pc,kH aE],jY 5 H1<|jY 1 (aW (sc:=[.val<|.int x.length,.no]) rfl (am iD<|am bJ<|am gP aX)) ?_⟩;exact aW (sc:=[.bg (.bi "str.join") [.str ""],.val<|.str<|gY "" aE]) rfl (am (AR rfl jo)<|am gP<|am yx aX)
theorem ah6 {x:Str}(hx:x.length<=1000)(hb:db Cw [] args kw [("addr",.str x)] []):bM (d+6) (.aH 238) args kw [] (.str (j0 x)) []:=by obtain⟨g,B⟩:=ah5 hx;exact ahC.code hb (by kernel_rfl) (λq h=>by exact nS h) B (.inl rfl) (aG _) rfl rfl
end
section
variable {d:Nat}
abbrev Dw:aY:=da qc.scope 0 none
def rU (x:Str)(o:Int)(pc:Option (Nat×Str)):ae:=.frame (("addr",.str x)::("opens",.int o)::Xk pc)
noncomputable def mA:Str:="("
noncomputable def cls:Str:=")"
def j1:List (Nat×Str)->Int->Option Int
 |[],o=>some o|(x,c)::r,o=>if d4 c mA then j1 r (o+1) else if d4 c cls then(if o-1<0 then none else j1 r (o-1)) else j1 r o
theorem Dx {p:Nat}{o:Int}:j1 ((p,c)::r) o=if d4 c mA then j1 r (o+1) else if d4 c cls then(if o-1<0 then none else j1 r (o-1)) else j1 r o:=rfl
def m9 (x:Str):Bool:=match j1 (kG (j0 x)) 0 with
 |none=>false|some o=>o==0
theorem ah7 {x:Str}{o:Int}{pc:Option (Nat×Str)}{p:Nat×Str}:dj d Dw (dc qc.body).1 (m8 p) [rU x o pc] [rU x o (some p)]:=by obtain⟨i,c⟩:=p;cases pc with|none=>exact i4 (sc:=[]) (by rfl) aX|some q=>obtain⟨j,c'⟩:=q;exact i4 (sc:=[]) (by rfl) aX
theorem HA {x:Str}:∀(ps:List (Nat×Str)) o (pc:Option (Nat×Str)),∃o' lF,fG d Dw (dc qc.body).1 (dc qc.body).2.2 (λu=>True) (ps.map m8) [rU x o pc] (match j1 ps o with|none=>.ret (.bool false)|some z=>.next) [rU x o' lF]∧∀q,j1 ps o=some q->o'=q
 |[],o,pc=>⟨o,pc,.nil trivial,λq h=>by obtain rfl:=dE h;rfl⟩|(i,c)::ps,o,pc=>by
  have A:=ah7 (d:=d) (x:=x) (o:=o) (pc:=pc) (p:=(i,c));rw[Dx];cases h1:d4 c mA with
  |true=>obtain⟨o',lF,L,e⟩:=HA ps (o+1)<|some (i,c);exact⟨o',lF,.cons trivial A (aW (sc:=[.yes]) (by rfl)<|am h1 aX) (.inl rfl) L,e⟩|false=>
   cases h2:d4 c cls with
   |false=>obtain⟨o',lF,L,e⟩:=HA ps o<|some (i,c);exact⟨o',lF,.cons trivial A (aW (sc:=[.no,.no]) (by rfl)<|am h2<|am h1 aX) (.inl rfl) L,e⟩|true=>
    by_cases h3:o-1<0
    ·have Ob:decide (o-1<0)=true:=by simpa using h3
     rw[if_pos h3];exact⟨o-1,some (i,c),.ret trivial A (aW (sc:=[.no,.yes,.yes]) (by rfl)<|am Ob<|am h2<|am h1 aX),λq h=>nomatch h⟩
    obtain⟨o',lF,L,e⟩:=HA ps (o-1)<|some (i,c);rw[if_neg h3];exact⟨o',lF,.cons trivial A (aW (sc:=[.no,.yes,.no]) (by rfl')<|am (by simpa using h3)<|am h2<|am h1 aX) (.inl rfl) L,e⟩
theorem ah8 (Oc:∀st x,db Cw st [.str x] [] [("addr",.str x)] st){x:Str}(hx:x.length<=1000):∃g,aI (d+6) Dw qc.body ([]++dU qc.scope [("addr",.str x)]) (.ret (.bool (m9 x))) g:=by
 have C:bk (d+6) (.aH 238) [.str x] [] [.frame [("addr",.str x)]] (.str<|j0 x) [.frame [("addr",.str x)]]:=
  (ah6 hx<|Oc [] x).call.at [] EX rfl rfl rfl rfl rfl rfl
 have H1:aI (d+6) Dw (qc.body.take 2) ([]++dU qc.scope [("addr",.str x)]) .next [rU (j0 x) 0 none]:=
  aW (sc:=[.val<|.str<|j0 x]) rfl (am C<|am (cK<|iG<|by kernel_rfl) aX)
 obtain⟨o',lF,L,e⟩:=HA (d:=d+6) (kG<|j0 x) 0 none;have F:∀{t i:aq} {b:List bl} {p:Pos} {f:cZ},t=(dc qc.body).1->b=(dc qc.body).2.2->(∃q r s,i=.Call (.Name "_iter_escaped_chars" q) [.Name "addr" r] [] s)->f=(match j1 (kG<|j0 x) 0 with|none=>.ret (.bool false)|some u=>.next)->
  dB (d+6) Dw (.For t i b [] p) [rU (j0 x) 0 none] f [rU (j0 x) o' lF]:=by
  intro t i b p f h1 h2 ⟨q,r,s,h3⟩ h4;subst h1;subst h2;subst h3;subst h4;exact Xj Xb rfl rfl (dk (sc:=[]) rfl aX) (dk (sc:=[]) rfl aX) Xp Xo L
 unfold m9;cases hc:j1 (kG<|j0 x) 0 with|none=>refine⟨[rU (j0 x) o' lF],jY 2 H1<|aW (sc:=[.iX (.ret<|.bool false) [rU (j0 x) o' lF]]) rfl (am ?_ aX)⟩;exact F rfl rfl ⟨_,_,_,rfl⟩ (by rw[hc])|some o=>have:=e o hc;subst this;refine⟨[rU (j0 x) o' lF],jY 2 H1<|aW (sc:=[.iX .next [rU (j0 x) o' lF]]) rfl (am ?_ aX)⟩;exact F rfl rfl ⟨_,_,_,rfl⟩ (by rw[hc])
end
section
variable {d:Nat}
noncomputable def k5:Str:="\n\t\r "
def HB (ln:Int):List (Str×CV):=[("lineno",.int ln),("instream",.ab 2),("whitespace",.str k5),("pushback",.ab 7)]
def dR (cs:List Nat)(ln:Int)(pb:List Str):List ae:=[.cell (some (.ab 1)),.list (cs.map jR),.d3 (eY ef.body 0).args (eY ef.body 0).body (eY ef.body 0).scope [] (some 4),.d3 (eY ef.body 1).args (eY ef.body 1).body (eY ef.body 1).scope [("signs",0)] none,.bt [("read",.ab 3)],.bt (HB ln),.bE 283 5,kH pb]
noncomputable def fZ:List Nat->Str
 |[]=>""|k::x=>⟨#[k]⟩
noncomputable def n8 (cs:List Nat)(ln:Int):Int:=match cs with
 |[]=>ln|k::x=>if k=10 then ln+1 else ln
theorem Dz:∀(cs:List Nat),CV.cV n (cs.map jR)=true
 |[]=>rfl|x::cs=>by rw[eC,CV.uu,Dz cs];rfl
theorem rV {cs:List Nat}{ln:Int}:((dR cs ln pb).all λo=>o.lo 8)=true:=by have h1:=Dz (n:=8) cs;simp only [dR,kH,bU,cG,ae.lo,h1,cJ (n:=8) pb];rfl
theorem ah' {cs:List Nat}{ln:Int}{pb:List Str}(hb:∀nm qu cl pm cv ct,db (vJ nm qu (eY ef.body 1).args (eY ef.body 1).body (eY ef.body 1).scope cl pm cv ct) (dR cs ln pb) [.int 1] [] [("size",.int 1)] (dR cs ln pb))(bJ:cs.length<=1000000):bM (d+2) (.ab 3) [.int 1] [] (dR cs ln pb) (.str (fZ cs)) (dR cs.tail ln pb):=by
 cases cs with
 |nil=>refine Hj (g:=[.frame [("size",.int 1)]]) rfl hb (by kernel_rfl) (by kernel_rfl) (by kernel_rfl) (by kernel_rfl) (by kernel_rfl) ?_ (aG _) rV rfl;exact dk (sc:=[.cw]) rfl (am (by decide) aX)|cons k r=>
  refine Hj (g:=[.frame [("size",.int 1)]]) rfl hb (by kernel_rfl) (by kernel_rfl) (by kernel_rfl) (by kernel_rfl) (by kernel_rfl) ?_ (aG _) rV rfl;apply dk (sc:=[.cw,.bg (.bi "list.pop") [.ab 1],.aE (.str ⟨#[k]⟩)<|dR r ln pb++[.frame [("size",.int 1)]]]) rfl;refine am ?_<|am gP<|am (A4 rfl)<|am ?_ aX
  ·have hl:((k::r).map jR).length=r.length+1:=by simp
   exact GP (st:=dR (k::r) ln pb++[.frame [("size",.int 1)]]) (k:=1) (i:=0) (j:=0) rfl (by decide) (hl▸rM (i:=0) (vI _)) rfl (by rw[hl];exact FH bJ)
  simp only [aV,dO];exact Tw bJ
theorem Xq {st:List ae}{k:Nat}{ps:pL}{b:aq}{sc:d8}{cells:List (Str×Nat)}{dd:Option Nat}(hk:st[k]?=some (.d3 ps b sc cells dd)):oM (.ab k) st:=λown s x S r=>by obtain⟨a,ha,rfl⟩:=r;obtain⟨a',b8,_,_,_,_,_,_,_,ho,_⟩:=S.bD hk;rw[ha] at b8;obtain rfl:=dE b8;obtain⟨k,_,h⟩:=keeps_F s.heap ⟨_,_,_,_,ho⟩;exact⟨k,h⟩
structure Xr:Prop where
 cls:wC 283
 yz:∀x∈(["lineno","instream","whitespace","pushback"]:List Str),xJ X.K (.ref 283) x=some none∧takerIn X.K 283 x=some none
 aia:∀st nm qu cl pm cv ct,db (vJ nm qu (eY ef.body 1).args (eY ef.body 1).body (eY ef.body 1).scope cl pm cv ct) st [.int 1] [] [("size",.int 1)] st
theorem uU:Xr:=⟨Hr,λx hx=>by
 rw[hX];revert x;exact zK.mpr ⟨⟨by kernel_rfl,by kernel_rfl⟩,zK.mpr ⟨⟨by kernel_rfl,by kernel_rfl⟩,zK.mpr ⟨⟨by kernel_rfl,by kernel_rfl⟩,zK.mpr ⟨⟨by kernel_rfl,by kernel_rfl⟩,λu h=>nomatch h⟩⟩⟩⟩,
 λst nm qu cl pm cv ct=>pe (λv1 S=>by kernel_rfl) gF⟩
abbrev Xs:aY:=da xP.scope 8 none
theorem HC {name:Str}(hn:name∈(["lineno","instream","whitespace","pushback"]:List Str)){st:List ae}{es:List (Str×CV)}{v:CV}(hk:st[6]?=some (.bE 283 5))(hd:st[5]?=some (.bt es))(hv:es.lookup name=some v)(hb:GX v=true):rG d name (.ab 6) st v st:=MR uU.cls hk hd hv (uU.yz name hn).1 rfl hb
theorem aib {name:Str}(hn:name∈(["lineno","instream","whitespace","pushback"]:List Str)){st:List ae}{es:List (Str×CV)}{v:CV}(hk:st[6]?=some (.bE 283 5))(hd:st[5]?=some (.bt es))(bn:es.length<=999):uA d name (.ab 6) v st (st.set 5 (.bt (mj es name v))):=GZ uU.cls hk hd (uU.yz name hn).2 bn
theorem Xt (hb:∀st k,db Ag st [.ab k] [] [("self",.ab k)] st){cs:List Nat}{ln:Int}(bJ:cs.length<=1000000):bM (d+4) (.aH 266) [.ab 6] [] (dR cs ln pb) (.str (fZ cs)) (dR cs.tail (n8 cs ln) pb):=by
 obtain⟨fr,B⟩:=(show ∃fr,aI (d+2) Xs xP.body (dR cs ln pb++[.frame [("self",.ab 6)]]) (.ret<|.str<|fZ cs) (dR cs.tail (n8 cs ln) pb++[fr]) from by
  have R:bk (d+2) (.ab 3) [.int 1] [] (dR cs ln pb++[.frame [("self",.ab 6)]]) (.str<|fZ cs) (dR cs.tail ln pb++[.frame [("self",.ab 6)]]):=
   (ah' (uU.aia _) bJ).call.wide rfl rV rV rfl rfl rfl rfl
  have H1:aI (d+2) Xs (xP.body.take 1) (dR cs ln pb++[.frame [("self",.ab 6)]]) .next (dR cs.tail ln pb++[.frame [("self",.ab 6),("ch",.str<|fZ cs)]]):=
   aW (sc:=[.val<|.ab 2,.bg (.ab 3) [],.aE (.str<|fZ cs)<|dR cs.tail ln pb++[.frame [("self",.ab 6)]]]) rfl
    (am R<|am (Xq rfl)<|am (ag8 rfl rfl rfl rfl W3)<|am (HC (by decide) rfl rfl rfl rfl) aX)
  have e:n8 cs ln=if d4 (fZ cs) "\n" then ln+1 else ln:=by
   cases cs with
   |nil=>rfl|cons k r=>
    have hn:("\n":Str)=⟨#[10]⟩:=by rfl'
    have:d4 ⟨#[k]⟩ "\n"=(k==10):=by rw[hn];simp [d4]
    show(if k=10 then ln+1 else ln)=if d4 ⟨#[k]⟩ "\n"=true then ln+1 else ln
    rw[this];by_cases h:k=10<;>simp [h]
  refine⟨.frame [("self",.ab 6),("ch",.str<|fZ cs)],?_⟩;rw[e];cases hh:d4 (fZ cs) "\n" with
  |true=>exact jY 1 H1 (aW (sc:=[.yes,.val<|.int ln,.aE .none<|dR cs.tail (ln+1) pb++[.frame [("self",.ab 6),("ch",.str<|fZ cs)]]]) (by rfl)<|am (aib (name:="lineno") (es:=HB ln) (by decide) rfl rfl (show 4<=999 by decide))<|am (HC (name:="lineno") (by decide) rfl rfl rfl rfl)<|am hh aX)|false=>exact jY 1 H1<|aW (sc:=[.no]) (by rfl)<|am hh aX)
 exact Xc.fn.code (hb _ 6) (by kernel_rfl) (λq h=>by exact nS h) B (.inl rfl) (aG _) rV rfl
abbrev i7:aY:=da qd.scope 8 none
noncomputable def HD (tok:Str)(ch:Option Str):ae:=.frame (("self",.ab 6)::("token",.str tok)::("fiter",.ab 10)::match ch with
 |some c=>[("ch",CV.str c)]|none=>[])
def cT (cs:List Nat)(ln:Int)(pb:List Str)(tok:Str)(ch:Option Str)(it:ae):List ae:=dR cs ln pb++[HD tok ch,.bg 266 6,it]
noncomputable def io:ae:=.jf 9 ""
noncomputable def bO (k:Nat)(ln:Int):Int:=if k=10 then ln+1 else ln
def iN:List Nat->Bool->Str->Int->Str×List Nat×Int×Bool
 |[],x,tok,ln=>(tok,[],ln,false)|k::r,true,tok,ln=>iN r false (tok++⟨#[k]⟩) (bO k ln)|k::r,false,tok,ln=>if k=34 then(tok,r,bO k ln,true) else if k=92 then iN r true tok (bO k ln) else iN r false (tok++⟨#[k]⟩) (bO k ln)
def eQ (k:Nat):Bool:=ko ⟨#[k]⟩ k5
def e9:List Nat->Bool->Str->Int->Str×List Nat×Int×Bool
 |[],x,tok,ln=>(tok,[],ln,false)|k::r,true,tok,ln=>e9 r false (tok++⟨#[k]⟩) (bO k ln)|k::r,false,tok,ln=>if eQ k then(tok,r,bO k ln,true) else if k=92 then e9 r true tok (bO k ln) else e9 r false (tok++⟨#[k]⟩) (bO k ln)
structure aid:Prop where
 Xu:Xr
 rd:pd 283 "_read_char" 266 xP Ag
 rb:∀st k,db Ag st [.ab k] [] [("self",.ab k)] st
 get:specialIn X.K (.ref 266) "__get__" = some (some (.builtin "function.__get__"))
 aie:takesIn X.K (.ref 266)=some false
theorem mB:aid:=⟨uU,Xc,λst k=>pe (λv1 S=>by kernel_rfl) gF,by kernel_rfl,by kernel_rfl⟩
section
variable {cs:List Nat}{ln:Int}{pb:List Str}{tok:Str}{ch:Option Str}{target:aq}
theorem Od (bJ:cs.length<=1000000):bk (d+4) (.aH 266) [.ab 6] [] (dR cs ln pb++g) (.str (fZ cs)) (dR cs.tail (n8 cs ln) pb++g):=
 (Xt mB.rb bJ).call.wide rfl rV rV rfl rfl rfl rfl
theorem Xv (bJ:cs.length<=1000000):bM (d+4) (.aH 266) [.ab 6] [] (dR cs ln pb++g) (.str (fZ cs)) (dR cs.tail (n8 cs ln) pb++g):=
 (Xt mB.rb bJ).wide rfl rV rV rfl rfl rfl rfl
theorem Oe {k:Nat}(bJ:(k::r).length<=1000000):nY (d+5) target 10 (cT (k::r) ln pb tok ch io) (some (.str ⟨#[k]⟩)) (cT r (bO k ln) pb tok ch io):=by obtain⟨oc,od,kU,hf⟩:=mB.rd.fn.is.bD;exact afV rfl rfl hf (WB (m:=9) rfl (Xv (d:=d) (ln:=ln) (pb:=pb) bJ (g:=[HD tok ch,.bg 266 6,io]))) rfl rfl (λe=>by exact absurd (show(1:Nat)=0 from (congrArg (λs=>s.cps.size) e))<|by decide)
theorem DA:nY (d+5) target 10 (cT [] ln pb tok ch io) none (cT [] ln pb tok ch .mR):=by
 obtain⟨oc,od,kU,hf⟩:=mB.rd.fn.is.bD;exact λA own s a R q S ha hR=>
  WD (target:=target) rfl rfl hf (WB (m:=9) rfl (Xv (d:=d) (cs:=[]) (ln:=ln) (pb:=pb) (by simp) (g:=[HD tok ch,.bg 266 6,io]))) rfl rfl q S ha (λhn=>absurd rfl hn) λu av s' E' S'=>hR av none s' E' S' rfl
def DB:List bl:=(dc qd.body).2.2
def uV:aq×aq×List bl:=dc (rO DB 1)
def uW:aq×aq×List bl:=dc (rP DB 1)
theorem aif {k:Nat}:dj d i7 uV.1 (.str ⟨#[k]⟩) (cT cs ln pb tok ch it) (cT cs ln pb tok (some ⟨#[k]⟩) it):=by
 have hw:kn i7 (cT cs ln pb tok ch it) "ch" (.str ⟨#[k]⟩)=some (cT cs ln pb tok (some ⟨#[k]⟩) it):=by cases ch<;>rfl
 exact wg hw
theorem n9 k j:d4 ⟨#[k]⟩ ⟨#[j]⟩=(k==j):=by simp [d4]
theorem HE:gM d "_read_char" (.ab 6) (cT cs ln pb tok ch it) (.aH 266) [.ab 6]:=
 ta mB.Xu.cls rfl rfl rfl mB.rd.find mB.rd.ty
theorem aii (hc:cs.length<=1000000)(hl:tok.length<=1000000):aI (d+4) i7 uV.2.2 (cT cs ln pb tok (some ⟨#[92]⟩) it) .next (cT cs.tail (n8 cs ln) pb (tok++fZ cs) (some (fZ cs)) it):=by
 have hh:(fZ cs).length<=1:=by cases cs with|nil=>exact dQ _|cons k r=>exact aG _
 apply aW (sc:=[.no,.yes,.bg (.aH 266) [.ab 6],.aE (.str<|fZ cs)<|cT cs.tail (n8 cs ln) pb tok (some ⟨#[92]⟩) it]) rfl;exact am (by rw[uf];exact TC hh hl)<|am (Od hc)<|am (cK mB.rd.bj)<|am (HE)<|am (n9 92 92)<|am (n9 92 34) aX
theorem Of s:s++("":Str)=s:=xC (by rw[vR];exact abl)
noncomputable def yU (z:Str×List Nat×Int×Bool):cZ:=if z.2.2.2 then .ret (.str z.1) else .next
def yV (z:Str×List Nat×Int×Bool):ae:=if z.2.2.2 then io else .mR
theorem Og:∀n cs ln tok ch,cs.length<=n->tok.length+cs.length<=1000000->∃em,te (d+5) i7 uV.1 uV.2.2 10 (cT cs ln pb tok ch io) (yU (iN cs false tok ln)) (cT (iN cs false tok ln).2.1 (iN cs false tok ln).2.2.1 pb (iN cs false tok ln).1 em (yV (iN cs false tok ln)))
 |n,[],ln,tok,ch,x,u=>⟨ch,.jk<|DA⟩|0,k::r,ln,tok,ch,hn,x=>by simp at hn|n+1,k::r,ln,tok,ch,hn,hl=>by
  simp only [dO] at hn hl;have N:=Oe (d:=d) (target:=uV.1) (tok:=tok) (ch:=ch) (ln:=ln) (pb:=pb) (k:=k) (r:=r) (by exact TD hl);have A:=aif (d:=d+5) (cs:=r) (ln:=bO k ln) (pb:=pb) (tok:=tok) (ch:=ch) (k:=k) (it:=io);have Oh:(tok++⟨#[k]⟩:Str).length=tok.length+1:=by rw[uf];rfl
  by_cases h1:k=34
  ·subst h1;exact⟨some ⟨#[34]⟩,.ret N A<|(aW (sc:=[.yes]) rfl (am (n9 34 34) aX))⟩
  by_cases h2:k=92
  ·subst h2;have B:=aii (d:=d+1) (ln:=bO 92 ln) (pb:=pb) (it:=io) (by exact TE hl) (by exact ug hl);cases r with
   |nil=>rw[show tok++fZ []=tok from Of tok] at B;exact⟨some "",.cons N A B (.inl rfl)<|.jk<|DA⟩|cons k' r'=>
    have Oi:(tok++⟨#[k']⟩:Str).length=tok.length+1:=by rw[uf];rfl
    obtain⟨em,L⟩:=Og n r' (bO k'<|bO 92 ln) (tok++⟨#[k']⟩) (some ⟨#[k']⟩) (by exact TF hn) (by simp [dO] at hl;exact TG hl Oi);exact⟨em,.cons N A B (.inl rfl) L⟩
  obtain⟨em,L⟩:=Og n r (bO k ln) (tok++⟨#[k]⟩) (some ⟨#[k]⟩) (by exact TH hn) (by exact TI hl Oh);have e:iN (k::r) false tok ln=iN r false (tok++⟨#[k]⟩) (bO k ln):=by simp [iN];rw[if_neg h1,if_neg h2]
  exact e▸⟨em,.cons N A ((aW (sc:=[.no,.no]) (by rfl)<|am (by rw[uf];exact TB<|by exact ug hl)<|am ((n9 k 92).trans<|by simpa using h2)<|am ((n9 k 34).trans<|by simpa using h1) aX)) (.inl rfl) L⟩
theorem tF:rG d "whitespace" (.ab 6) (cT cs ln pb tok ch it) (.str k5) (cT cs ln pb tok ch it):=HC (by decide) rfl rfl rfl rfl
theorem aij {k:Nat}:dj d i7 uW.1 (.str ⟨#[k]⟩) (cT cs ln pb tok ch it) (cT cs ln pb tok (some ⟨#[k]⟩) it):=by
 have hw:kn i7 (cT cs ln pb tok ch it) "ch" (.str ⟨#[k]⟩)=some (cT cs ln pb tok (some ⟨#[k]⟩) it):=by cases ch<;>rfl
 exact wg hw
theorem Oj:eQ 92=false:=by decide +kernel
theorem aim (hc:cs.length<=1000000)(hl:tok.length<=1000000):aI (d+4) i7 uW.2.2 (cT cs ln pb tok (some ⟨#[92]⟩) it) .next (cT cs.tail (n8 cs ln) pb (tok++fZ cs) (some (fZ cs)) it):=by
 have hh:(fZ cs).length<=1:=by cases cs with|nil=>exact dQ _|cons k r=>exact aG _
 apply aW (sc:=[.val<|.str k5,.no,.yes,.bg (.aH 266) [.ab 6],.aE (.str<|fZ cs)<|cT cs.tail (n8 cs ln) pb tok (some ⟨#[92]⟩) it]) rfl;exact am (by rw[uf];exact TC hh hl)<|am (Od hc)<|am (cK mB.rd.bj)<|am (HE)<|am (n9 92 92)<|am Oj<|am (tF) aX
theorem Ol:∀n cs ln tok ch,cs.length<=n->tok.length+cs.length<=1000000->∃em,te (d+5) i7 uW.1 uW.2.2 10 (cT cs ln pb tok ch io) (yU (e9 cs false tok ln)) (cT (e9 cs false tok ln).2.1 (e9 cs false tok ln).2.2.1 pb (e9 cs false tok ln).1 em (yV (e9 cs false tok ln)))
 |n,[],ln,tok,ch,x,u=>⟨ch,.jk<|DA⟩|0,k::r,ln,tok,ch,hn,x=>by simp at hn|n+1,k::r,ln,tok,ch,hn,hl=>by
  simp only [dO] at hn hl;have N:=Oe (d:=d) (target:=uW.1) (tok:=tok) (ch:=ch) (ln:=ln) (pb:=pb) (k:=k) (by simp only [dO];exact TD hl);have A:=aij (d:=d+5) (cs:=r) (ln:=bO k ln) (pb:=pb) (tok:=tok) (ch:=ch) (k:=k) (it:=io);have Oh:(tok++⟨#[k]⟩).length=tok.length+1:=by rw[uf];rfl
  cases h1:eQ k with
  |true=>
   have e:e9 (k::r) false tok ln=(tok,r,bO k ln,true):=by simp only [e9];rw[if_pos h1]
   exact e▸⟨some ⟨#[k]⟩,.ret N A<|(aW (sc:=[.val<|.str k5,.yes]) (by rfl)<|am h1<|am (tF) aX)⟩
  |false=>
   by_cases h2:k=92
   ·subst h2;have B:=aim (d:=d+1) (ln:=bO 92 ln) (pb:=pb) (it:=io) (TE hl)<|ug hl;have e:e9 (92::r) false tok ln=e9 r true tok (bO 92 ln):=by simp only [e9];rw[if_neg<|h1▸fL,if_pos trivial]
    rw[e];cases r with
    |nil=>rw[show tok++fZ []=tok from Of tok] at B;exact⟨some "",.cons N A B (.inl rfl)<|.jk<|DA⟩|cons k' r'=>
     have Oi:(tok++⟨#[k']⟩).length=tok.length+1:=by rw[uf];rfl
     obtain⟨em,L⟩:=Ol n r' (bO k'<|bO 92 ln) (tok++⟨#[k']⟩) (some ⟨#[k']⟩) (by simp only [dO] at hn;exact TF hn) (by simp [dO] at hl;exact TG hl Oi);exact⟨em,.cons N A B (.inl rfl) L⟩
   obtain⟨em,L⟩:=Ol n r (bO k ln) (tok++⟨#[k]⟩) (some ⟨#[k]⟩) (by exact TH hn) (by exact TI hl Oh);have e:e9 (k::r) false tok ln=e9 r false (tok++⟨#[k]⟩) (bO k ln):=by simp [e9];rw[if_neg<|h1▸fL,if_neg h2]
   exact e▸⟨em,.cons N A ((aW (sc:=[.val<|.str k5,.no,.no]) (by rfl)<|am (by rw[uf];exact TB<|by exact ug hl)<|am ((n9 k 92).trans<|by simpa using h2)<|am h1<|am (tF) aX)) (.inl rfl) L⟩
def bG:List Nat->Int->Str×List Nat×Int×Bool
 |[],ln=>("",[],ln,false)|k::r,ln=>if eQ k then bG r (bO k ln) else if k=34 then iN r false "" (bO k ln) else if k=92 then e9 r true "" (bO k ln) else e9 r false (""++⟨#[k]⟩) (bO k ln)
theorem Om {p:Pos}:a8 d i7 (.Name "fiter" p) (cT cs ln pb tok ch it) (.ab 10) (cT cs ln pb tok ch it):=
 dk (sc:=[]) rfl aX
theorem aio (hl:tok.length+cs.length<=1000000):∃em,∀{t i} {b} {p},t=uV.1->b=uV.2.2->(∃q,i=.Name "fiter" q)->dB (d+5) i7 (.For t i b [] p) (cT cs ln pb tok ch io) (yU (iN cs false tok ln)) (cT (iN cs false tok ln).2.1 (iN cs false tok ln).2.2.1 pb (iN cs false tok ln).1 em (yV (iN cs false tok ln))):=by obtain⟨em,L⟩:=Og cs.length cs ln tok ch (aG _) hl;refine⟨em,λh1 h2 ⟨q,h3⟩=>?_⟩;subst h1;subst h2;subst h3;exact MU rfl (Om) (MV rfl) L
theorem Xw (hl:tok.length+cs.length<=1000000):∃em,∀{t i} {b} {p},t=uW.1->b=uW.2.2->(∃q,i=.Name "fiter" q)->dB (d+5) i7 (.For t i b [] p) (cT cs ln pb tok ch io) (yU (e9 cs false tok ln)) (cT (e9 cs false tok ln).2.1 (e9 cs false tok ln).2.2.1 pb (e9 cs false tok ln).1 em (yV (e9 cs false tok ln))):=by obtain⟨em,L⟩:=Ol cs.length cs ln tok ch (aG _) hl;refine⟨em,λh1 h2 ⟨q,h3⟩=>?_⟩;subst h1;subst h2;subst h3;exact MU rfl (Om) (MV rfl) L
theorem aip {k:Nat}(hl:r.length+1<=1000000)(h0:eQ k=false):∃em,aI (d+5) i7 DB (cT r (bO k ln) pb "" (some ⟨#[k]⟩) io) (yU (bG (k::r) ln)) (cT (bG (k::r) ln).2.1 (bG (k::r) ln).2.2.1 pb (bG (k::r) ln).1 em (yV (bG (k::r) ln))):=by
 have e0:("":Str).length=0:=by decide +kernel
 have On:¬(eQ k=true):=by rw[h0];exact fL
 by_cases h1:k=34
 ·subst h1;obtain⟨em,F⟩:=aio<|ah [_,_,_,_] (.le (.a .o .i) .u<|.eq .w .k<|.gl (.a .w .o) .u) rfl hl e0;have e:bG (34::r) ln=iN r false "" (bO 34 ln):=by simp only [bG];rw[if_neg On,if_pos trivial]
  rw[e];generalize iN r false "" (bO 34 ln)=z at F ⊢;obtain⟨t',c',l',b'⟩:=z;refine⟨em,?_⟩;cases b' with|true=>exact aW (sc:=[.val<|.str k5,.no,.yes,.iX (.ret<|.str t')<|cT c' l' pb t' em io]) rfl (am (by exact F rfl rfl ⟨_,rfl⟩)<|am (n9 34 34)<|am h0<|am (tF) aX)|false=>exact aW (sc:=[.val<|.str k5,.no,.yes,.iX .next (cT c' l' pb t' em .mR)]) rfl (am (by exact F rfl rfl ⟨_,rfl⟩)<|am (n9 34 34)<|am h0<|am (tF) aX)
 have hq:d4 (⟨#[k]⟩:Str) ⟨#[34]⟩=false:=(n9 k 34).trans (by simpa using h1);by_cases h2:k=92
 ·subst h2;have e:bG (92::r) ln=e9 r true "" (bO 92 ln):=by simp only [bG];rw[if_neg On,if_neg h1,if_pos trivial]
  rw[e];have RC:=Od (d:=d+1) (ln:=bO 92 ln) (pb:=pb) (by exact ug hl) (g:=[HD ""<|some ⟨#[92]⟩,.bg 266 6,io]);have hh:(fZ r).length<=1:=by cases r with|nil=>exact dQ _|cons k r=>exact aG _
  have d6:(""++fZ r:Str).length<=cX:=by rw[uf,e0];show _<=2^24;exact ah [_] (.le .o .j<|.gl (.a .k .o)<|.n<|2^24) rfl hh
  have HF:(""++fZ r:Str).length<=1:=by rw[uf,e0];exact ah [_,_] (.le .o .i<|.gl (.a .k .o) .i) rfl hh
  obtain⟨em,F⟩:=Xw (ch:=some<|fZ r) (by rw[List.length_tail];exact act hl HF);have ez:e9 r true "" (bO 92 ln)=e9 r.tail false (""++fZ r) (n8 r<|bO 92 ln):=by cases r with|nil=>rw[show(""++fZ []:Str)="" from Of ""];rfl|cons k' r'=>rfl
  rw[ez];generalize e9 r.tail false (""++fZ r) (n8 r<|bO 92 ln)=z at F ⊢;obtain⟨t',c',l',b'⟩:=z;refine⟨em,?_⟩;cases b' with|true=>refine aW (sc:=[.val<|.str k5,.no,.no,.yes,.bg (.aH 266) [.ab 6],.aE (.str<|fZ r)<|cT r.tail (n8 r<|bO 92 ln) pb "" (some ⟨#[92]⟩) io,.iX (.ret<|.str t')<|cT c' l' pb t' em io]) rfl ?_;exact am (by exact F rfl rfl ⟨_,rfl⟩) (am d6<|am RC<|am (cK mB.rd.bj)<|am (HE)<|am (n9 92 92)<|am hq<|am h0<|am (tF) aX)|false=>refine aW (sc:=[.val<|.str k5,.no,.no,.yes,.bg (.aH 266) [.ab 6],.aE (.str<|fZ r)<|cT r.tail (n8 r<|bO 92 ln) pb "" (some ⟨#[92]⟩) io,.iX .next (cT c' l' pb t' em .mR)]) rfl ?_;exact am (by exact F rfl rfl ⟨_,rfl⟩)<|am d6<|am RC<|am (cK mB.rd.bj)<|am (HE)<|am (n9 92 92)<|am hq<|am h0<|am (tF) aX
 have hb:d4 (⟨#[k]⟩:Str) ⟨#[92]⟩=false:=(n9 k 92).trans (by simpa using h2);have e:bG (k::r) ln=e9 r false (""++⟨#[k]⟩) (bO k ln):=by simp [bG];rw[if_neg On,if_neg h1,if_neg h2]
 rw[e];have HF:(""++⟨#[k]⟩:Str).length=1:=by rw[uf,e0];rfl
 have d6:(""++⟨#[k]⟩:Str).length<=cX:=by rw[HF];show _<=2^24;exact ah [] (.gl .j<|.n<|2^24) rfl
 obtain⟨em,F⟩:=Xw (ch:=some ⟨#[k]⟩) (by exact ah [_,_,_,_] (.le (.a .o .i) .u<|.eq .w .i<|.gl (.a .w .o) .u) rfl hl HF);generalize e9 r false (""++⟨#[k]⟩) (bO k ln)=z at F ⊢;obtain⟨t',c',l',b'⟩:=z;refine⟨em,?_⟩;cases b' with|true=>exact aW (sc:=[.val<|.str k5,.no,.no,.no,.iX (.ret<|.str t')<|cT c' l' pb t' em io]) rfl (am (by exact F rfl rfl ⟨_,rfl⟩)<|am d6<|am hb<|am hq<|am h0<|am (tF) aX)|false=>exact aW (sc:=[.val<|.str k5,.no,.no,.no,.iX .next (cT c' l' pb t' em .mR)]) rfl (am (by exact F rfl rfl ⟨_,rfl⟩)<|am d6<|am hb<|am hq<|am h0<|am (tF) aX)
theorem Xx:∀cs ln ch,cs.length<=1000000->∃em,te (d+5) i7 (dc qd.body).1 DB 10 (cT cs ln pb "" ch io) (yU (bG cs ln)) (cT (bG cs ln).2.1 (bG cs ln).2.2.1 pb (bG cs ln).1 em (yV (bG cs ln)))
 |[],ln,ch,x=>⟨ch,.jk<|DA⟩|k::r,ln,ch,hl=>by
  have N:=Oe (d:=d) (target:=(dc qd.body).1) (tok:="") (ch:=ch) (ln:=ln) (pb:=pb) (k:=k) (by omega);have A:=(show dj (d+5) i7 (dc qd.body).1 (.str ⟨#[k]⟩) (cT r (bO k ln) pb "" ch io) (cT r (bO k ln) pb "" (some ⟨#[k]⟩) io) from by
   have hw:kn i7 (cT r (bO k ln) pb "" ch io) "ch" (.str ⟨#[k]⟩)=some (cT r (bO k ln) pb "" (some ⟨#[k]⟩) io):=by cases ch<;>rfl
   exact wg hw)
  cases h0:eQ k with
  |true=>
   obtain⟨em,L⟩:=Xx r (bO k ln) (some ⟨#[k]⟩)<|ug hl;have e:bG (k::r) ln=bG r (bO k ln):=by simp only [bG];rw[if_pos h0]
   rw[e];exact⟨em,.cons N A (aW (sc:=[.val<|.str k5,.yes]) (by rfl')<|am h0<|am (tF) aX) (.inr rfl) L⟩
  |false=>obtain⟨em,B⟩:=aip hl h0;refine⟨em,?_⟩;generalize bG (k::r) ln=z at B ⊢;obtain⟨t',c',l',b'⟩:=z;cases b' with|true=>exact .ret N A B|false=>exact .cons N A B (.inl rfl)<|.jk<|afK rfl
end
end
section
variable {d:Nat}
def i8 (cs:List Nat)(ln:Int):List Str->Str×List Nat×Int×List Str
 |p::ps=>(p,cs,ln,ps)|[]=>((bG cs ln).1,(bG cs ln).2.1,(bG cs ln).2.2.1,[])
theorem HG {cs:List Nat}{ln:Int}:rG d "pushback" (.ab 6) (dR cs ln pb++g) (.ab 7) (dR cs ln pb++g):=
 HC (by decide) rfl rfl rfl rfl
theorem aiq {cs:List Nat}{ln:Int}(hc:cs.length<=1000000)(hp:pb.length<=1000000):∃g,aI (d+5) i7 qd.body (dR cs ln pb++[.frame [("self",.ab 6)]]) (.ret (.str (i8 cs ln pb).1)) (dR (i8 cs ln pb).2.1 (i8 cs ln pb).2.2.1 (i8 cs ln pb).2.2.2++g):=by
 cases pb with
 |cons p ps=>
  refine⟨[.frame [("self",.ab 6)]],?_⟩;apply aW (sc:=[.val<|.ab 7,.cw,.val<|.ab 7,.bg (.bi "list.pop") [.ab 7],.aE (.str p)<|dR cs ln ps++[.frame [("self",.ab 6)]]]) (by rfl);have hl:((p::ps).map CV.str).length=ps.length+1:=by simp
  refine am ?_<|am gP<|am (A4 rfl)<|am (HG)<|am ?_<|am (HG) aX
  ·exact GP (st:=dR cs ln (p::ps)++[.frame [("self",.ab 6)]]) (k:=7) (i:=0) rfl (by decide) (by rw[hl];exact rM<|vI _) rfl (by rw[hl];exact FH hp)
  exact hl▸Tw hp
 |nil=>
  obtain⟨em,L⟩:=Xx cs ln none hc;have H1:aI (d+5) i7 (qd.body.take 3) (dR cs ln []++[.frame [("self",.ab 6)]]) .next (cT cs ln [] "" none io):=by
   apply aW (sc:=[.val<|.ab 7,.cw,.aE (.ab 9)<|dR cs ln []++[.frame [("self",.ab 6),("token",.str "")],.bg 266 6],.aE (.ab 10)<|dR cs ln []++[.frame [("self",.ab 6),("token",.str "")],.bg 266 6,.jf 9 ""]]) (by rfl);refine am ?_<|am gP<|am ?_<|am (by decide)<|am (HG) aX
   ·exact af3 rfl
   exact afI mB.Xu.cls rfl rfl rfl mB.rd.find mB.rd.ty mB.get mB.aie (by decide +kernel)
  show∃g,aI (d+5) i7 qd.body _ (.ret<|.str (bG cs ln).1)<|dR (bG cs ln).2.1 (bG cs ln).2.2.1 []++g;generalize bG cs ln=z at L ⊢;obtain⟨t',c',l',b'⟩:=z;have F:∀{t i:aq} {b:List bl} {p:Pos},t=(dc qd.body).1->b=DB->(∃q,i=.Name "fiter" q)->dB (d+5) i7 (.For t i b [] p) (cT cs ln [] "" none io) (yU (t',c',l',b')) (cT c' l' [] t' em<|yV (t',c',l',b')):=by intro t i b p h1 h2 ⟨q,h3⟩;subst h1;subst h2;subst h3;exact MU rfl (Om) (MV rfl) L
  cases b' with|true=>exact⟨_,jY 3 H1<|aW (sc:=[.iX (.ret<|.str t')<|cT c' l' [] t' em io]) (by rfl)<|am (by exact F rfl rfl ⟨_,rfl⟩) aX⟩|false=>exact⟨_,jY 3 H1<|aW (sc:=[.iX .next (cT c' l' [] t' em .mR)]) rfl (am (by exact F rfl rfl ⟨_,rfl⟩) aX)⟩
theorem air (hb:∀st k,db FO st [.ab k] [] [("self",.ab k)] st){cs:List Nat}{ln:Int}(hc:cs.length<=1000000)(hp:pb.length<=1000000):bM (d+7) (.aH 273) [.ab 6] [] (dR cs ln pb) (.str (i8 cs ln pb).1) (dR (i8 cs ln pb).2.1 (i8 cs ln pb).2.2.1 (i8 cs ln pb).2.2.2):=by obtain⟨g,B⟩:=aiq hc hp;exact NO.fn.code (hb _ 6) (by kernel_rfl) (λq h=>by exact nS h) B (.inl rfl) (aG _) rV rfl
end
section
variable {d:Nat}
theorem ais (hb:∀st k x,db FP st [.ab k,.str x] [] [("self",.ab k),("token",.str x)] st){cs:List Nat}{ln:Int}{x:Str}(hp:pb.length<=1000000):bM (d+2) (.aH 280) [.ab 6,.str x] [] (dR cs ln pb) .none (dR cs ln (pb++[x])):=by
 have B:aI d (da Co.scope 8 none) Co.body (dR cs ln pb++[.frame [("token",.str x),("self",.ab 6)]]) .next (dR cs ln (pb++[x])++[.frame [("token",.str x),("self",.ab 6)]]):=by apply aW (sc:=[.val<|.ab 7,.bg (.bi "list.append") [.ab 7],.aE .none<|dR cs ln (pb++[x])++[.frame [("token",.str x),("self",.ab 6)]]]) (by rfl);refine am ?_<|am gP<|am (jX rfl)<|am (HG) aX;have:=mX (d:=d) (st:=dR cs ln pb++[.frame [("token",.str x),("self",.ab 6)]]) (k:=7) (v:=.str x) rfl (by rw[aV];exact KL hp);rwa[NZ] at this
 exact NP.fn.code (hb _ 6 x) (by kernel_rfl) (λq h=>by exact nS h) B (.inr ⟨rfl,rfl⟩) (aG _) rV rfl
def jm (x:Str):List ae:=[.frame [("text",.str x),("tape",.ab 3)],.cell (some (.ab 2)),.list (x.cps.toList.map jR),.d3 (eY ef.body 0).args (eY ef.body 0).body (eY ef.body 0).scope [] (some 5),.d3 (eY ef.body 1).args (eY ef.body 1).body (eY ef.body 1).scope [("signs",1)] none,.bt [("read",.ab 4)]]
def uX (ln:Int):List (Str×CV):=[("lineno",.int ln),("instream",.ab 3),("whitespace",.str k5),("pushback",.ab 9)]
def cLD:aY:=da ef.scope 0 (some (293,289))
theorem aiv (hb:∀st k j,db Af st [.ab k,.ab j] [] [("self",.ab k),("fp",.ab j)] st)(hm:makesIn X.K 283=true){x:Str}(hx:x.length<=1000000):aI (d+3) cLD ef.body ([]++dU ef.scope [("text",.str x)]) (.ret (.ab 7)) (jm x++[.bt (uX 1),.bE 283 6,.frame [("fp",.ab 3),("self",.ab 7)],.list []]):=by
 have K:bk (d+3) (.aH 283) [.ab 3] [] (jm x) (.ab 7) (jm x++[.bt<|uX 1,.bE 283 6,.frame [("fp",.ab 3),("self",.ab 7)],.list []]):=
  (MS (st:=jm x) hm NQ.find NQ.ty ((by
   have HH:∀{name:Str} {es:List (Str×CV)} {v:CV} {g:List ae},name∈(["lineno","instream","whitespace","pushback"]:List Str)->es.length<=999->
    uA d name (.ab 7) v (jm x++([.bt es,.bE 283 6]++g)) (jm x++([.bt<|mj es name v,.bE 283 6]++g)):=λ{name es v g} hn bn=>
    GZ (C:=283) (k:=7) (dd:=6) uU.cls rfl rfl (uU.yz name hn).2 bn
   have B:aI d (da Cp.scope 8 none) Cp.body (jm x++[.bt [],.bE 283 6]++[.frame [("fp",.ab 3),("self",.ab 7)]]) .next (jm x++[.bt<|uX 1,.bE 283 6,.frame [("fp",.ab 3),("self",.ab 7)],.list []]):=by
    refine aW (sc:=[.aE .none<|jm x++[.bt [("lineno",.int 1)],.bE 283 6,.frame [("fp",.ab 3),("self",.ab 7)]],.aE .none<|jm x++[.bt [("lineno",.int 1),("instream",.ab 3)],.bE 283 6,.frame [("fp",.ab 3),("self",.ab 7)]],
     .aE .none (jm x++[.bt [("lineno",.int 1),("instream",.ab 3),("whitespace",.str k5)],.bE 283 6,.frame [("fp",.ab 3),("self",.ab 7)]]),.aE .none<|jm x++[.bt<|uX 1,.bE 283 6,.frame [("fp",.ab 3),("self",.ab 7)],.list []]]) rfl ?_
    exact am (HH (g:=[.frame [("fp",.ab 3),("self",.ab 7)],.list []]) (es:=[("lineno",.int 1),("instream",.ab 3),("whitespace",.str k5)]) (by decide)<|by decide) (am (dQ _) (am (HH (g:=[.frame [("fp",.ab 3),("self",.ab 7)]]) (by decide)<|by decide)
     (am (HH (by decide)<|by decide)<|am (HH (es:=[]) (by decide)<|by decide) aX)))
   refine NQ.fn.code (tab:=none) (g:=[]) (hb _ 7 3) (by kernel_rfl) nofun B (.inr ⟨rfl,rfl⟩) (by show 8<=10;decide) ?_ rfl;have h1:=Dz (n:=10) x.cps.toList;show((jm x++[ae.bt<|uX 1,.bE 283 6,.frame [("fp",.ab 3),("self",.ab 7)],.list []]).all λo=>o.lo 10)=true;simp only [jm,fM,bU,cG,ae.lo,h1];rfl))).call
 have S1:uA (d+3) "read" (.ab 3) (.ab 4) [.frame [("text",.str x),("tape",.ab 3)],.cell<|some<|.ab 2,.list<|x.cps.toList.map jR,.d3 (eY ef.body 0).args (eY ef.body 0).body (eY ef.body 0).scope [] none,
  .d3 (eY ef.body 1).args (eY ef.body 1).body (eY ef.body 1).scope [("signs",1)] none] (jm x):=ag5 rfl W3
 have L1:bk (d+3) (.ty "list") [.str x] [] [.frame [("text",.str x)],.cell none] (.ab 2) [.frame [("text",.str x)],.cell none,.list<|x.cps.toList.map jR]:=by have:=Wm (d:=d+3) (st:=[.frame [("text",.str x)],.cell none]) (by show _<=2^24;exact FH hx);unfold cQ at this;rwa[fV] at this
 refine aW (sc:=[.aE (.ab 2) [.frame [("text",.str x)],.cell none,.list<|x.cps.toList.map jR],
  .aE (.ab 3) [.frame [("text",.str x)],.cell<|some<|.ab 2,.list<|x.cps.toList.map jR,.d3 (eY ef.body 0).args (eY ef.body 0).body (eY ef.body 0).scope [] none],
  .aE (.ab 4) [.frame [("text",.str x),("tape",.ab 3)],.cell<|some<|.ab 2,.list<|x.cps.toList.map jR,.d3 (eY ef.body 0).args (eY ef.body 0).body (eY ef.body 0).scope [] none,.d3 (eY ef.body 1).args (eY ef.body 1).body (eY ef.body 1).scope [("signs",1)] none],
  .aE .none (jm x),.aE (.ab 7)<|jm x++[.bt<|uX 1,.bE 283 6,.frame [("fp",.ab 3),("self",.ab 7)],.list []]]) rfl ?_
 refine am K<|am (cK<|iG<|by kernel_rfl)<|am S1<|am ?_<|am ?_<|am L1<|am yn aX
 ·exact Hi rfl (λu=>rfl) rfl
 exact Hi rfl (λu=>rfl) rfl
theorem aiw (hb:∀st k j,db Af st [.ab k,.ab j] [] [("self",.ab k),("fp",.ab j)] st)(hm:makesIn X.K 283=true)(hc:FQ.code=.ref 293){x:Str}(hx:x.length<=1000000)(hbL:db FQ [] args kw [("text",.str x)] []):bM (d+5) (.aH 294) args kw [] (.ab 6) (dR x.cps.toList 1 []):=by have c:=ahp.code (tab:=some (293,289)) hbL (by kernel_rfl) (λq h=>by obtain rfl:=dE h;exact⟨ku,hc⟩) (by rw[dM];exact aiv (d:=d) hb hm hx) (.inl rfl) (by show 0<=10;decide) (by show((jm x++[ae.bt<|uX 1,.bE 283 6,.frame [("fp",.ab 3),("self",.ab 7)],.list []]).all λo=>o.lo 10)=true;simp only [jm,fM,bU,cG,ae.lo,Dz (n:=10) x.cps.toList];rfl) rfl;exact c.qr<|yk [1,2,3,4,5,6,7,9] (by decide) (cq rfl (cq (fz<|W5 _ _)<|cq rfl (cq rfl (cq rfl (cq rfl (cq rfl (cq rfl iF))))))) rfl rfl
end
section
variable {d:Nat}
structure Oo (p:ai):Prop where
 bg:∀S pl,pR X.K S (getMethod (.ref p) "search" pl)=some (.builtin "re.Pattern.search",[.ref p])
structure HI (p:ai)(x:Str):Prop where
 chk:∀S t,pR X.K S (checkBuiltinCall "re.Pattern.search" ⟨[.ref p,.str x t],[]⟩)=some ()
 run:∀S t,pR X.K S (Builtin.«re.Pattern.search» ⟨[.ref p,.str x t],[]⟩)=some (.done (.ret .none))
theorem aiz:plainId "re.Pattern.search"=true:=by decide +kernel
theorem aiA:Fg table "re.Pattern.search"=some Builtin.«re.Pattern.search»:=RA (by kernel_rfl)
theorem Xy {p:ai}(R:Oo p){st:List ae}:gM d "search" (.aH p) st (.bi "re.Pattern.search") [.aH p]:=λA own s x pl q S r=>by subst r;exact(Rh (vS S.ok.k S.bj)<|R.bg _ _).here ⟨own,.refl,S,rfl,_,_,rfl,rfl,rfl⟩
theorem Xz {p:ai}{x:Str}(R:HI p x){st:List ae}:bk d (.bi "re.Pattern.search") [.aH p,.str x] [] st .none st:=λA own s fv vs ks q S fQ cx di=>by subst fQ;subst di;obtain⟨_,_,rfl,h,_,_,rfl,⟨t,rfl⟩,jD⟩:=cx;subst h;subst jD;have KI:=vS S.ok.k S.bj;exact Ri<|codeAny_call_builtin aiz aiA<|(Rh KI<|R.chk _ t).here<|(Rh KI<|R.run _ t).here ⟨own,.refl,S,rfl⟩
noncomputable def br (p:Str×Str):CV:=.cB [.str p.1,.str p.2]
def bB (hs:List (Str×Str)):List ae:=[.bt [("_headers",.ab 2)],.bE 184 0,.list (hs.map br)]
theorem HJ:∀(hs:List (Str×Str)),CV.cV n (hs.map br)=true
 |[]=>rfl|x::hs=>by rw[eC,CV.uu,HJ hs];rfl
theorem uY:((bB hs).all λo=>o.lo 3)=true:=by have h1:=HJ (n:=3) hs;simp only [bB,bU,cG,ae.lo,h1];rfl
theorem na f (hs:List (Str×Str)):CV.gn f (hs.map br)=some (hs.map br):=Hn (λx=>rfl) hs
noncomputable def HK:List Nat:=[9,32,34,35,40,41,92,97]
def gN (i:Nat):Nat:=if i<8 then HK.getD i 0 else 200+i
def qC:List Str:=cQ "abcdefghijABCDEFGHIJzZ"
def DC:List Str:="y"::(aK 8).map λi=>⟨#[gN i]⟩
def bY (x:Str):Prop:=qC.contains x=true
def dH (x:Str):Prop:=DC.contains x=true
theorem uZ {x:Str}(h:bY x):bY (bZ x)∧pU (bZ x).length=false∧x.length<=1000000:=by have:=(by decide +kernel:(qC.all λx=>qC.contains (bZ x)&&(!pU (bZ x).length&&nA x.length 1000000))=true);have:=dI.mp this x (by simpa [bY] using h);rw[bz,bz,E0] at this;exact⟨this.1,this.2.1,lj this.2.2⟩
theorem aiB {x:Str}(h:dH x):x.length<=1000000:=by exact lj (dI.mp (by decide +kernel:(DC.all λx=>nA x.length 1000000)=true) x<|by simpa [dH] using h)
noncomputable def XA:Option xK->Bool
 |some (.done (.ret .none))=>true|_=>false
theorem aiC {o:Option xK}(h:XA o=true):o=some (.done (.ret .none)):=by
 cases o with
 |none=>exact nB h|some f=>cases f with
  |done f=>cases f with
   |ret v=>cases v<;>first|rfl|exact nB h
   |_=>exact nB h
  |_=>exact nB h
def Op (K:Frag)(S:Setting)(p:ai)(t:Tok)(x:Str):Bool:=(pR K S (checkBuiltinCall "re.Pattern.search" ⟨[.ref p,.str x t],[]⟩)).isSome&&XA (pR K S (Builtin.«re.Pattern.search» ⟨[.ref p,.str x t],[]⟩))
theorem XB {p:ai}{x:Str}(h:∀S t,Op X.K S p t x=true):HI p x:=by
 constructor<;>intro S t<;>have q:=(bz _ _).mp<|h S t
 ·obtain⟨u,e⟩:=Kk.mp q.1;exact e
 exact aiC q.2
theorem A9:wC 184:=Dv
theorem Oq:xJ X.K (.ref 184) "_headers"=some none∧takerIn X.K 184 "_headers"=some none:=hX▸⟨by kernel_rfl,by kernel_rfl⟩
theorem qD:pd 184 "_convert_string_type" 83 Ab Ct:=tA (by kernel_rfl) (by kernel_rfl) (by kernel_rfl) (iM (by kernel_rfl) (by kernel_rfl)<|by decide +kernel)
theorem aiD:∀st k x b,db Ct st [.ab k,.str x] [("name",.bool b)] [("self",.ab k),("value",.str x),("name",.bool b)] st:=λst k x b=>NM (uT:=[]) (qB:=[]) (λv1 v2 v3 S=>by kernel_rfl)<|λu u u u h=>h
theorem aiF:Oo 53:=⟨λS pl=>by kernel_rfl⟩
theorem aiG:∀x,bY x->HI 48 x:=λx hx=>XB λS t=>by rw[hX];exact dI.mp (by kernel_rfl) x (by simpa [bY] using hx)
theorem aiH:∀x,dH x->HI 53 x:=λx hx=>XB λS t=>by rw[hX];exact dI.mp (by kernel_rfl) x (by simpa [dH] using hx)
theorem XC {x:Str}(hx:if b then bY x else dH x):bM (d+2) (.aH 83) [.ab 1,.str x] [("name",.bool b)] (bB hs) (.str x) (bB hs):=by
 obtain⟨fr,B⟩:=(show ∃fr,aI d (da Ab.scope 3 none) Ab.body (bB hs++[.frame [("name",.bool b),("value",.str x),("self",.ab 1)]]) (.ret<|.str x) (bB hs++[fr]) from by
  cases b with
  |true=>exact⟨.frame [("name",.bool true),("value",.str x),("self",.ab 1),("regex",.aH 48)],aW (sc:=[.val<|.ty "str",.val<|.bool true,.cw,.cw,.bg (.bi "re.Pattern.search") [.aH 48],.val .none]) rfl (am (Xz<|aiG x hx)<|am gP<|am (Xy<|⟨λS pl=>by kernel_rfl⟩)<|am (ky rfl)<|am Ws<|am yn aX)⟩|false=>refine⟨.frame [("name",.bool false),("value",.str x),("self",.ab 1),("regex",.aH 53)],aW (sc:=[.val<|.ty "str",.val<|.bool true,.cw,.cw,.bg (.bi "re.Pattern.search") [.aH 53],.val .none]) rfl ?_⟩;exact am (Xz<|aiH x hx)<|am gP<|am (Xy aiF)<|am (ky rfl)<|am Ws<|am yn aX)
 exact qD.fn.code (tab:=none) (aiD _ 1 x b) (by cases b<;>kernel_rfl) nofun B (.inl rfl) (aG _) uY rfl
end
section
variable {d:Nat}
noncomputable def oa:Option (Str×Str)->List (Str×CV)
 |none=>[]|some (k,v)=>[("k",.str k),("v",.str v)]
def nb (dv:CV)(x:Str)(kv:Option (Str×Str)):ae:=.frame (("default",dv)::("name",.str x)::("self",.ab 1)::oa kv)
abbrev yW:aY:=da nL.scope 3 none
def eH (hs:List (Str×Str))(x:Str):Option Str:=(hs.find? λp=>d4 (bZ p.1) x).map (·.2)
theorem HP:rG d "_headers" (.ab 1) (bB hs++g) (.ab 2) (bB hs++g):=
 MR A9 rfl rfl rfl Oq.1 rfl rfl
theorem DF:gM d "_convert_string_type" (.ab 1) (bB hs++g) (.aH 83) [.ab 1]:=
 ta A9 rfl rfl rfl qD.find qD.ty
theorem DG {x:Str}(hx:if b then bY x else dH x):bk (d+2) (.aH 83) [.ab 1,.str x] [("name",.bool b)] (bB hs++g) (.str x) (bB hs++g):=
 (XC hx).call.wide rfl uY uY rfl rfl rfl rfl
theorem Os:(bB hs++g)[2]?=some (.list (hs.map br)):=rfl
theorem aiJ {x:Str}{p:Str×Str}:dj d yW (dc nL.body).1 (br p) (bB hs++[nb dv x kv]) (bB hs++[nb dv x (some p)]):=by obtain⟨k,v⟩:=p;cases kv with|none=>exact i4 (sc:=[]) (by rfl) aX|some q=>obtain⟨k',v'⟩:=q;exact i4 (sc:=[]) (by rfl) aX
theorem aiK {x k:Str}(u0:pU (bZ k).length=false):aI d yW (dc nL.body).2.2 (bB hs++[nb dv x (some (k,v))]) (if d4 (bZ k) x then .ret (.str v) else .next) (bB hs++[nb dv x (some (k,v))]):=by have lw:bk d (.bi "str.lower") [.str k] [] (bB hs++[nb dv x<|some (k,v)]) (.str<|bZ k) (bB hs++[nb dv x<|some (k,v)]):=Wr u0;generalize bZ k=y at lw ⊢;cases h:d4 y x with|true=>rw[if_pos rfl];exact aW (sc:=[.bg (.bi "str.lower") [.str k],.val<|.str y,.yes]) (by rfl) (am h<|am lw<|am gP<|am MO aX)|false=>rw[if_neg fL];exact aW (sc:=[.bg (.bi "str.lower") [.str k],.val<|.str y,.no]) (by rfl)<|am h<|am lw<|am gP<|am MO aX
noncomputable def XD:Option Str->cZ
 |some v=>.ret (.str v)|none=>.next
theorem aiL {x:Str}(u0:∀p∈hs,pU (bZ p.1).length=false) qs:∀kv,(∀p∈qs,p∈hs)->∃i9,fG d yW (dc nL.body).1 (dc nL.body).2.2 (λst=>st[2]?=some (.list (hs.map br))) (qs.map br) (bB hs++[nb dv x kv]) (XD (eH qs x)) (bB hs++[nb dv x i9]):=by
 induction qs with
 |nil=>exact λkv u=>⟨kv,.nil Os⟩|cons p qs ih=>
  intro kv hm;obtain⟨k,v⟩:=p;have T:=aiK (d:=d) (hs:=hs) (dv:=dv) (x:=x) (k:=k) (v:=v)<|u0 (k,v)<|hm (k,v)<|.head _;have A:=aiJ (d:=d) (hs:=hs) (dv:=dv) (x:=x) (kv:=kv) (p:=(k,v));cases h:d4 (bZ k) x with
  |true=>
   have e:eH ((k,v)::qs) x=some v:=by simp [eH,h]
   rw[h,if_pos rfl] at T;exact e▸⟨some (k,v),.ret Os A T⟩
  |false=>
   have e:eH ((k,v)::qs) x=eH qs x:=by simp [eH,h]
   obtain⟨i9,L⟩:=ih (some (k,v))<|λp hp=>hm p<|.tail _ hp;rw[h,if_neg fL] at T;exact e▸⟨i9,.cons Os A T (.inl rfl) L⟩
def lG (hs:List (Str×Str))(x:Str)(dv:CV):CV:=match eH hs (bZ x) with
 |some v=>.str v|none=>dv
theorem Ou {x:Str}(hd:dv.lo 3=true)(u0:∀p∈hs,pU (bZ p.1).length=false)(hl:pU (bZ x).length=false)(hx:bY (bZ x))(hb:db Cu (bB hs) args [] [("self",.ab 1),("name",.str x),("default",dv)] (bB hs))(Ot:dv.uw=false:=by rfl):bM (d+4) (.aH 131) args [] (bB hs) (lG hs x dv) (bB hs):=by
 obtain⟨fr,B⟩:=(show ∃fr,aI (d+2) yW nL.body (bB hs++[.frame [("default",dv),("name",.str x),("self",.ab 1)]]) (.ret<|lG hs x dv) (bB hs++[fr]) from by
  obtain⟨kv,L⟩:=aiL u0 hs none<|λu h=>h;have H1:aI (d+2) yW (nL.body.take 1) (bB hs++[.frame [("default",dv),("name",.str x),("self",.ab 1)]]) .next (bB hs++[nb dv (bZ x) none]):=
   aW (sc:=[.bg (.aH 83) [.ab 1],.bg (.bi "str.lower") [.str x],.val<|.str<|bZ x,.val<|.str<|bZ x]) (by rfl)
    (am (DG (b:=true) hx)<|am (cK qD.bj)<|am (Wr hl)<|am gP<|am MO<|am (DF) aX)
  have F:∀{t i:aq} {b:List bl} {p:Pos} {f:cZ},t=(dc nL.body).1->b=(dc nL.body).2.2->(∃q r,i=.Attribute (.Name "self" q) "_headers" r)->f=XD (eH hs<|bZ x)->
   dB (d+2) yW (.For t i b [] p) (bB hs++[nb dv (bZ x) none]) f (bB hs++[nb dv (bZ x) kv]):=by
   intro t i b p f h1 h2 ⟨q,r,h3⟩ h4;subst h1;subst h2;subst h3;subst h4;exact mq (rI 2<|hs.map br) rfl (dk (sc:=[.val<|.ab 2]) (by rfl)<|am (HP) aX) rfl L
  unfold lG;cases h:eH hs (bZ x) with
  |some v=>exact⟨_,jY 1 H1<|aW (sc:=[.iX (.ret<|.str v)<|bB hs++[nb dv (bZ x) kv]]) (by rfl)<|am (by exact F rfl rfl ⟨_,_,rfl⟩ (by rw[h];rfl)) aX⟩|none=>
   have R:dB (d+2) yW (.Return (some<|.Name "default"<|AT (yA 4 nL.body).e) (yA 4 nL.body).p) (bB hs++[nb dv (bZ x) kv]) (.ret dv) (bB hs++[nb dv (bZ x) kv]):=
    U2 (eu rfl rfl (by show(bif dv.uw then none else some dv)=some dv;rw[Ot];rfl))
   exact⟨_,jY 1 H1<|jY 1 (aW (sc:=[.iX .next (bB hs++[nb dv (bZ x) kv])]) rfl (am (by exact F rfl rfl ⟨_,_,rfl⟩ (by rw[h];rfl)) aX))<|U7 R (λh=>by cases h)<|λu=>⟨rfl,rfl⟩⟩)
 apply yO.fn.code hb (by kernel_rfl) (λq h=>by exact nS h) B (.inl rfl) (aG _) uY;unfold lG;split
 ·rfl
 exact hd
end
section
variable {d:Nat}
abbrev A':aY:=da xQ.scope 4 none
noncomputable def og (n v:Str)(r:List (Str×CV)):ae:=.frame (("_params",.ab 3)::("_value",.str v)::("_name",.str n)::("self",.ab 1)::r)
theorem XE:ae.list (hs.map br++[.cB [.str n,.str v]])=.list ((hs++[(n,v)]).map br):=by rw[fU];rfl
end
section
variable {d:Nat}
theorem aiO (hn:bY n)(hv:dH v)(hl:hs.length<=1000000)(uB:v.length<=1000000)(hb:db Cv (bB hs) [.ab 1,.str n,.str v] [] [("self",.ab 1),("_name",.str n),("_value",.str v),("_params",.ab 3)] (bB hs++[.iz])):bM (d+4) (.aH 181) [.ab 1,.str n,.str v] [] (bB hs) .none (bB (hs++[(n,v)])):=by
 obtain⟨g,B⟩:=(show ∃g,aI (d+2) A' xQ.body (bB hs++[.iz]++[og n v []]) .next (bB (hs++[(n,v)])++g) from by
  have H1:aI (d+2) A' (xQ.body.take 2) (bB hs++[.iz]++[og n v []]) .next (bB hs++[.iz,og n v [("parts",.ab 5)],.list [.str v]]):=by apply aW (sc:=[.val<|.bool true,.cw,.bg (.aH 83) [.ab 1],.val<|.str v,.bg (.bi "list.append") [.ab 5],.aE .none<|bB hs++[.iz,og n v [("parts",.ab 5)],.list [.str v]]]) (by rfl);exact am (mX (st:=bB hs++[.iz,og n v [("parts",.ab 5)],.list []]) (k:=5) (xs:=[]) rfl (by decide))<|am gP<|am (jX rfl)<|am (DG hv)<|am (cK qD.bj)<|am (DF)<|am (yq (r:=false) rfl)<|am (dQ _) aX
  have F:∀{t i:aq} {b:List bl} {p:Pos} {xk xv:Str} {pk pv pt py mn tn:Pos} {x1:Nat},t=.Tuple [.Name xk pk,.Name xv pv] x1 pt->i=.Call (.Attribute (.Name "_params" py) "items" mn) [] [] tn->A'.scope.names.lookup xk=some .local->A'.scope.names.lookup xv=some .local->(mn.endLine==tn.line)=true->
   dB (d+2) A' (.For t i b [] p) (bB hs++[.iz,og n v [("parts",.ab 5)],.list [.str v]]) .next (bB hs++[.iz,og n v [("parts",.ab 5)],.list [.str v]]):=by
   intro t i b p xk xv pk pv pt py mn tn x1 h1 h2 h3 h4 h5;subst h1;subst h2;exact ag9 (k:=3) (vars:=("_params",.ab 3)::("_value",.str v)::("_name",.str n)::("self",.ab 1)::[("parts",.ab 5)]) rfl (by rfl) (by decide +kernel) (by decide +kernel) rfl h3 h4 h5
  have H2:aI (d+2) A' ((xQ.body.drop 2).take 1) (bB hs++[.iz,og n v [("parts",.ab 5)],.list [.str v]]) .next (bB hs++[.iz,og n v [("parts",.ab 5)],.list [.str v]]):=by refine aW (sc:=[.iX .next (bB hs++[.iz,og n v [("parts",.ab 5)],.list [.str v]])]) (by rfl)<|am ?_ aX;exact F rfl rfl rfl rfl rfl
  refine⟨[.iz,og n v [("parts",.ab 5)],.list [.str v]],jY 2 H1<|jY 1 H2 ?_⟩;apply aW (sc:=[.val<|.ab 2,.bg (.bi "list.append") [.ab 2],.bg (.aH 83) [.ab 1],.val<|.str n,.bg (.bi "str.join") [.str "; "],.val<|.str v,.aE .none<|bB (hs++[(n,v)])++[.iz,og n v [("parts",.ab 5)],.list [.str v]]]) rfl;have ap:=mX (d:=d+2) (st:=bB hs++[.iz,og n v [("parts",.ab 5)],.list [.str v]]) (k:=2) (v:=.cB [.str n,.str v]) rfl (by rw[aV];exact KL hl);rw[XE] at ap;have jn:=AR (d:=d+2) (st:=bB hs++[.iz,og n v [("parts",.ab 5)],.list [.str v]]) (k:=5) (x:="; ") (ss:=[v]) rfl (by
   unfold zU pU;have:("; ").length=2:=by decide +kernel
   simp only [E0,decide_eq_false_iff_not,Rw];show _<=2^24;exact ah [_] (.le .o (.n 1000000)<|.gl (.a (.a .k .o)<|.n 2)<|.n<|2^24) rfl uB)
  exact am ap<|am gP<|am wM<|am jn<|am gP<|am yx<|am (DG hn)<|am (cK qD.bj)<|am (DF)<|am (jX rfl)<|am (HP) aX)
 exact NS.fn.code (tab:=none) (st:=bB hs) hb (by kernel_rfl) nofun B (.inr ⟨rfl,rfl⟩) (aG _) uY rfl
theorem aiP (hb:∀st k,db FM st [.ab k] [] [("self",.ab k)] st)(hl:hs.length<=1000000):bM (d+2) (.aH 148) [.ab 1] [] (bB hs) (.ab 3) (bB hs++[.list (hs.map br)]):=by
 have sl:=Dd (d:=d) (e:=.Slice none none none default) (st:=bB hs++[ae.frame [("self",.ab 1)]]) (k:=2) (xs:=hs.map br) (a:=.none) (b:=.none) (z:=.none) rfl rfl rfl rfl (λh=>by exact nS h) (by rw[aV];show _<=2^24;exact FH hl);have e:e7 (hs.map br) none none none=hs.map br:=by rw[Hf];simp only [eZ,i5,Option.elim,sQ,vY,B7]
 rw[e] at sl;have B:aI d (da Cn.scope 3 none) Cn.body (bB hs++[.frame [("self",.ab 1)]]) (.ret<|.ab 4) (bB hs++[.frame [("self",.ab 1)],.list<|hs.map br]):=by refine aW (sc:=[.val<|.ab 2,.aE (.ab 4)<|bB hs++[.frame [("self",.ab 1)],.list<|hs.map br]]) rfl ?_;exact am (λA own s x y q S ra rb=>sl A own s x y q S ra rb)<|am (HP) aX
 have c:=NR.fn.code (tab:=none) (ag:=bB hs++[ae.frame [("self",.ab 1)],.list<|hs.map br]) (hb _ 1) (by kernel_rfl) nofun (by rwa[dM]) (.inl rfl) (by show 3<=5;decide) (by show((bB hs++[ae.frame [("self",.ab 1)],.list<|hs.map br]).all λo=>o.lo 5)=true;simp only [bB,fM,xL,bU,cG,ae.lo,HJ (n:=5) hs];rfl) rfl;exact c.qr<|yk [0,1,2,4] (by decide) (cq rfl (cq rfl (cq (fz<|na _ _)<|cq (fz<|na _ _) iF))) rfl rfl
def tG (hs:List (Str×Str))(n v:Str):List (Str×Str):=match eH hs (bZ n) with
 |some x=>hs|none=>hs++[(n,v)]
def tH (hs:List (Str×Str))(n v:Str):Str:=match eH hs (bZ n) with
 |some x=>x|none=>v
theorem aiQ (u0:∀p∈hs,pU (bZ p.1).length=false)(hl:pU (bZ n).length=false)(hx:bY (bZ n))(hn:bY n)(hv:dH v)(bJ:hs.length<=1000000)(hbG:db Cu (bB hs) [.ab 1,.str n] [] [("self",.ab 1),("name",.str n),("default",.none)] (bB hs))(hb:db FN (bB hs) [.ab 1,.str n,.str v] [] [("self",.ab 1),("name",.str n),("value",.str v)] (bB hs)):bM (d+6) (.aH 174) [.ab 1,.str n,.str v] [] (bB hs) (.str (tH hs n v)) (bB (tG hs n v)):=by
 have mg:gM (d+4) "get" (.ab 1) (bB hs++[.frame [("value",.str v),("name",.str n),("self",.ab 1)]]) (.aH 131) [.ab 1]:=ta (C:=184) (dd:=0) A9 rfl rfl rfl yO.find yO.ty;have cg:=(Ou (d:=d) rfl u0 hl hx hbG).call.wide (g:=[.frame [("value",.str v),("name",.str n),("self",.ab 1)]]) rfl uY uY rfl rfl rfl (by unfold lG;split<;>rfl);unfold lG at cg;unfold tG tH;cases h:eH hs (bZ n) with
 |some x=>
  rw[h] at cg;have B:aI (d+4) (da uj.scope 3 none) uj.body (bB hs++[.frame [("value",.str v),("name",.str n),("self",.ab 1)]]) (.ret<|.str x) (bB hs++[.frame [("value",.str v),("name",.str n),("self",.ab 1),("result",.str x)]]):=
   aW (sc:=[.bg (.aH 131) [.ab 1],.val<|.str x,.val<|.bool false]) (by rfl) (am (ky rfl)<|am cg<|am (cK yO.bj)<|am mg aX)
  exact Hq.fn.code hb (by kernel_rfl) (λq h=>by exact nS h) B (.inl rfl) (aG _) uY rfl
 |none=>
  rw[h] at cg;have ap:=mX (d:=d+4) (st:=bB hs++[ae.frame [("value",.str v),("name",.str n),("self",.ab 1),("result",.none)]]) (k:=2) (v:=.cB [.str n,.str v]) rfl (by rw[aV];show _<2^24;exact KL bJ);rw[XE] at ap;have H1:aI (d+4) (da uj.scope 3 none) (uj.body.take 1) (bB hs++[.frame [("value",.str v),("name",.str n),("self",.ab 1)]]) .next (bB hs++[.frame [("value",.str v),("name",.str n),("self",.ab 1),("result",.none)]]):=
   aW (sc:=[.bg (.aH 131) [.ab 1],.val .none]) (by rfl') (am cg<|am (cK yO.bj)<|am mg aX)
  have B:aI (d+4) (da uj.scope 3 none) uj.body (bB hs++[.frame [("value",.str v),("name",.str n),("self",.ab 1)]]) (.ret<|.str v) (bB (hs++[(n,v)])++[.frame [("value",.str v),("name",.str n),("self",.ab 1),("result",.none)]]):=by refine jY 1 H1<|aW (sc:=[.val<|.bool true,.cw,.val<|.ab 2,.bg (.bi "list.append") [.ab 2],.bg (.aH 83) [.ab 1],.val<|.str n,.bg (.aH 83) [.ab 1],.val<|.str v,.aE .none<|bB (hs++[(n,v)])++[.frame [("value",.str v),("name",.str n),("self",.ab 1),("result",.none)]]]) rfl ?_;apply am ap;apply am gP;refine am wM ?_;refine am (DG hv) ?_;apply am<|cK qD.bj;apply am<|DF;refine am (DG hn) ?_;refine am (cK qD.bj) ?_;refine am (DF) ?_;refine am (jX rfl) ?_;refine am (HP) ?_;exact am (ky rfl) aX
  exact Hq.fn.code hb (by kernel_rfl) (λq h=>by exact nS h) B (.inl rfl) (aG _) uY rfl
end
section
variable {d:Nat}
def Ba:aq×aq×List bl:=dc (sp (g7 uk.body 3)).b
theorem aiT (hm:makesIn X.K 184=true)(hb:db Cs [.bt [],.bE 184 0] [.ab 1] [] [("self",.ab 1),("headers",.none)] [.bt [],.bE 184 0]):bM (d+3) (.aH 184) [] [] [] (.ab 1) (bB []):=by
 have c:=A8.fn.code (d:=d) (tab:=none) (ag:=[.bt [("_headers",.ab 3)],.bE 184 0,.frame [("headers",.ab 3),("self",.ab 1)],.list []]) hb (by kernel_rfl) nofun (by rw[dM];exact (by
  have F:∀{t i:aq} {b:List bl} {p:Pos},(∃q,i=.Name "headers" q)->dB d (da uk.scope 2 none) (.For t i b [] p) [.bt [("_headers",.ab 3)],.bE 184 0,.frame [("headers",.ab 3),("self",.ab 1)],.list []] .next [.bt [("_headers",.ab 3)],.bE 184 0,.frame [("headers",.ab 3),("self",.ab 1)],.list []]:=by intro t i b p ⟨q,h⟩;subst h;exact mq (rI 3 []) rfl (dk (sc:=[]) rfl aX) rfl (.nil rfl)
  apply aW (sc:=[.val<|.bool false,.cw,.val<|.ty "list",.val<|.bool false,.cw,.aE .none [.bt [("_headers",.ab 3)],.bE 184 0,.frame [("headers",.ab 3),("self",.ab 1)],.list []],.cw,.iX .next [.bt [("_headers",.ab 3)],.bE 184 0,.frame [("headers",.ab 3),("self",.ab 1)],.list []]]) rfl;refine am (by exact F ⟨_,rfl⟩)<|am ?_<|am (yq (r:=true) rfl)<|am (Wt rfl)<|am yn<|am (dQ _)<|am (yq (r:=true) rfl) aX;exact GZ (dd:=0) (es:=[]) A9 rfl rfl Oq.2 (by decide))) (.inr ⟨rfl,rfl⟩) (show 2<=4 by decide) rfl rfl
 exact(MS hm A8.find A8.ty c).qr<|yk [0,1,3] (by decide) rfl rfl rfl
def oh (hs:List (Str×Str))(r:List (Str×CV)):List ae:=[.list (hs.map br),.bt [("_headers",.ab 0)],.bE 184 1,.frame (("headers",.ab 0)::("self",.ab 2)::r)]
abbrev DH:aY:=da uk.scope 3 none
theorem aiU {p:Str×Str}(h1:bY p.1)(h2:dH p.2):aI (d+2) DH Ba.2.2 (oh hs (oa (some p))) .next (oh hs (oa (some p))):=by
 obtain⟨k,v⟩:=p;have mt:gM (d+2) "_convert_string_type" (.ab 2) (oh hs<|oa<|some (k,v)) (.aH 83) [.ab 2]:=ta A9 rfl rfl rfl qD.find qD.ty;have cl:∀{x:Str} {b:Bool},(if b then bY x else dH x)->bk (d+2) (.aH 83) [.ab 2,.str x] [("name",.bool b)] (oh hs<|oa<|some (k,v)) (.str x) (oh hs<|oa<|some (k,v)):=λ{x b} hx=>
  (XC hx).call.at [1,2,0] (by decide) (cq rfl (cq rfl (cq (fz<|na _ _) iF))) rfl rfl rfl (cq (fz<|na _ _)<|cq rfl (cq rfl (cq rfl iF))) rfl
 apply aW (sc:=[.bg (.aH 83) [.ab 2],.val<|.str k,.bg (.aH 83) [.ab 2],.val<|.str v]) (by rfl);exact am (cl h2)<|am (cK qD.bj)<|am mt<|am (cl h1)<|am (cK qD.bj)<|am mt aX
theorem aiW (qs:List (Str×Str)):∀kv,(∀p∈qs,bY p.1∧dH p.2)->∃i9,fG (d+2) DH Ba.1 Ba.2.2 (λst=>st[0]?=some (.list (hs.map br))) (qs.map br) (oh hs (oa kv)) .next (oh hs (oa i9)):=by
 induction qs with
 |nil=>exact λkv x=>⟨kv,.nil rfl⟩|cons p qs ih=>
  intro kv hm;obtain⟨i9,L⟩:=ih (some p) λq hq=>hm q<|.tail _ hq;exact⟨i9,.cons rfl ((by
   obtain⟨k,v⟩:=p;cases kv with
   |none=>exact i4 (sc:=[]) rfl aX|some q=>obtain⟨k',v'⟩:=q;exact i4 (sc:=[]) rfl aX)) (aiU (hm p<|.head _).1 (hm p<|.head _).2) (.inl rfl) L⟩
theorem aiX (hm:makesIn X.K 184=true){hs:List (Str×Str)}(mZ:∀p∈hs,bY p.1∧dH p.2)(hb:db Cs [.list (hs.map br),.bt [],.bE 184 1] [.ab 2,.ab 0] [] [("self",.ab 2),("headers",.ab 0)] [.list (hs.map br),.bt [],.bE 184 1]):bM (d+5) (.aH 184) [.ab 0] [] [.list (hs.map br)] (.ab 2) [.list (hs.map br),.bt [("_headers",.ab 0)],.bE 184 1]:=by
 obtain⟨kv,L⟩:=aiW (d:=d) (hs:=hs) hs none mZ;have F:∀{t i:aq} {b:List bl} {p:Pos},t=Ba.1->b=Ba.2.2->(∃q,i=.Name "headers" q)->dB (d+2) DH (.For t i b [] p) (oh hs []) .next (oh hs<|oa kv):=by intro t i b p h1 h2 ⟨q,h3⟩;subst h1;subst h2;subst h3;exact mq (rI 0<|hs.map br) rfl (dk (sc:=[]) rfl aX) rfl L
 have B:aI (d+2) DH uk.body [.list<|hs.map br,.bt [],.bE 184 1,.frame [("headers",.ab 0),("self",.ab 2)]] .next (oh hs<|oa kv):=by refine aW (sc:=[.val<|.bool true,.cw,.val<|.ty "list",.val<|.bool false,.cw,.aE .none<|oh hs [],.cw,.iX .next (oh hs<|oa kv)]) (by rfl') ?_;refine am (by with_unfolding_all exact F rfl rfl ⟨_,rfl⟩)<|am ?_<|am (yq (r:=true) rfl)<|am (Wt rfl)<|am yn<|am (yq (r:=false) rfl) aX;exact GZ (C:=184) (k:=2) (dd:=1) (es:=[]) A9 rfl rfl Oq.2 (by decide)
 have h1:=HJ (n:=3) hs;have c:=A8.fn.code (tab:=none) (st:=[.list<|hs.map br,.bt [],.bE 184 1]) (ag:=[.list<|hs.map br,.bt [("_headers",.ab 0)],.bE 184 1]) (g:=[.frame<|("headers",.ab 0)::("self",.ab 2)::oa kv]) hb (by kernel_rfl) nofun B (.inr ⟨rfl,rfl⟩) (aG _) (by show(([ae.list<|hs.map br,.bt [("_headers",.ab 0)],.bE 184 1]).all λo=>o.lo 3)=true;simp only [bU,cG,ae.lo,h1];rfl) rfl;exact MS hm A8.find A8.ty c
end
section
variable {d:Nat}{c:aY}
noncomputable def fj (ns:List Str)(vars:List (Str×CV)):List (Str×CV):=ns.map (λn=>(n,.any))++vars.filter (λp=>!ns.contains p.1)
theorem aiY vars  x:∀ns,(fj ns vars).lookup x=some .any∨(fj ns vars).lookup x=vars.lookup x:=λns=>by
 have key:∀(Bb:List Str) r,((Bb.map λn=>(n,CV.any))++r).lookup x=some .any∨(x∉Bb∧((Bb.map λn=>(n,CV.any))++r).lookup x=r.lookup x):=λBb r=>by
  induction Bb with
  |nil=>exact .inr ⟨by simp,rfl⟩|cons n Bb ih=>
   by_cases h:x=n
   ·subst h;exact .inl (by simp [BZ])
   have hb:(x==n)=false:=by simpa using h
   rcases ih with e|⟨e1,e2⟩
   ·exact .inl (by simpa [BZ,hb] using e)
   exact .inr ⟨by simp [h,e1],by simpa [BZ,hb] using e2⟩
 rcases key ns (vars.filter<|λp=>!ns.contains p.1) with e|⟨e1,e2⟩
 ·exact .inl e
 refine .inr<|e2.trans ?_;clear key e2;induction vars with
 |nil=>rfl|cons p vars ih=>
  obtain⟨y,v⟩:=p;by_cases h:x=y
  ·subst h;rw[sR,if_pos<|by simpa using e1];simp [BZ]
  have hb:(x==y)=false:=by simpa using h
  rw[sR];split
  ·simpa [BZ,hb] using ih
  simpa [BZ,hb] using ih
section
variable {own:List ai}{s:az}{st ag:List ae}{i:Nat}{vars:List (Str×CV)}
theorem Sx.fj (S:Sx own st s)(hi:st[i]?=some (.frame vars)) ns:Sx own (st.set i (.frame (fj ns vars))) s:=by
 refine⟨S.bj,by rw[lY];exact S.len,S.kj,S.fresh,λj o a e1 e2=>?_,S.cU,S.bare,S.tk,S.ok⟩;by_cases ii:i=j
 ·subst ii;rw[vM (bV.mp hi).1] at e1;obtain rfl:=dE e1;obtain⟨m,e,q⟩:=S.iV i _ a hi e2;refine⟨m,e,λx=>?_⟩;rcases aiY vars x ns with h|h
  ·exact .inl h
  rw[h];exact q x
 rw[lZ ii] at e1;exact S.iV j o a e1 e2
theorem aI.fj (h:aI d c b st f ag) ns (hi:ag[i]?=some (.frame vars)):aI d c b st f (ag.set i (.frame (Internal.fj ns vars))):=λA own s env q S R=>
 bC (h A own s env q S R) (λfl s₁ ⟨aO,bK,bq,r⟩=>⟨aO,bK,bq.fj hi ns,r⟩) λu u x=>x
theorem dB.pre ns (hi:st[i]?=some (.frame vars))(h:dB d c b (st.set i (.frame (Internal.fj ns vars))) f ag):dB d c b st f ag:=λA own s env q S R=>h A own s env q (S.fj hi ns) R
end
section
variable {st:List ae}{k:Nat}{xs:List CV}
theorem aF.set {y:an}(r:RelV own h v y):∀{xs} {vs} j,aF own h xs vs->aF own h (xs.set j v) (vs.set j y)
 |[],u,o,e=>by subst e;rfl|x::xs,u,0,⟨w,ws,e,h1,h2⟩=>by subst e;exact⟨y,ws,rfl,r,h2⟩|x::xs,u,j+1,⟨w,ws,e,h1,h2⟩=>by subst e;exact⟨w,ws.set j y,rfl,h1,aF.set r j h2⟩
theorem aiZ {prog:q9}{w:pM}{A:Around}{E:an->az->Prop}{s:az}{l:ai}{vs:Array an}{n:Nat}{k:Int}{t:Tok}{v:an}{Q:Unit->az->Prop}(ho:s.heap.get? l=some {cls:=.type "list",data:=.seq vs n}) (h0:0<=k)(DI:k<2^63)(hn:k<vs.size)(hQ:Q () {s with heap:=s.heap.update l (f8 (·.setIfInBounds k.toNat v))}):be (aQ prog w) A (setItem (.ref l) (.int k t) v) Q E s:=by
 have hl:s.heap.IsList l vs:=⟨_,ho,rfl,n,rfl⟩;unfold setItem;try with_reducible refine vN ?_
 skip;refine aB<|wpAny_sequenceKey hl.typeIs rfl ?_;refine aB (zW hl.typeIs slot_list_setitem
  (vX slot_list_setitem hl.typeIs entry_list_setitem ?_<|PySem.F.args_list_setitem_3 _ _ _))
 show be _ _ (Builtin.List.listSubscript? (.int k t)>>=_) _ _ s;refine aB<|wpAny_listSubscript_int (fitsIndex_of h0 DI) ?_;obtain⟨j,rfl⟩:=Int.eq_ofNat_of_zero_le h0;have hj:j<vs.size:=ah [_,_] (.c 1 0 (.it (.c .o)<|.c .i)<|.gt .o .i) rfl hn;refine aB<|aB<|wpAny_seqItemAt ho rfl (bH ?_);rw[Array.getElem?_eq_getElem hj];refine aB<|wpAny_setSeqItemAt ho rfl ?_;first
  |exact aB (bH<|bH ⟨.none,rfl,bH hQ⟩)|exact bH ⟨.none,rfl,bH hQ⟩
theorem Ov {i:Int}{j:Nat}(hk:st[k]?=some (.list xs))(hi:i=(j:Int))(hj:j<xs.length)(hb:xs.length<2^40):Gg d (.ab k) (.int i) v st (st.set k (.list (xs.set j v))):=λA own s x kx y q S fQ cx di=>by
 subst hi;obtain⟨a,ha,rfl⟩:=fQ;obtain⟨t,rfl⟩:=cx;obtain⟨a',b8,vs,n,ho,hr⟩:=S.bD hk;rw[ha] at b8;obtain rfl:=dE b8;have DJ:j<vs.toArray.size:=by rwa[ig,<-(aF.length hr)]
 have hL:s.heap.IsList a vs.toArray:=⟨_,ho,rfl,n,rfl⟩;obtain⟨E,S'⟩:=S.AN (f:=(·.setIfInBounds j y)) ha ho (λav h' fX g=>by rw[Array.toList_setIfInBounds];exact aF.set (di.aM g) j fX) hr;exact aiZ ho (KC) (ah [_,_] (.lt .o (.n<|2^40)<|.lt .i .o<|.g 1 0<|.it (.c .i)<|.n<|2^63) rfl hb hj) (ah [_,_] (.lt .o .i<|.g 1 0<|.it (.c .o)<|.c .i) rfl DJ) ⟨own,E,S'⟩
theorem XF {j:Nat}(hk:st[k]?=some (.list xs))(hj:st[j]?=some (.list ys))(bn:xs.length+ys.length<=2^20):bk d (.bi "list.extend") [.ab k,.ab j] [] st .none (st.set k (.list (xs++ys))):=uG λA own s y z q S ry rz=>by obtain⟨a,vs,n,rfl,ha,ho,hr,hl⟩:=S.kY hk ry;obtain⟨b,hb,rfl⟩:=rz;obtain⟨b',oX,ws,m,gO,fX⟩:=S.bD hj;rw[hb] at oX;obtain rfl:=dE oX;have hl:=aF.length hr;have nP:=aF.length fX;have Ow:cX=2^24:=rfl;refine vU PySem.F.slot_list_extend ⟨_,ho,rfl⟩ PySem.F.entry_list_extend (PySem.F.args_list_extend_2 _ _) (PySem.AutoSeq1.list_extend_list_list_0 a vs.toArray n b ws.toArray m (by rw[ig,ig,Builtin.List.listTooLong,<-hl,<-nP,Ow,bz,decide_eq_true_eq];lia) (ig▸hl▸Ow▸ah [_,_] (.le (.a .o .i) (.n<|2^20)<|.gl .o<|.n<|2^24) rfl bn)<|by rw[ig,ig,<-hl,<-nP,Ow];exact ah [_,_] (.le .o (.n<|2^20)<|.gl .o<|.a (.n<|2^24) .i) rfl bn) ⟨ho,gO,?_⟩;obtain⟨E,S'⟩:=S.AN (f:=λx=>x++ws.toArray) ha ho (λav h' ai0 g=>by rw[z3];exact aF.append ai0<|aF.aM g _ fX) hr;exact⟨own,E,S',rfl⟩
end
end
section
variable {d:Nat}
noncomputable def qE (lt:Nat->Nat->Bool)(n:Nat):KasT α->Option α
 |.ret a=>some a|.ask i j k=>if(decide (i<n)&&decide (j<n))=true then qE lt n (k (lt i j)) else none
theorem Ox {lt:Nat->Nat->Bool}{i j:Nat}{k:Bool->KasT α}:qE lt n (.ask i j k)=if(decide (i<n)&&decide (j<n))=true then qE lt n (k (lt i j)) else none:=rfl
theorem Oy {lt:Nat->Nat->Bool}(hc:∀i j (C:Bool->az->Prop),i<n->j<n->C (lt i j) s->XG i j C s):∀t {a} {Q:α->az->Prop},qE lt n t=some a->Q a s->t.kasWp XG Q s
 |.ret x,u,o,e,h=>by obtain rfl:=dE e;exact h|.ask i j k,a,Q,e,h=>by
  rw[Ox] at e;by_cases ii:(decide (i<n)&&decide (j<n))=true
  ·rw[if_pos ii] at e;rw[bz,decide_eq_true_eq,decide_eq_true_eq] at ii;exact hc i j _ ii.1 ii.2<|Oy hc (k<|lt i j) e h
  rw[if_neg ii] at e;exact nS e
noncomputable def lH (p q:Int×Int):Bool:=if p.1==q.1 then(if p.2==q.2 then false else decide (p.2<q.2)) else decide (p.1<q.1)
noncomputable def qF (p:Int×Int):CV:=.cB [.int p.1,.int p.2]
def yX (ps:List (Int×Int)):Option (List Nat):=(qE (λi j=>lH (ps.getD i (0,0)) (ps.getD j (0,0))) ps.length (xM ps.length)).map (·.toList)
def DK (h:bf)(p:Int×Int)(v:an):Prop:=∃a n t u,v=.ref a∧h.get? a=some {cls:=.type "tuple",data:=.seq #[.int p.1 t,.int p.2 u] n}
noncomputable def tI (h:bf):List (Int×Int)->List an->Prop
 |[],[]=>True|p::ps,v::vs=>DK h p v∧tI h ps vs|x,u=>False
theorem HQ:∀{ps} {vs},aF own h (ps.map qF) vs->tI h ps vs
 |[],o,e=>by subst e;trivial|p::ps,o,⟨v,r,e,h1,h2⟩=>by subst e;exact⟨(by obtain⟨a,vs,n,rfl,_,_,ho,hr⟩:=h1;obtain⟨x,_,rfl,⟨t,rfl⟩,y,_,rfl,⟨u,rfl⟩,hn⟩:=hr;subst hn;exact⟨a,n,t,u,rfl,ho⟩),HQ h2⟩
theorem tI.len:∀{ps} {vs},tI h ps vs->vs.length=ps.length
 |[],[],x=>rfl|[],x::u,e=>e.elim|x::u,[],e=>e.elim|x::u,o::z,e=>by rw[dO,dO,e.2.len]
theorem tI.get:∀{ps} {vs} i,tI h ps vs->i<ps.length->DK h (ps.getD i (0,0)) (vs.getD i .none)
 |[],x,i,u,hi=>absurd hi (zY _)|x::u,[],o,e,z=>e.elim|x::u,o::z,0,e,w=>e.1|x::ps,u::vs,i+1,e,hi=>by exact e.2.get i<|z5 hi
theorem tI.XH:∀{ps} {vs},tI h ps vs->∃fs,KatTups h vs fs∧fs.length=ps.length∧∀v∈fs,∃i t,v=an.int i t
 |[],[],o=>⟨[],trivial,rfl,λx h=>nomatch h⟩|[],o::z,e=>e.elim|o::z,[],e=>e.elim|p::o,z::w,⟨⟨a,n,t,u,e1,e2⟩,r⟩=>by
  obtain⟨fs,k,l,q⟩:=r.XH;subst e1;exact⟨.int p.1 t::fs,KatTups.cons e2 rfl rfl rfl k,by simp [l],λv hv=>by
   rcases pO.mp hv with rfl|hv
   ·exact⟨_,_,rfl⟩
   exact q v hv⟩
section
variable {prog:q9}{w:pM}{A:Around}{s:az}
theorem XI {p:Int×Int}{x y:an}(hx:DK s.heap p x)(hy:DK s.heap q y){E:an->az->Prop}(h:C (lH p q) s):be (aQ prog w) A (keyLt' (tuples' true) x y) C E s:=by
 obtain⟨a,n,t,u,rfl,ho⟩:=hx;obtain⟨b,m,t',u',rfl,gO⟩:=hy;apply kat_lt ho rfl gO rfl;unfold lH at h;refine kat_cons<|wpAny_eqBool_int<|kat_go (λe=>kat_yes ?_) λe=>kat_no ?_
 ·rw[if_pos e] at h;refine kat_cons<|wpAny_eqBool_int<|kat_go (λe'=>kat_yes<|kat_nil<|by rw[if_pos e'] at h;exact h) λe'=>kat_no ?_;rw[if_neg<|by rw[e'];exact fL] at h;exact kat_one _ _<|wpAny_lt_int h
 rw[if_neg<|by rw[e];exact fL] at h;exact oneLt_int h
theorem XJ (h:tI s.heap ps vs)(cz:0<ps.length){E:an->az->Prop}(hQ:Q (tuples' true) s):be (aQ prog w) A (keyKind' vs.toArray) Q E s:=by obtain⟨fs,k,l,q⟩:=h.XH;refine kat_kind (T:=.type "int") k (o1 cz l) (λv hv=>?_) rfl hQ;obtain⟨i,t,rfl⟩:=q v hv;exact Rq rfl
end
noncomputable def Oz (h:bf)(L:ai):List (ai×Obj):=(aK h.objs.size).filterMap λa=>if a=L then none else(h.get? a).map λo=>(a,o)
theorem DL {o:Obj}:(a,o)∈Oz h L↔a≠L∧h.get? a=some o:=by
 unfold Oz;rw[E7];constructor
 ·rintro ⟨b,hb,e⟩;split at e
  ·exact nS e
  rename_i hn;cases hg:h.get? b with|none=>rw[hg] at e;exact nS e|some o'=>rw[hg] at e;cases e;exact⟨hn,hg⟩
 rintro ⟨hn,hg⟩;exact⟨a,gz.mpr<|sE hg,by rw[if_neg hn,hg];rfl⟩
section
variable {own:List ai}{s:az}{st:List ae}{fi:Nat}{vars:List (Str×CV)}{L D:ai}{h':bf}{m:Str->Option an}{ys:List CV}{out:List an}{n:Nat}
theorem Sx.ai2 (S:Sx own st s)(hf:st[fi]?=some (.frame vars))(hL:own[fi]?=some L)(hm:∀x,uo own s.heap (vars.lookup x) (m x))(hn:h'.Ns L m)(hk:∀b o,b≠L->s.heap.get? b=some o->h'.get? b=some o)(hD:s.heap.get? D=none) (hd:h'.get? D=some {cls:=.type "list",data:=.seq out.toArray n})(hr:aF own s.heap ys out){t:Tok}(ht:t≠0):a9 own s (own++[D]) {s with heap:=h',toks:=t}∧Sx (own++[D]) (st++[.list ys]) {s with heap:=h',toks:=t}:=by
 have DM:=c8 hL;have ne:∀b,b∉own->b≠L:=λb hb e=>hb<|e▸DM;have g:=Li (λb o e u hb u=>hk b o (ne b hb) e)<|FW hD;refine⟨⟨⟨[D],rfl⟩,λb hb=>(f7.mp hb).imp id λq=>by rw[gV.mp q];exact hD,λb o e hb u=>hk b o (ne b hb) e,λq hq o e=>⟨o,hk q o (λz=>(S.fresh L DM).2<|z▸hq) e⟩,.of rfl rfl⟩,
  S.CE (S.jO hD) ⟨S.ut hD,S.mf hD⟩ (S.CC (S.fresh L DM).1 hk) (λi o b e1 e2 r=>?_) ⟨out,n,hd,aF.aM g _ hr⟩ (S.FX (S.fresh L DM).2 (λo e v=>S.rC e v DM) hk) ht⟩
 by_cases ii:i=fi
 ·subst ii;obtain rfl:=dE<|hL.symm.trans e2;obtain rfl:=dE<|hf.symm.trans e1;exact⟨m,hn,λx=>(hm x).aM g⟩
 exact r.CD g hk<|S.ne e2 hL ii
end
theorem aF.eW:∀{xs} {vs} (js:List Nat),aF own h xs vs->(∀j∈js,j<xs.length)->aF own h (js.map λj=>xs.getD j .none) (js.map λj=>vs.getD j .none)
 |xs,vs,[],u,o=>rfl|xs,vs,j::js,r,h=>by obtain⟨v,e,rv⟩:=aF.get (x:=xs.getD j .none) (i:=j) r (by simp [h j<|.head _]);exact⟨vs.getD j .none,_,rfl,ed▸e▸rv,aF.eW js r λk hk=>h k<|.tail _ hk⟩
theorem ai3 {st:List ae}{k fi:Nat}{vars:List (Str×CV)}{ps:List (Int×Int)}{js:List Nat}(hk:st[k]?=some (.list (ps.map qF)))(hf:st[fi]?=some (.frame vars))(h2:2<=ps.length)(oj:ps.length<64)(hj:yX ps=some js)(DN:∀j∈js,j<ps.length):bk d (.bi "sorted") [.ab k] [] st (.ab st.length) (st++[.list (js.map λj=>(ps.map qF).getD j .none)]):=wy λA own s y q S ry=>by
 obtain⟨a,vs,n,rfl,ha,ho,hr,hl⟩:=S.kY hk ry;obtain⟨L,hL,m,hn,hm⟩:=S.bD hf;have bJ:=(HQ hr).len;have N:News ({}) L s.heap (Oz s.heap L):=λp hp=>⟨(DL.mp hp).2,(DL.mp hp).1,rfl⟩;refine kat_sorted ⟨hn,λb o e=>(by exact nS e),dQ _⟩ N ⟨_,ho,rfl,n,rfl⟩ (ah [_,_,_] (.c (-1) 0 (.eq .o .i)<|.le .u .i<|.gl .u .o) rfl bJ h2) (Tg oj bJ) λD e1 h' F' N' aZ=>?_;have we:=λb o hb e=>(N' (b,o)<|.tail _<|DL.mpr ⟨hb,e⟩).1;have hD:s.heap.get? D=none:=by cases e:s.heap.get? D with|none=>rfl|some o=>exact absurd (aZ (D,o)<|DL.mpr ⟨(N' _<|.head _).2.1,e⟩)<|J' _
 have T':=HQ<|aF.aM ⟨λx x e=>e,λb o e x hb x=>we b o (λz=>hb<|z▸c8 hL) e,λx h=>.inl h⟩ _ hr;apply XJ T'<|ah [_] (.le (.n 2) .o<|.gt .k .o) rfl h2;obtain⟨p,hp,rfl⟩:∃p,qE (λi j=>lH (ps.getD i (0,0))<|ps.getD j (0,0)) ps.length (xM ps.length)=some p∧p.toList=js:=by unfold yX at hj;cases e:qE (λi j=>lH (ps.getD i (0,0))<|ps.getD j (0,0)) ps.length (xM ps.length) with|none=>rw[e] at hj;exact nS hj|some p=>rw[e] at hj;obtain rfl:=dE hj;exact⟨p,rfl,rfl⟩
 rw[bJ];apply Oy (λi j C hi nW hC=>XI (T'.get i hi) (T'.get j nW) hC) (xM ps.length) hp;refine KasFin.intro F' N' (.head λq hq=>pQ<|aZ q hq) λVQ c F'' XK=>?_;obtain⟨E,S'⟩:=S.ai2 hf hL hm F''.ns (λb o hb e=>(XK (b,o)<|.tail _<|DL.mpr ⟨hb,e⟩).1) hD (XK _<|.head _).1 (aF.eW p.toList hr<|λj nW=>by rw[aV];exact DN j nW) S.tk;exact⟨_,E,S',D,by rw[<-S.len];simp,rfl⟩
end
section
variable {d:Nat}
theorem OA:¬eO {cls:=.type "list",data:=.seq vs n}:=λq=>nB q
section
variable {own:List ai}{s aT:az}{st:List ae}{D:ai}{h':bf}{o':ae}{t:Tok}
theorem Sx.OB (S:Sx own st s)(hs:f6 D s.heap h')(HR:D∉own)(XM:D∉X.P)(XN:X.H.get? D=none)(hv:∀o,s.heap.get? D=some o->¬eO o) (hr:eD own s.heap (own++[D]) h'->Rep (own++[D]) h' o' D)(ht:t≠0):Sx (own++[D]) (st++[o']) {s with heap:=h',toks:=t}:=by have g:eD own s.heap (own++[D]) h':=Li (λb o e v x x=>hs b o (λz=>hv o (z▸e) v) e) hv;exact S.CE HR ⟨XN,XM⟩ (S.CC XN hs) (λx x x x e2 r=>r.CD g hs<|Lh HR e2) (hr g) (S.FX XM hv hs) ht
theorem a9.OB (E:a9 own aT own s)(hs:f6 D s.heap h')(hD:aT.heap.get? D=none):a9 own aT (own++[D]) {s with heap:=h',toks:=t}:=
 ⟨⟨[D],rfl⟩,λb hb=>(f7.mp hb).imp id λq=>by rw[gV.mp q];exact hD,λb o e hb hp=>hs b o (λz=>by rw[z,hD] at e;exact nS e)<|E.bj b o e hb hp,λq hq o e=>by obtain⟨o',e'⟩:=E.cU q hq o e;exact⟨o',hs q o' (λz=>by rw[z,hD] at e;exact nS e) e'⟩,⟨E.os.1,E.os.2⟩⟩
end
section
variable {M:Model}{A:Around}{E:an->az->Prop}
theorem XO {I:List an->az->Prop}{vs:List an}{body:an->PUnit->Sem (ForInStep PUnit)} (hb:∀x ks s,vs[ks.length]?=some x->I ks s->be M A (body x ⟨⟩) (λr s'=>r=.yield ⟨⟩∧∃k,I (ks++[k]) s') E s):∀r ks pre s,vs=pre++r->pre.length=ks.length->I ks s->be M A (forIn r PUnit.unit body) (λu s'=>∃ks,ks.length=vs.length∧I ks s') E s
 |[],ks,pre,s,e,hl,h=>by rw[List.forIn_nil];exact bH ⟨ks,by rw[e,dM];exact hl.symm,h⟩|x::r,ks,pre,s,e,hl,h=>by rw[xH];refine aB<|bC (hb x ks s (by rw[e,<-hl];simp) h) (λq s' hq=>?_) λu u x=>x;obtain⟨rfl,k,hk⟩:=hq;exact XO hb r (ks++[k]) (pre++[x]) s' (by rw[e];simp) (by simp [hl]) hk
end
def tJ (ps:List (Int×Int)):Option (List Nat):=if ps.length<2 then some (aK ps.length) else yX ps
section
variable {own:List ai}{s:az}{st:List ae}{A:Around}
def DO (own:List ai)(s:az)(st:List ae)(jG:List CV)(kS D:ai)(e1:Nat)(ks:List an)(s':az):Prop:=∃e,a9 own s own s'∧Sx own st s'∧aF own s'.heap (jG.take ks.length) ks∧s'.heap.get? kS=some {cls:=.type "list",data:=.seq ks.toArray e}∧s'.heap.get? D=some {cls:=.type "list",data:=.seq #[] e1}
theorem ai6 {j:Nat}{x:an}{y:CV}(hr:Rm d A)(S:Sx own st s)(h:DO own s st jG kS D e1 ks s')(Bc:s.heap.get? kS=none)(hD:s.heap.get? D=none)(cz:D≠kS)(hj:own[j]?=some f)(hx:RelV own s.heap xc x)(hy:jG[ks.length]?=some y)(hc:bk d (.ab j) [xc] [] st y st)(oj:ks.length<64):be (aQ X.prog X.w) A (call (.ref f) [x]) (λk eP=>∃e,eP.heap.get? kS=some {cls:=.type "list",data:=.seq ks.toArray e}∧DO own s st jG kS D e1 (ks++[k]) {eP with heap:=eP.heap.update kS (f8 (·.push k))}) (λz z=>False) s':=by
 obtain⟨e,bK,bq,DP,tx,yY⟩:=h;refine bC (hc A own s' (.ref f) [x] [] hr bq ⟨f,hj,rfl⟩ ⟨x,[],rfl,hx.aM bK.aM,rfl⟩ rfl) (λk eP ⟨av,bX,bw,rk⟩=>?_) λz z x=>x;have ho:av=own:=by obtain⟨r,rfl⟩:=bX.pre;have h1:=bw.len;rw[dJ] at h1;rw[aqn.mp (show r.length=0 by exact ah [_,_,_] (.eq (.a .o .i) .u<|.c (-1) 0 (.eq .o .u)<|.ge .i .k) rfl h1 S.len),dM]
 subst ho;have nk:=S.jO Bc;have XP:=S.mf Bc;have uS:=bX.bj _ _ tx nk XP;have hs:f6 kS eP.heap (eP.heap.update kS<|f8 (·.push k)):=(rj ..).extBut;have hv:∀o,eP.heap.get? kS=some o->¬eO o:=λo eo=>by rw[uS] at eo;obtain rfl:=dE eo;exact OA
 have hq:∀q∈X.P,∃o,s.heap.get? q=some o:=λq hq=>let ⟨ps,e,_⟩:=S.cU q hq;⟨_,e⟩;obtain⟨n',mU⟩:=Ms uS;refine⟨e,uS,n',(bK.trans bX).iW (t:=eP.toks) Bc hq hs,bw.iW (t:=eP.toks) nk XP (S.ut Bc) hv hs,?_,?_,hs _ _ cz<|bX.bj _ _ yY (S.jO hD)<|S.mf hD⟩
 ·have g:eD av eP.heap av (eP.heap.update kS<|f8 (·.push k)):=eD.iW hv hs;have h1:=aF.aM g _<|aF.aM bX.aM _ DP;have e2:jG.take (ks++[k]).length=jG.take ks.length++[y]:=by rw[dJ,Kt,aa2,hy];rfl
  exact e2▸aF.append h1 ⟨k,[],rfl,rk.aM g,rfl⟩
 have:(ks++[k]).toArray=ks.toArray.push k:=by simp
 rwa[this]
theorem XQ {prog:q9}{w:pM}{A:Around}{E:an->az->Prop}{kS a:ai}{ks out:List an}{e e1:Nat}{st:SortSt}{s:az}{P:xK->az->Prop}(hk:s.heap.get? kS=some {cls:=.type "list",data:=.seq ks.toArray e})(ha:s.heap.get? a=some {cls:=.type "list",data:=.seq #[] e1})(cz:a≠kS) (yZ:(arrOf st).map (·.2)=out.toArray)(hz:out.length<64)(hkz:ks.length<64)(hf:failedOf st=none) (h:P (.done (.ret .none)) {s with heap:=(s.heap.update kS (f8 λx=>#[])).update a (f8 λx=>out.toArray)}):be (aQ prog w) A (ksk_tail a false e1 (.ref kS) st) P E s:=by
 have hs:f6 kS s.heap (s.heap.update kS<|f8 λx=>(#[])):=(rj ..).extBut;have b8:=hs _ _ cz ha;unfold ksk_tail;try dsimp only
 rw[yZ];refine aB<|RM hk rfl ?_ (by rw[ig,vW];exact ah [_] (.lt .o (.n 64)<|.gl .o<|.n 16777216) rfl hkz) (dQ _);refine aB<|RG ?_;refine aB<|seqEpoch_at b8 rfl ?_;refine aB<|RM b8 rfl ?_ (dQ _) (by rw[ig,vW];exact ah [_,_] (.lt .o (.n 64)<|.gl .o<|.a (.n 16777216) .i) rfl hz);rw[hf];simp [bne_self_eq_false,if_false];exact bH h
theorem ai8 {prog:q9}{w:pM}{A:Around}{E:an->az->Prop}{kS a:ai}{ks vs:List an}{ps:List (Int×Int)}{js:List Nat}{e e1:Nat}{s:az}{P:xK->az->Prop}(hk:s.heap.get? kS=some {cls:=.type "list",data:=.seq ks.toArray e})(ha:s.heap.get? a=some {cls:=.type "list",data:=.seq #[] e1})(cz:a≠kS) (oS:ks.length=vs.length)(hz:vs.length<64)(T:tI s.heap ps ks)(hj:tJ ps=some js)(pj:js.length<64) (h:P (.done (.ret .none)) {s with heap:=(s.heap.update kS (f8 λz=>#[])).update a (f8 λz=>(js.map λj=>vs.getD j .none).toArray)}):be (aQ prog w) A (ksk_end a false vs.toArray e1 (.ref kS) ks.toArray) P E s:=by
 have vc:=T.len;unfold ksk_end;try dsimp only
 rw[if_neg<|fL];by_cases h2:vs.length<2
 ·have mw:vs.toArray.size<2:=ig▸h2;rw[if_pos mw,if_pos mw];refine aB<|bH ?_;refine aB<|bH ?_;have hjr:js=aK vs.length:=by unfold tJ at hj;rw[if_pos<|by exact ah [_,_,_,_] (.lt .o .i<|.eq .u .o<|.c (-1) 0 (.eq .u .w)<|.gt .w .i) rfl h2 oS vc] at hj;obtain rfl:=dE hj;rw[<-vc,oS]
  refine XQ hk ha cz ?_ (by simpa using pj) (ah [_,_] (.lt .o (.n 2)<|.eq .i .o<|.gt .i<|.n 64) rfl h2 oS) rfl h;show(ks.toArray.zip vs.toArray).map (·.2)=_;rw[hjr];have:(ks.toArray.zip vs.toArray).map (·.2)=vs.toArray:=by apply Array.toList_inj.mp;exact Array.toList_map▸Array.toList_zip▸List.map_snd_zip (by simp;exact KO oS)
  rw[this];congr 1;refine Ku (by simp) λi h1 h3=>?_;simp [h1]
 have mw:¬vs.toArray.size<2:=ig▸h2;rw[if_neg mw,if_neg mw];refine aB<|XJ T (ah [_,_,_] (.c (-1) 0 (.eq .o .i)<|.eq .o .u<|.c 1 0 (.no<|.lt .i<|.n 2)<|.gt .k .u) rfl oS vc h2) ?_;obtain⟨p,hp,rfl⟩:∃p,qE (λi j=>lH (ps.getD i (0,0))<|ps.getD j (0,0)) ps.length (xM ps.length)=some p∧p.toList=js:=by unfold tJ at hj;rw[if_neg<|by exact ah [_,_,_,_] (.c (-1) 0 (.eq .o .i)<|.eq .o .u<|.c 1 0 (.no<|.lt .i .w)<|.g 1 0<|.no<|.lt .u .w) rfl oS vc h2] at hj;unfold yX at hj;cases e:qE (λi j=>lH (ps.getD i (0,0))<|ps.getD j (0,0)) ps.length (xM ps.length) with|none=>rw[e] at hj;exact nS hj|some p=>rw[e] at hj;obtain rfl:=dE hj;exact⟨p,rfl,rfl⟩
 have K:(xM vs.length).kasWp (kas_ask prog w A (tuples' true) ks) (λp' s'=>p'=p∧s'=s) s:=by exact oS▸vc▸Oy (λi j C hi nW hC=>XI (T.get i hi) (T.get j nW) hC) (xM ps.length) hp ⟨rfl,rfl⟩
 refine aB<|bC (kat_run (G:=λp' s'=>p'=p∧s'=s) (Q:=λag s'=>arrOf ag=p.map (kas_item<|ks.toArray.zip vs.toArray)∧failedOf ag=none∧s'=s) oS (o8 h2) hz (λp' ag s' a1 a2 a3 a4=>⟨a4.1▸a2,a3,a4.2⟩) K) ?_ λz z x=>x;rintro ⟨⟨⟩,ag⟩ s' ⟨har,hf,rfl⟩;try dsimp only
 exact XQ hk ha cz (kat_snds oS har) (by simpa using pj) (Tg hz oS) hf h
theorem aja {own:List ai}{s s':az}{st:List ae}{A:Around}{E:an->az->Prop}{kS D f:ai}{xs jG:List CV}{vs:List an}{ps:List (Int×Int)}{js:List Nat}{e1 j:Nat}{P:xK->az->Prop}(hr:Rm d A)(S:Sx own st s)(h:DO own s st jG kS D e1 [] s') (Bc:s.heap.get? kS=none)(hD:s.heap.get? D=none)(cz:D≠kS)(hj:own[j]?=some f)(hx:aF own s.heap xs vs)(vd:xs.length=jG.length)(hc:∀(i:Nat) xc y,xs[i]?=some xc->jG[i]?=some y->bk d (.ab j) [xc] [] st y st)(oj:xs.length<64) (eV:jG=ps.map qF)(DN:tJ ps=some js)(pj:js.length<64) (hP:∀ks eP,ks.length=vs.length->DO own s st jG kS D e1 ks eP->P (.done (.ret .none)) {eP with heap:=(eP.heap.update kS (f8 λz=>#[])).update D (f8 λz=>(js.map λj=>vs.getD j .none).toArray)}):be (aQ X.prog X.w) A (ksk_rest D (.ref f) false vs.toArray e1 (.ref kS)) P E s':=by
 have y1:=aF.length hx;refine aB<|sC ?_;first
  |rw[List.forIn_toArray]|(rw[<-Array.forIn_toList];simp [aqp])|rw[<-Array.forIn_toList]
 refine aB<|bC (XO (vs:=vs) (λx ks s₁ tK hi=>?_) vs [] [] s' rfl rfl h) (λz s₁ hd=>?_) λz z x=>x
 ·have aZ:=(bV.mp tK).1;obtain⟨xc,XR⟩:∃xc,xs[ks.length]?=some xc:=⟨_,bA<|o1 aZ y1⟩;obtain⟨y,hy⟩:∃y,jG[ks.length]?=some y:=⟨_,bA<|ah [_,_,_,_] (.lt .o .i<|.c (-1) 0 (.eq .u .i)<|.eq .u .w<|.gt .o .w) rfl aZ y1 vd⟩;obtain⟨v,hv,rv⟩:=aF.get hx XR;rw[tK] at hv;obtain rfl:=dE hv;refine aB<|zV<|bC (ai6 hr S hi Bc hD cz hj rv hy (hc _ _ _ XR hy)<|ah [_,_,_,_] (.lt .o .i<|.c (-1) 0 (.eq .o .u)<|.lt .w .u<|.gt .w .i) rfl oj y1 aZ) (λk eP hk=>?_) λz z hF=>hF.elim;obtain⟨e,tx,uS⟩:=hk;try dsimp only
  exact aB<|RM tx rfl (bH ⟨rfl,k,uS⟩) (ig▸vW▸ah [_,_,_] (.lt .o (.n 64)<|.c (-1) 0 (.eq .o .i)<|.lt .u .i<|.gl .u<|.n 16777216) rfl oj y1 aZ) (fC (ll<|RN ..)<|ig▸vW▸ah [_,_,_,_] (.lt .o (.n 64)<|.c (-1) 0 (.eq .o .i)<|.lt .u .i<|.gl (.a .u .w)<|.a (.n 16777216) .w) rfl oj y1 aZ)
 obtain⟨ks,hl,hi⟩:=hd;try dsimp only
 obtain⟨e,bK,bq,DP,tx,yY⟩:=id hi;refine aB<|listItems_at tx rfl ?_;have ht:jG.take ks.length=jG:=uc<|ah [_,_,_,_] (.eq .o .i<|.c (-1) 0 (.eq .o .u)<|.c (-1) 0 (.eq .w .i)<|.gl .u .w) rfl y1 vd hl;rw[ht,eV] at DP;exact ai8 tx yY cz hl (ah [_,_,_] (.lt .o .i<|.c (-1) 0 (.eq .o .u)<|.gt .u .i) rfl oj y1) (HQ DP) DN pj<|hP ks s₁ hl hi
theorem ajb {k j:Nat}(hk:st[k]?=some (.list xs))(oj:xs.length<64)(eV:jG=ps.map qF)(vd:xs.length=jG.length)(hc:∀(i:Nat) xc y,xs[i]?=some xc->jG[i]?=some y->bk d (.ab j) [xc] [] st y st)(DN:tJ ps=some js)(pj:js.length<64)(hjb:∀i∈js,i<ps.length):bk (d+2) (.bi "sorted") [.ab k] [("key",.ab j)] st (.ab st.length) (st++[.list (js.map λi=>xs.getD i .none)]):=λA own s fv ws ks q S fQ cx di=>by
 subst fQ;obtain⟨_,_,rfl,⟨a,ha,rfl⟩,jD⟩:=cx;subst jD;obtain⟨_,_,rfl,⟨f,hf,rfl⟩,jD⟩:=di;subst jD;obtain⟨a',b8,vs,n,ho,hr⟩:=S.bD hk;rw[ha] at b8;obtain rfl:=dE b8;have hl:=aF.length hr;have vc:ps.length=xs.length:=by rw[vd,eV,aV]
 apply call_function_entry_kw kind_sorted plain_sorted entry_sorted<|ksk_s1 _ _;refine aB<|bH ?_;refine aB (collect_list ⟨_,ho,rfl,n,rfl⟩ ?_<|by rw[vW];exact FJ oj hl);refine aB (abw ?_<|by rw[vW];exact FJ oj hl);have bn:((s.heap.push<|jB "list" #[] 0).update s.heap.objs.size<|f8 (·++vs.toArray)).objs.size=s.heap.objs.size+1:=by rw[bf.size_update,size_push']
 have DQ:(((s.heap.push<|jB "list" #[] 0).update s.heap.objs.size<|f8 (·++vs.toArray)).push<|jB "list" vs.toArray 0).get? (s.heap.objs.size+1)=some (jB "list" vs.toArray 0):=by exact bn▸iy _ rfl
 have bj:∀b o,s.heap.get? b=some o->(((s.heap.push<|jB "list" #[] 0).update s.heap.objs.size<|f8 (·++vs.toArray)).push<|jB "list" vs.toArray 0).get? b=some o:=λb o q=>by have aZ:=sE q;rwa[bf.get?_push_ne _ _ _<|bn▸pQ (pT aZ),bf.get?_update_ne _ _ _ _<|pQ aZ,bf.get?_push_ne _ _ _<|pQ aZ]
 rw[bn];have Bd:s.heap.get? (s.heap.objs.size+1)=none:=iI<|ke _;generalize hDe:s.heap.objs.size+1=D at *;generalize hh1:((s.heap.push<|jB "list" #[] 0).update s.heap.objs.size<|f8 (·++vs.toArray)).push (jB "list" vs.toArray 0)=h1 at *;refine aB<|vN<|wpAny_call_entry_kw slot_list_sort ⟨_,DQ,rfl⟩ entry_list_sort ?body<|ksk_l1 _ _;rw[ksk_t1];obtain⟨e1,XS⟩:∃e1,(h1.update D<|f8 λx=>(#[])).get? D=some (jB "list" #[] e1):=⟨_,get?_update_seq DQ λx=>#[]⟩;have XT:=λb o e=>((rj h1 D<|f8 λx=>(#[])).extBut) b o (λz=>by rw[z,Bd] at e;exact nS e)<|bj b o e;have aje:(h1.update D<|f8 λx=>(#[])).objs.size=h1.objs.size:=bf.size_update ..;generalize hh2:h1.update D (f8 λx=>(#[]))=h2 at *;have yB:s.heap.get? (h2.push<|jB "tuple" vs.toArray 0).objs.size=none:=by cases e:s.heap.get? (h2.push<|jB "tuple" vs.toArray 0).objs.size with|none=>rfl|some o=>have:=sE<|XT _ _ e;rw[size_push'] at this;exact absurd this<|Nat.not_lt_of_le<|ke _
 have XU:D≠(h2.push<|jB "tuple" vs.toArray 0).objs.size:=by rw[size_push',aje];exact ah [_,_,_] (.lt .o .i<|.g (-1) 0<|.no<|.eq .o<|.a .i .u) rfl (sE DQ)
 refine aB<|listItems_at DQ rfl ?_;refine aB<|RM DQ rfl ?_ (ig▸vW▸FJ oj hl) (dQ _);rw[hh2];refine aB<|seqEpoch_at XS rfl ?_;refine aB (wpAny_newTuple ?_<|by show vs.length<=_;exact vW▸FJ oj hl);refine aB<|abw ?_<|dQ _;apply vN;show be _ _ _ _ _ {s with heap:=(h2.push<|jB "tuple" vs.toArray 0).push (jB "list" #[] 0)};have XW:∀b o,h2.get? b=some o->((h2.push<|jB "tuple" vs.toArray 0).push<|jB "list" #[] 0).get? b=some o:=λb o e=>fT _<|fT _ e;have hk0:((h2.push<|jB "tuple" vs.toArray 0).push<|jB "list" #[] 0).get? (h2.push<|jB "tuple" vs.toArray 0).objs.size=some (jB "list" #[] 0):=iy _ rfl;have hD0:=XW _ _ XS;generalize (h2.push<|jB "tuple" vs.toArray 0).objs.size=kS at *;generalize (h2.push<|jB "tuple" vs.toArray 0).push (jB "list" #[] 0)=h3 at *;have XX:=λb o e=>XW _ _<|XT b o e;refine aja (q.in1.in1) S ⟨0,a9.more (t:=s.toks) XX,S.more (t:=s.toks) XX,rfl,hk0,hD0⟩ yB Bd XU hf hr vd hc (by omega) eV DN pj λks eP oS I=>?_;obtain⟨e,bK,bq,DP,tx,yY⟩:=I;refine⟨_,rfl,bH ⟨_,rfl,?_⟩⟩;have OC:f6 kS eP.heap (eP.heap.update kS<|f8 λx=>(#[])):=(rj ..).extBut;have hv:∀o,eP.heap.get? kS=some o->¬eO o:=λo eo=>by rw[tx] at eo;obtain rfl:=dE eo;exact OA
 have hq:∀q∈X.P,∃o,s.heap.get? q=some o:=λq hq=>let ⟨ps,e,_⟩:=S.cU q hq;⟨_,e⟩;have cF:=bq.iW (S.jO yB) (S.mf yB) (S.ut yB) hv OC;have dC:=bK.iW (t:=eP.toks) yB hq OC;have HS:=OC _ _ XU yY;have XY:f6 D (eP.heap.update kS<|f8 λx=>(#[])) ((eP.heap.update kS<|f8 λx=>(#[])).update D<|f8 λx=>(js.map λj=>vs.getD j .none).toArray):=(rj ..).extBut;obtain⟨n',mU⟩:=Ms (h:=eP.heap.update kS<|f8 λx=>(#[])) HS;have jQ:=cF.OB (o':=.list<|js.map λi=>xs.getD i .none) XY (S.jO Bd) (S.mf Bd) (S.ut Bd) (λo eo=>by rw[HS] at eo;obtain rfl:=dE eo;exact OA) (λg=>⟨_,n',mU,aF.aM g _<|aF.aM dC.aM _<|aF.eW js hr λi hi=>vc▸hjb i hi⟩) cF.tk;exact⟨_,dC.OB XY Bd,jQ,D,by rw[<-S.len];simp,rfl⟩
end
end
section
variable {d:Nat}
def Be (d:Nat)(ns:List Str)(rk:Str->Int)(K1 K2 K3:ae)(v:Str):Prop:=(∀fr,oM (.ab 1) [.list (ns.map CV.str),K1,K2,K3,fr])∧∀fr,bk d (.ab 1) [.str v] [] [.list (ns.map CV.str),K1,K2,K3,fr] (.int (rk v)) [.list (ns.map CV.str),K1,K2,K3,fr]
def pn (d:Nat)(ns:List Str)(rk:Str->Int)(K1 K2 K3:ae):Prop:=∀v∈ns,Be d ns rk K1 K2 K3 v
theorem rX {ns:List Str}{K1 K2 K3:ae}(h1:K1.lo 4=true)(h2:K2.lo 4=true)(h3:K3.lo 4=true):([.list (ns.map CV.str),K1,K2,K3].all λo=>o.lo 4)=true:=by rw[bU,bU,bU,bU,h1,h2,h3];show(CV.cV 4 (ns.map CV.str)&&_)=true;rw[cJ];rfl
def j2 (x:Int)(lo hi:Int)(m:Option Int):ae:=.frame (("key",.ab 1)::("hi",.int hi)::("lo",.int lo)::("x",.int x)::("a",.ab 0)::qB m)
noncomputable def qG (x:Int):List (Str×CV):=[("a",.ab 0),("x",.int x),("lo",.int 0),("hi",.none),("key",.ab 1)]
def b13 (r:Bool)(rk:Str->Int)(x:Int)(v:Str):Bool:=cond r (!decide (x<rk v)) (decide (rk v<x))
noncomputable def b14 (ns:List Str)(K1 K2 K3:ae)(x:Int)(lo hi:Nat)(m:Option Int):List ae:=[.list (ns.map CV.str),K1,K2,K3,j2 x lo hi m]
theorem b11 {rk:Str->Int}{x:Int}{lo hi:Nat}{m:Option Int}{v:Str}(r)(hk:pn d ns rk K1 K2 K3)(hb:ns.length<2^40)(hv:ns[(lo+hi)/2]?=some v)(d6:lo<hi)(bJ:hi<=ns.length):aI d (da (b02 r).scope 4 none) (mx (rP (b02 r).body 2)).2 (b14 ns K1 K2 K3 x lo hi m) .next (if b13 r rk x v=true then b14 ns K1 K2 K3 x ((lo+hi)/2+1) hi (some ((lo+hi)/2:Nat)) else b14 ns K1 K2 K3 x lo ((lo+hi)/2) (some ((lo+hi)/2:Nat))):=by
 have hm:=Hs lo hi;have hp:=Ht (Ft)<|Fu hb d6 bJ;have my:=hk v<|c8 hv;suffices h:aI d (da (b02 r).scope 4 none) (mx<|rP (b02 r).body 2).2 (b14 ns K1 K2 K3 x lo hi m) .next [.list<|ns.map CV.str,K1,K2,K3,j2 x (cond (b13 r rk x v) (((lo:Int)+hi).fdiv 2+1) lo) (cond (b13 r rk x v) hi<|((lo:Int)+hi).fdiv 2)<|some<|((lo:Int)+hi).fdiv 2] by rw[hm] at h;revert h;cases b13 r rk x v<;>exact id
 cases hq:b13 r rk x v<;>cases r<;>cases m<;>first|exact aW (sc:=[.aE (CV.str v) [.list<|ns.map CV.str,K1,K2,K3,j2 x lo hi<|some<|((lo:Int)+hi).fdiv 2],.val<|.int<|rk v,.yes]) (by rfl) (am (by simpa [b13] using hq)<|am (my.2 _)<|am (my.1 _)<|am (e8 rfl hm hv hb)<|am (And.intro (show(2:Int)≠0 by decide) hp) aX)|exact aW (sc:=[.aE (CV.str v) [.list<|ns.map CV.str,K1,K2,K3,j2 x lo hi<|some<|((lo:Int)+hi).fdiv 2],.val<|.int<|rk v,.no]) (by rfl)<|am (by simpa [b13] using hq)<|am (my.2 _)<|am (my.1 _)<|am (e8 rfl hm hv hb)<|am (And.intro (show(2:Int)≠0 by decide) hp) aX
theorem b19 {rk:Str->Int}{x:Int}(r)(hk:pn (d+1) ns rk K1 K2 K3)(hb:db (cond r xR Ae) [.list (ns.map CV.str),K1,K2,K3] args kw (qG x) [.list (ns.map CV.str),K1,K2,K3])(bn:ns.length<2^20)(h1:K1.lo 4=true)(h2:K2.lo 4=true)(h3:K3.lo 4=true):bM (d+3) (.aH (cond r 206 224)) args kw [.list (ns.map CV.str),K1,K2,K3] (.int (cM (b13 r rk x) ns (ns.length+1) 0 ns.length)) [.list (ns.map CV.str),K1,K2,K3]:=by
 obtain⟨m',W⟩:=b00 (t:=(mx<|rP (b02 r).body 2).1) (S:=b14 ns K1 K2 K3 x) (λlo hi m=>by cases r<;>exact nX (sc:=[]) rfl aX) (b11 r hk<|Tj bn) ns.length 0 ns.length none FB (aG _)<|dQ _;let z:=[.list<|ns.map CV.str,K1,K2,K3,.frame [("key",.ab 1),("hi",.none),("lo",.int 0),("x",.int x),("a",.ab 0)]];have L:bk (d+1) (.bi "len") [.ab 0] [] z (.int ns.length) z:=by exact aV (f:=CV.str)▸uJ rfl (by rw[aV];exact Tk bn)
 generalize cM (b13 r rk x) ns (ns.length+1) 0 ns.length=q at *;cases r<;>exact(b08 _).code hb (by kernel_rfl) (λq h=>nS h) (aW (sc:=[.val<|.bool true,.cw,.val<|.int ns.length,.val<|.bool false,.cw,.iX .next (b14 ns K1 K2 K3 x q q m')]) (by rfl)
  (am (CY W)<|am (ky rfl)<|am L<|am gP<|am (ky rfl) aX)) (.inl rfl) (aG _) (rX h1 h2 h3) rfl
end
section
variable {d:Nat}
noncomputable def Bf (x:Str):List (Str×CV):=[("a",.ab 0),("x",.str x),("lo",.int 0),("hi",.none),("key",.ab 1)]
def tL (right:Str->Bool)(x:Str)(ns:List Str):List Str:=ns.take (cM right ns (ns.length+1) 0 ns.length)++x::ns.drop (cM right ns (ns.length+1) 0 ns.length)
theorem DR {α:Type}{right:α->Bool}{xs:List α}:∀n lo hi,lo<=hi->hi<=xs.length->cM right xs n lo hi<=xs.length
 |0,lo,hi,h1,h2=>fC h1 h2|n+1,lo,hi,h1,h2=>by
  rw[rR];by_cases h:lo<hi
  ·rw[if_pos h];cases xs[(lo+hi)/2]? with
   |none=>exact fC h1 h2|some v=>
    show(if right v then _ else _)<=_;by_cases hr:right v=true
    ·rw[if_pos hr];exact DR n _ _ (Cf h) h2
    rw[if_neg hr];exact DR n _ _ (Ce h)<|acz h h2
  rw[if_neg h];exact fC h1 h2
def b16 (r:Bool):fe:=cond r Ac Ad
theorem b18 {rk:Str->Int}{x:Str}(r)(hk:pn (d+1) ns rk K1 K2 K3)(ve:Be (d+3) ns rk K1 K2 K3 x)(y2:∀i,db (cond r xR Ae) [.list (ns.map CV.str),K1,K2,K3] [.ab 0,.int i,.int 0,.none] [("key",.ab 1)] (qG i) [.list (ns.map CV.str),K1,K2,K3])(hb:db (cond r K5 K6) [.list (ns.map CV.str),K1,K2,K3] [.ab 0,.str x] [("key",.ab 1)] (Bf x) [.list (ns.map CV.str),K1,K2,K3])(bn:ns.length<2^20)(h1:K1.lo 4=true)(h2:K2.lo 4=true)(h3:K3.lo 4=true):bM (d+5) (.aH (cond r 197 215)) [.ab 0,.str x] [("key",.ab 1)] [.list (ns.map CV.str),K1,K2,K3] .none [.list ((tL (b13 r rk (rk x)) x ns).map CV.str),K1,K2,K3]:=by
 have hq:=DR (right:=b13 r rk<|rk x) (ns.length+1) 0 ns.length (dQ _)<|aG _;have C1:=(b19 r hk (x:=rk x) (y2 _) bn h1 h2 h3).call.wide (g:=[.frame [("key",.ab 1),("hi",.none),("lo",.int 0),("x",.str x),("a",.ab 0)]]) rfl (rX h1 h2 h3) (rX h1 h2 h3) rfl rfl rfl rfl;have hr:=rX (ns:=tL (b13 r rk<|rk x) x ns) h1 h2 h3;rw[tL,fU,eC,oH,rn] at hr ⊢;generalize cM (b13 r rk<|rk x) ns (ns.length+1) 0 ns.length=q at *;let fr:ae:=.frame [("key",.ab 1),("hi",.none),("lo",.int q),("x",.str x),("a",.ab 0)];have N:gu (cond r 197 215) (b16 r) (cond r K5 K6):=by cases r;exact ahB;exact ahA
 cases r<;>exact N.code hb (by kernel_rfl) (λq h=>nS h) (aW (sc:=[.val<|.bool false,.cw,.val<|.int<|rk x,.val<|.int q,.bg (.bi "list.insert") [.ab 0],.aE .none [.list<|(ns.map CV.str).take q++CV.str x::(ns.map CV.str).drop q,K1,K2,K3,fr]]) rfl
  (am (V6 rfl (TP bn hq) (by rwa[aV]) (by rw[aV];have:cX=2^24:=rfl;exact TQ bn this))<|am gP<|am (WY rfl)<|am C1<|am (cK<|iG<|by kernel_rfl)<|am (ve.2 _)<|am (ve.1 _)<|am (ky rfl) aX)) (.inr ⟨rfl,rfl⟩) (aG _) hr rfl
end
section
variable {d:Nat}
theorem HT {aU:List Nat}{st qm ag:List ae}(rL:qm.length=aU.length)(hl:ag.length=st.length)(hn:aU.Nodup) (h1:∀(j k:Nat),aU[j]?=some k->∃o o',qm[j]?=some o∧o.bI (jT aU st.length)=some o'∧ag[k]?=some o')(h2:∀k,k∉aU->ag[k]?=st[k]?):uE aU st qm=some ag:=by
 unfold uE;rw[rL,fk,Nat.add_zero];refine wI (by simp [hl]) λi k o e1 e2=>?_;have hi:i<st.length:=by simpa using ((bV.mp e1).1)
 rw[iS hi] at e1;obtain rfl:=dE e1;rw[if_pos hi];by_cases h:i∈aU
 ·obtain⟨j,hj,e⟩:=pN.mp h;have ej:aU[j]?=some i:=by rw[bA hj,e]
  rw[gr aU j i hn ej];obtain⟨CX,arK,a1,a2,a3⟩:=h1 j i ej;rw[a3] at e2;obtain rfl:=dE e2;simp [a1];exact a2
 rw[NH _ _ h];rwa[h2 i h] at e2
theorem tM (h:CV.cV 0 xs=true):CV.gn f xs=some xs:=CV.FY (λk hk=>absurd hk<|zY k) h
theorem HX {x:CV}(h:x.lo 0=true):x.bI f=some x:=CV.kR (λk hk=>absurd hk<|zY k) x h
section
variable {st:List ae}{a:ai}{k:Nat}{v:CV}{rest xs ys:List CV}
theorem bM.ajr (h:bM d (.aH a) (.ab 0::rest) [] [.list xs] v [.list ys])(hk:st[k]?=some (.list xs))(hx:CV.cV 0 xs=true)(hy:CV.cV 0 ys=true)(hr:CV.cV 0 rest=true)(hv:v.lo 0=true):bM d (.aH a) (.ab k::rest) [] st v (st.set k (.list ys)):=by
 have aZ:=(bV.mp hk).1;refine h.at [k] (by simp) ?_ rfl ?_ rfl ?_ (HX hv)
 ·unfold g4;exact cq (gq hk<|fz<|tM hx) iF
 ·exact gC (ij<|by simp [eW])<|tM hr
 refine HT rfl (by simp) (by simp) (λj i e=>?_) λi hi=>(by rw[lZ<|λe=>hi<|by simp [e]]);obtain rfl:j=0:=by simpa using ((bV.mp e).1)
 obtain rfl:=dE e;exact⟨_,.list ys,rfl,fz<|tM hy,by rw[vM aZ]⟩
theorem bM.H0 (h:bM d (.aH a) (.ab 0::rest) [] [.list xs] v [.list xs])(hk:st[k]?=some (.list xs))(hx:CV.cV 0 xs=true)(hr:CV.cV 0 rest=true)(hv:v.lo 0=true):bM d (.aH a) (.ab k::rest) [] st v st:=by have:=h.ajr hk hx hx hr hv;rwa[Dt hk] at this
theorem bM.OH {hs iD:List (Str×Str)}{i0 i1 i2:Nat}(h:bM d (.aH a) (.ab 1::rest) [] (bB hs) v (bB iD))(h0:st[i0]?=some (.bt [("_headers",.ab i2)]))(h1:st[i1]?=some (.bE 184 i0))(h2:st[i2]?=some (.list (hs.map br)))(hr:CV.cV 0 rest=true)(hv:v.lo 0=true):bM d (.aH a) (.ab i1::rest) [] st v (st.set i2 (.list (iD.map br))):=by
 have DS:i0≠i1:=λe=>by rw[e,h1] at h0;cases h0
 have Bg:i0≠i2:=λe=>by rw[e,h2] at h0;cases h0
 have Bh:i1≠i2:=λe=>by rw[e,h2] at h1;cases h1
 have hn:[i0,i1,i2].Nodup:=by simp [DS,Bg,Bh]
 have p1:=gr _ 1 _ hn rfl;refine h.at [i0,i1,i2] hn ?_ rfl (gC (ij p1)<|tM hr) rfl ?_ (HX hv)
 ·unfold g4;exact cq (gq h0<|uv<|gr _ 2 _ hn rfl)<|cq (gq h1<|rE<|gr _ 0 _ hn rfl)<|cq (gq h2<|fz<|na _ _) iF
 refine HT rfl (by simp) hn (λj i e=>?_) λi hi=>(by rw[lZ<|λe=>hi<|by simp [e]])
 match j,e with
 |0,e=>obtain rfl:=dE e;exact⟨_,.bt [("_headers",.ab i2)],rfl,rfl,by rw[lZ<|rc Bg,h0]⟩|1,e=>obtain rfl:=dE e;exact⟨_,.bE 184 i0,rfl,rfl,by rw[lZ<|rc Bh,h1]⟩|2,e=>obtain rfl:=dE e;exact⟨_,.list<|iD.map br,rfl,fz<|na _ _,by rw[vM<|(bV.mp h2).1]⟩|j+3,e=>exact nS e
end
end
section
section
variable {α:Type}(lt eq:α->α->Bool)
def bR (row:List α)(x:α)(lo hi:Nat):Nat:=cM (λv=>!lt x v) row (row.length+1) lo hi
def bL (row:List α)(x:α)(lo hi:Nat):Nat:=cM (λv=>lt v x) row (row.length+1) lo hi
noncomputable def j3 (x:α)(row:List α):Bool:=row.getLast?.elim false (eq · x)
noncomputable def vf:Nat->Option Nat
 |0=>none|m+1=>some m
def Bi (au:List (List α))(x:α):Option (List (List α)×Nat):=(au.findIdx? (j3 eq x)).bind λr=>(au[r]?).bind λrow=>(vf (bR lt row x 0 row.length)).map λm=>(au.set r row.dropLast,m)
def jq:List (List α)->α->Nat->List (List α)×Nat×α
 |[],w,x=>([[]],0,w)|row::rest,w,c=>(row[bR lt row w 0 (min c row.length)]?).elim (row::rest,0,w) λw'=>(row.set (bR lt row w 0 (min c row.length)) w::(jq rest w' (bR lt row w 0 (min c row.length))).1,(jq rest w' (bR lt row w 0 (min c row.length))).2.1+1,(jq rest w' (bR lt row w 0 (min c row.length))).2.2)
def H3 (q:List (List α)×Nat×α):Option (List (List α)×Nat):=(q.1[q.2.1]?).map λrow=>(q.1.set q.2.1 (row++[q.2.2]),bL lt (row++[q.2.2]) q.2.2 0 (row++[q.2.2]).length)
def tN (au:List (List α))(w:α)(c:Nat):Option (List (List α)×Nat):=H3 lt (jq lt au w c)
def tO:Nat->List (List α)->α->Nat->Option (List (List α)×α)
 |0,ao,w,x=>some (ao,w)|i+1,ao,w,r=>(ao[i]?).bind λcol=>if r<=col.length then(vf (bL lt col w r col.length)).bind λj=>(col[j]?).bind λw'=>tO i (ao.set i (col.set j w)) w' j else none
def Bj (aj:List (Option α))(j4:Nat->Option α)(k:Nat)(s:List (List α)×List Nat):Option (List (List α)×List Nat):=(aj[k]?).bind λo=>(o.elim ((j4 k).bind λw=>tN lt s.1 w aj.length) (Bi lt eq s.1)).map λq=>(q.1,s.2++[q.2])
def wO (aj:List (Option α))(ay:List Nat)(k:Nat)(s:List (List α)×List (Nat×α)):Option (List (List α)×List (Nat×α)):=(ay[ay.length-1-k]?).bind λc=>(s.1[c]?).bind λcol=>(aj[k]?).bind λo=>o.elim ((col.getLast?).bind λw=>(tO lt c (s.1.set c col.dropLast) w (col.length-1)).map λq=>(q.1,s.2++[(k,q.2)])) λx=>some (s.1.set c (col++[x]),s.2)
end
noncomputable def k6 (f:Nat->σ->Option σ):List Nat->σ->Option σ
 |[],s=>some s|k::ks,s=>(f k s).bind (k6 f ks)
def gh (lt eq:α->α->Bool)(aj:List (Option α))(j4:Nat->Option α):Option (List (Nat×α)):=(k6 (Bj lt eq aj j4) (aK aj.length).reverse ([],[])).bind λq=>(k6 (wO lt aj q.2) (aK aj.length) (cD aj.length [],[])).map (·.2)
theorem XZ {m:Nat}(h:vf n=some m):n=m+1:=by cases n with|zero=>exact nS h|succ n=>exact congrArg Nat.succ<|dE h
theorem X0 {lt:α->α->Bool}{w:α}:jq lt [] w c=([[]],0,w):=rfl
theorem H4 {lt:α->α->Bool}{row:List α}{w:α}:jq lt (row::rest) w c=(row[bR lt row w 0 (min c row.length)]?).elim (row::rest,0,w) λw'=>(row.set (bR lt row w 0 (min c row.length)) w::(jq lt rest w' (bR lt row w 0 (min c row.length))).1,(jq lt rest w' (bR lt row w 0 (min c row.length))).2.1+1,(jq lt rest w' (bR lt row w 0 (min c row.length))).2.2):=rfl
noncomputable def dX (p n:Nat):List CV:=(aK n).map λi=>CV.ab (p+i)
noncomputable def ax (xs:List Str):ae:=.list (xs.map CV.str)
noncomputable def a0 (xs:List Nat):ae:=.list ((xs.map λm:Nat=>(m:Int)).map CV.int)
noncomputable def wP (n:Nat)(more:List (Str×CV)):List (Str×CV):=more++[(("table":Str),CV.ab 1),(("marks":Str),CV.ab 9),(("columns":Str),CV.ab 10),(("turned":Str),CV.ab (12+n))]
def tP (n:Nat)(aD:List (Str×Str)):List ae:=[.bt [("_headers",.ab (13+n))],.bE 184 (11+n),.list (aD.map br)]
def qH (hs:List (Str×Str))(aj:List Str)(kc:Option CV)(more:List (Str×CV))(ay:List Nat)(ao:List (List Str))(aD:List (Str×Str))(nr:Nat):List ae:=.bt [("_headers",.ab 2)]::.bE 184 0::.list (hs.map br)::ax aj::.frame (wP ao.length more)::.cell (some (.ab 3))::.cell (some (.ab 8))::.cell kc::.list (dX (14+ao.length) nr)::a0 ay::.list (dX 11 ao.length)::(ao.map ax++tP ao.length aD)
def TS (hs:List (Str×Str))(aj:List Str)(kc:Option CV)(more:List (Str×CV))(ay:List Nat)(ao:List (List Str))(aD:List (Str×Str))(au:List (List Str)):List ae:=qH hs aj kc more ay ao aD au.length++au.map ax
section
variable {hs aD:List (Str×Str)}{aj:List Str}{kc:Option CV}{more:List (Str×CV)}{ay:List Nat}{ao au:List (List Str)}{g:List ae}{nr:Nat}
theorem vg:(qH hs aj kc more ay ao aD nr).length=14+ao.length:=by simp only [qH,tP,dO,dJ,aV,zT];exact ah [_] (.ge (.a (.a (.a (.a (.a (.a (.a (.a (.a (.a (.a (.a .o<|.a (.a (.a .k .j) .j) .j) .j) .j) .j) .j) .j) .j) .j) .j) .j) .j) .j)<|.a (.n 14) .o) rfl
theorem hO:(TS hs aj kc more ay ao aD au).length=14+ao.length+au.length:=by rw[TS,dJ,vg,aV]
theorem H5 {j:Nat}(h:ao[j]?=some col):(TS hs aj kc more ay ao aD au++g)[11+j]?=some (ax col):=by have hj:j<ao.length:=(bV.mp h).1;rw[d2 (by rw[hO];exact Tu hj),TS,d2 (by rw[vg];exact Tv hj),show 11+j=j+11 by exact FC];show(ao.map ax++tP ao.length aD)[j]?=_;rw[d2 (by simpa using hj),dN,h];rfl
theorem X1 {i:Nat}(hi:i<3):(TS hs aj kc more ay ao aD au++g)[11+ao.length+i]?=(tP ao.length aD)[i]?:=by rw[d2 (by rw[hO];exact ah [_,_,_] (.lt .o (.n 3)<|.gt (.a (.a (.n 11) .i) .o)<|.a (.a (.n 14) .i) .u) rfl hi),TS,d2 (by rw[vg];exact ah [_,_] (.lt .o (.n 3)<|.gt (.a (.a (.n 11) .i) .o)<|.a (.n 14) .i) rfl hi),show 11+ao.length+i=(ao.length+i)+11 by exact ah [_,_,_] (.ge (.a (.a .o .i) .u)<|.a (.a .i .u) .o) rfl];show(ao.map ax++tP ao.length aD)[ao.length+i]?=_;rw[dT<|by simp];congr 1;simp
theorem nc {i:Nat}{row:List Str}(h:au[i]?=some row):(TS hs aj kc more ay ao aD au++g)[14+ao.length+i]?=some (ax row):=by have hi:i<au.length:=(bV.mp h).1;rw[d2 (by rw[hO];exact KR hi),TS,dT (by rw[vg];exact pY),vg,sG,dN,h];rfl
theorem OI {j:Nat}(hj:j<ao.length):(TS hs aj kc more ay ao aD au++g).set (11+j) (ax col)=TS hs aj kc more ay (ao.set j col) aD au++g:=by
 rw[Fk _ _<|by rw[hO];exact Tu hj];congr 1;rw[TS,Fk _ _ (by rw[vg];exact Tv hj),TS];congr 1;have:(qH hs aj kc more ay ao aD au.length).set (11+j) (ax col)=.bt [("_headers",.ab 2)]::.bE 184 0::.list (hs.map br)::ax aj::.frame (wP ao.length more)::.cell (some<|.ab 3)::.cell (some<|.ab 8)::.cell kc::
  .list (dX (14+ao.length) au.length)::a0 ay::.list (dX 11 ao.length)::(ao.map ax++tP ao.length aD).set j (ax col):=by
  rw[show 11+j=j+11 by exact FC];rfl
 rw[this,qH,Fk _ _ (by simpa using hj),lY,<-rp]
theorem OJ {i:Nat}{row:List Str}(hi:i<au.length):(TS hs aj kc more ay ao aD au++g).set (14+ao.length+i) (ax row)=TS hs aj kc more ay ao aD (au.set i row)++g:=by rw[Fk _ _<|by rw[hO];exact KR hi];congr 1;rw[TS,Fl _ _ (by rw[vg];exact pY),vg,sG,TS,lY,<-rp]
theorem ajs:(TS hs aj kc more ay ao aD au++g).set (13+ao.length) (.list (l'.map br))=TS hs aj kc more ay ao l' au++g:=by
 rw[Fk _ _<|by rw[hO];exact ah [_,_] (.gt (.a (.n 13) .o)<|.a (.a (.n 14) .o) .i) rfl];congr 1;rw[TS,Fk _ _ (by rw[vg];exact SD),TS];congr 1;have:(qH hs aj kc more ay ao aD au.length).set (13+ao.length) (.list<|l'.map br)=.bt [("_headers",.ab 2)]::.bE 184 0::.list (hs.map br)::ax aj::.frame (wP ao.length more)::.cell (some<|.ab 3)::.cell (some<|.ab 8)::.cell kc::
  .list (dX (14+ao.length) au.length)::a0 ay::.list (dX 11 ao.length)::(ao.map ax++tP ao.length aD).set (ao.length+2) (.list<|l'.map br):=by
  rw[show 13+ao.length=(ao.length+2)+11 by exact ah [_] (.ge (.a (.n 13) .o)<|.a (.a .o<|.n 2)<|.n 11) rfl];rfl
 rw[this,qH,Fl _ _ (by simp),aV,sG];rfl
theorem X2 {p i:Nat}(h:i<n):(dX p n)[i]?=some (.ab (p+i)):=by rw[dX,dN,iS h];rfl
end
end
section
variable {d:Nat}{gl:List (Str×CV)}{c:aY}
section
variable {st ag:List ae}{i:Nat}{vars:List (Str×CV)}
theorem mr.fj (h:mr d c es st b ag) ns (hi:ag[i]?=some (.frame vars)):mr d c es st b (ag.set i (.frame (Internal.fj ns vars))):=λA own s env q S R=>
 bC (h A own s env q S R) (λfl s₁ ⟨aO,bK,bq,r⟩=>⟨aO,bK,bq.fj hi ns,r⟩) λu u x=>x
theorem sZ.fj {e:aq}{k:Nat}(h:sZ d c e k st ag) ns (hi:ag[i]?=some (.frame vars)):sZ d c e k st (ag.set i (.frame (Internal.fj ns vars))):=λA own s env a q S R nQ=>
 bC (h A own s env a q S R nQ) (λfl s₁ ⟨aO,bK,bq⟩=>⟨aO,bK,bq.fj hi ns⟩) λu u x=>x
theorem dj.pre {t:aq} ns (hi:st[i]?=some (.frame vars))(h:dj d c t v (st.set i (.frame (Internal.fj ns vars))) ag):dj d c t v st ag:=λA own s env x q S R r=>h A own s env x q (S.fj hi ns) R r
end
theorem X3 {T:List ae}{x y:ae}(h:T.length=n):(T++[x,y]).set n z=T++[z,y]:=by subst h;rw[Fl _ _<|aG _,fk];rfl
theorem OK {T:List ae}{x y:ae}(h:T.length=n):(T++[x,y]).set (n+1) z=T++[x,z]:=by subst h;rw[Fl _ _<|ke _,Ks<|aG _,fk];rfl
theorem ajt {T:List ae}{x y:ae}(h:T.length=n):(T++[x,y])[n]?=some x:=by subst h;rw[dT<|aG _,fk];rfl
theorem H6 {T:List ae}{x y:ae}(h:T.length=n):(T++[x,y])[n+1]?=some y:=by subst h;rw[dT<|ke _,Ks<|aG _,fk];rfl
noncomputable def ex (step:Nat->CV->Option CV):Nat->List CV->List CV
 |u,[]=>[]|i,x::xs=>match step i x with
   |some y=>y::ex step (i+1) xs|none=>ex step (i+1) xs
theorem X4 {step:Nat->CV->Option CV}{i:Nat}:ex step i []=[]:=rfl
theorem y3 {step:Nat->CV->Option CV}{i:Nat}{x:CV}:ex step i (x::xs)=(match step i x with|some y=>y::ex step (i+1) xs|none=>ex step (i+1) xs):=rfl
section
variable {elt target iter:aq}{ifs:List aq}{as:Nat}{scope:d8}{pos:Pos}{T:Nat->List ae}{n m:Nat}{items:List CV}{P:List ae->Prop}{step:Nat->CV->Option CV}{ol:List (Str×CV)}{mC:CV->List (Str×CV)}{ns:List Str}{cl:List (Str×Nat)}
theorem OL {fJ} (he:kX (.ListComp elt [⟨target,iter,ifs,fJ⟩] scope pos)=true)(hT:∀i,(T i).length=n)(hw:∀v,Internal.fj ns (mC v)=ol)(hP:∀i acc,P (T i++[.list acc,.frame ol])) (Bk:∀i v acc,items[i]?=some v->dj d (cI c scope (n+1) cl) target v (T i++[.list acc,.frame ol]) (T i++[.list acc,.frame (mC v)])) (kD:∀i v acc,CV.cV m acc=true->items[i]?=some v->step i v=none->mr d (cI c scope (n+1) cl) ifs (T i++[.list acc,.frame (mC v)]) false (T (i+1)++[.list acc,.frame (mC v)])) (rN:∀i v acc y,CV.cV m acc=true->items[i]?=some v->step i v=some y->∃ag,mr d (cI c scope (n+1) cl) ifs (T i++[.list acc,.frame (mC v)]) true ag∧a8 d (cI c scope (n+1) cl) elt ag y (T (i+1)++[.list acc,.frame (mC v)])) (po:∀i v y,items[i]?=some v->step i v=some y->y.lo m=true)(bn:items.length<=2^20):∀xs i acc,items.drop i=xs->acc.length<=i->CV.cV m acc=true->jS d (cI c scope (n+1) cl) (.ListComp elt [⟨target,iter,ifs,fJ⟩] scope pos) n 0 P xs (T i++[.list acc,.frame ol]) (T (i+xs.length)++[.list (acc++ex step i xs),.frame ol])
 |[],i,acc,t,a,b=>by rw[X4,dM];exact .nil (hP i acc)|x::xs,i,acc,hd,hl,ha=>by
  have hx:items[i]?=some x:=by have:=sL (xs:=items) (i:=i) (j:=0);rw[hd] at this;simpa using this.symm
  have aZ:=(bV.mp hx).1;have lC:items.drop (i+1)=xs:=by rw[<-Ki,hd];rfl
  have e:i+(x::xs).length=(i+1)+xs.length:=by rw[dO];exact z9
  rw[y3,e];cases h:step i x with
  |none=>have I:=(kD i x acc ha hx h).fj ns<|H6<|hT _;rw[OK<|hT _,hw] at I;exact .skip (hP i acc) rfl (Bk i x acc hx) I (OL he hT hw hP Bk kD rN po bn xs (i+1) acc lC (uh hl) ha)|some y=>
   obtain⟨ag,h1,h2⟩:=rN i x acc y ha hx h;have M:=(GO (gens:=[⟨target,iter,ifs,fJ⟩]) (sc:=scope) (pos:=pos) h2 (ajt<|hT _)<|ah [_,_,_,_] (.lt .o .i<|.le .i (.n<|2^20)<|.c (-1) 0 (.eq .u<|.n<|2^24)<|.le .w .o<|.gt .w .u) rfl aZ bn rfl hl).fj ns<|X3 (hT _)▸H6 (hT _);rw[X3<|hT _,OK<|hT _,hw] at M;have r:=OL he hT hw hP Bk kD rN po bn xs (i+1) (acc++[y]) lC (by rw[dJ,Kt];exact Sm hl) (An.mpr λz hz=>by
    rcases f7.mp hz with q|q
    ·exact An.mp ha z q
    rw[gV.mp q];exact po i x y hx h)
   rw[eJ] at r;exact .wk (hP i acc) rfl rfl (Bk i x acc hx) h1 M r
theorem X5 {m k:Nat}{o:ae}(hm:s₁.length=m)(hk:k<=m)(b9:(s₁.all λo=>o.lo m)=true)(hv:v.lo m=true):Mk k m (s₁++[o]) v s₁ v:=by subst hm;refine Ml (aK s₁.length) xF (NI b9) (CV.kR (λk hk=>uR hk) v hv) ?_ (by simp);rw[List.take_range,zH hk]
theorem jS.pre {e:aq}{k i:Nat}{x:CV}{xs:List CV}{st ag:List ae}{vars:List (Str×CV)}{m:Nat} ns (hi:st[i]?=some (.frame vars))(hp:P st)(h:jS d c e k m P (x::xs) (st.set i (.frame (Internal.fj ns vars))) ag):jS d c e k m P (x::xs) st ag:=by cases h with|skip p h1 h2 h3 h4=>exact .skip hp h1 (h2.pre ns hi) h3 h4|wk p h1 h2 h3 h4 h5 h6=>exact .wk hp h1 h2 (h3.pre ns hi) h4 h5 h6|LY p h1 h2 h3 h4 h5 h6 h7 h8 h9=>exact .LY hp h1 h2 (h3.pre ns hi) h4 h5 h6 h7 h8 h9
abbrev b41 (d:Nat)(c:aY)(e:aq)(st:List ae)(v:CV)(ag:List ae):Prop:=a8 d c e st v ag∧lx d c e st v ag
abbrev b40 (c:aY)(e:aq)(scope:d8)(cl:List (Str×Nat)):Prop:=kX e=true∧scope.kind=.function∧(scope.names.all λx=>x.2 != .local||scope.names.lookup x.1==some .local)=true∧mW c.cells scope.names []=some cl∧dU scope []=[.frame []]
abbrev b32 (d:Nat)(c:aY)(elt iter:aq)(ifs:List aq)(fJ:Int)(scope:d8)(pos px:Pos)(x:Str)(T st:List ae)(n:Nat)(P:List ae->Prop)(a:CV)(cl:List (Str×Nat))(items:List CV):Prop:=b40 c (.ListComp elt [⟨.Name x px,iter,ifs,fJ⟩] scope pos) scope cl∧(nU scope c.scope).names.lookup x=some .local∧a8 d c iter st a T∧Nonempty (iY a items P)∧(∀g,P (T++g))∧T.length=n∧st.length<=n∧(T.all λo=>o.lo n)=true∧items.length<=2^20
theorem H7 {fJ} {st:List ae}{a:CV}(J:b40 c (.ListComp elt [⟨target,iter,ifs,fJ⟩] scope pos) scope cl) (hi:a8 d c iter st a (T 0))(hs:Nonempty (iY a items P))(hP0:P (T 0))(X6:P (T 0++[.list [],.frame []]))(hT:∀i,(T i).length=n)(hw0:Internal.fj ns []=ol)(hw:∀v,Internal.fj ns (mC v)=ol)(hP:∀i acc,P (T i++[.list acc,.frame ol])) (Bk:∀i v acc,items[i]?=some v->dj d (cI c scope (n+1) cl) target v (T i++[.list acc,.frame ol]) (T i++[.list acc,.frame (mC v)])) (kD:∀i v acc,CV.cV m acc=true->items[i]?=some v->step i v=none->mr d (cI c scope (n+1) cl) ifs (T i++[.list acc,.frame (mC v)]) false (T (i+1)++[.list acc,.frame (mC v)])) (rN:∀i v acc y,CV.cV m acc=true->items[i]?=some v->step i v=some y->∃ag,mr d (cI c scope (n+1) cl) ifs (T i++[.list acc,.frame (mC v)]) true ag∧a8 d (cI c scope (n+1) cl) elt ag y (T (i+1)++[.list acc,.frame (mC v)])) (po:∀i v y,items[i]?=some v->step i v=some y->y.lo m=true)(bn:items.length<=2^20)(d6:st.length<=n)(b9:((T items.length++[ae.list (ex step 0 items)]).all λo=>o.lo (n+1))=true):b41 d c (.ListComp elt [⟨target,iter,ifs,fJ⟩] scope pos) st (.ab n) (T items.length++[.list (ex step 0 items)]):=by
 have hn:=hT 0;obtain⟨w,run⟩:∃w,jS d (cI c scope (n+1) cl) (.ListComp elt [⟨target,iter,ifs,fJ⟩] scope pos) n 0 P items (T 0++[.list [],.frame []]) (T items.length++[.list<|ex step 0 items,.frame w]):=by cases i3:items with|nil=>exact⟨[],.nil X6⟩|cons x xs=>have r:=OL J.1 hT hw hP Bk kD rN po bn items 0 [] rfl (aG _) rfl;rw[i3] at r;refine⟨ol,jS.pre ns (H6 hn) X6 ?_⟩;rw[OK hn,hw0];simpa using r
 subst hn;suffices J:uF d c (.ListComp elt [⟨target,iter,ifs,fJ⟩] scope pos) st (.ab (T 0).length) (T items.length++[.list<|ex step 0 items]) scope pos ⟨target,iter,ifs,fJ⟩ [] cl a (T 0) (T items.length++[.list<|ex step 0 items,.frame w]) items P from⟨GN J,VR J⟩;refine{sc:=rfl,cls:=rfl,qp:=J.1,kind:=J.2.1,names:=J.2.2.1,d3:=J.2.2.2.1,iter:=hi,src:=hs,GK:=hP0,run:=?_,fr:=⟨w,H6<|hT _⟩,qr:=?_}
 ·rwa[J.2.2.2.2,eJ]
 have hm:(T items.length++[ae.list<|ex step 0 items]).length=(T 0).length+1:=by rw[dJ,hT];rfl
 have:=X5 (o:=.frame w) (v:=.ab (T 0).length) hm (k:=st.length) (uh d6) b9 (by exact decide_eq_true<|rg _);rwa[eJ] at this
end
end
section
variable {d:Nat}{gl:List (Str×CV)}{c:aY}
mutual
theorem CV.mD {m n:Nat}(h:m<=n):∀(c:CV),c.lo m=true->c.lo n=true
 | .ab k,e=>decide_eq_true (sF (of_decide_eq_true e) h)
 | .cB xs,e=>CV.vh h xs e
 | .sl xs,e=>CV.vh h xs e
 | .none,u=>rfl
 | .bool u,o=>rfl
 | .int u,o=>rfl
 | .str u,o=>rfl
 | .fW u o z,w=>rfl
 | .aH u,o=>rfl
 | .bi u,o=>rfl
 | .ty u,o=>rfl
 | .any,u=>rfl
theorem CV.vh {m n:Nat}(h:m<=n):∀(xs:List CV),CV.cV m xs=true->CV.cV n xs=true
 | [],u=>rfl
 | x::xs,e=>by
   rw[CV.uu,bz] at e ⊢
   exact⟨CV.mD h x e.1,CV.vh h xs e.2⟩
end
theorem ae.mD {m:Nat}(h:m<=n):∀(o:ae),o.lo m=true->o.lo n=true:=by
 have hl:∀(es:List (Str×CV)),(es.all λp=>p.2.lo m)=true->(es.all λp=>p.2.lo n)=true:=λes e=>dI.mpr λp hp=>CV.mD h _<|dI.mp e p hp;have hd:∀k:Nat,decide (k<m)=true->decide (k<n)=true:=λk e=>decide_eq_true<|sF (of_decide_eq_true e) h;intro o e;cases o with
 |list xs=>exact CV.vh h xs e|frame vars=>exact hl vars e|cell v=>
  cases v with
  |none=>rfl|some v=>exact CV.mD h v e
 |bE C k=>exact hd k e|bt es=>exact hl es e|map es=>exact hl es e|d3 p b s cells dd=>
  have e:(cells.all (λp=>decide (p.2<m))&&Lj m dd)=true:=e;show(cells.all (λp=>decide (p.2<n))&&Lj n dd)=true;rw[bz] at e ⊢;refine⟨dI.mpr λp hp=>hd _<|dI.mp e.1 p hp,?_⟩;cases dd with
  |none=>rfl|some k=>exact hd k e.2
 |bg a k=>exact hd k e|jf k x=>exact hd k e|mR=>rfl|ki x i=>rfl|gc k i=>exact hd k e|iz=>rfl|qg=>rfl
theorem Bl {m n:Nat}(h:m<=n){st:List ae}(e:(st.all λo=>o.lo m)=true):(st.all λo=>o.lo n)=true:=dI.mpr λo ho=>ae.mD h o<|dI.mp e o ho
theorem cC {n:Nat}{a b:List ae}(h1:(a.all λo=>o.lo n)=true)(h2:(b.all λo=>o.lo n)=true):((a++b).all λo=>o.lo n)=true:=by rw[RO,h1,h2];rfl
theorem fx.drop {e:aq}{st ag g:List ae}{v:Bool}(h:fx d c e st v (ag++g))(bJ:st.length<=ag.length)(b9:(ag.all λo=>o.lo ag.length)=true):fx d c e st v ag:=λA own s env q S R=>
 bC (h A own s env q S R) (λx s' ⟨aS,E,bw,r⟩=>by obtain⟨dt,ya,e1,e2,dC,cF⟩:=Gy S E bw bJ b9;exact⟨dt,dC,cF,r⟩) λu u x=>x
theorem wQ:∀(hs:List (Str×Str)),CV.cV n (hs.map br)=true
 |[]=>rfl|x::hs=>by rw[eC,CV.uu,wQ hs];rfl
theorem X7 {p k:Nat}(h:p+k<=n):CV.cV n (dX p k)=true:=by rw[An];intro x hx;obtain⟨i,hi,rfl⟩:=cu.mp hx;have:=gz.mp hi;exact decide_eq_true<|ah [_,_,_,_] (.le (.a .o .i) .u<|.lt .w .i<|.gt (.a .o .w) .u) rfl h this
theorem Bm {more:List (Str×CV)}(hk:(ae.cell kc).lo n=true)(hm:(more.all λp=>p.2.lo n)=true)(hn:14+ao.length+au.length<=n):((TS hs aj kc more ay ao aD au).all λo=>o.lo n)=true:=by
 have pq:∀l:List (List Str),((l.map ax).all λo=>o.lo n)=true:=λl=>dI.mpr λo ho=>by obtain⟨x,_,rfl⟩:=cu.mp ho;exact cJ x
 have ho:∀i,i<14+ao.length->(CV.ab i).lo n=true:=λi hi=>decide_eq_true<|SB hn hi;have hd:∀i,i<14+ao.length->decide (i<n)=true:=λi hi=>decide_eq_true<|SB hn hi;rw[TS];refine cC ?_<|pq au;rw[qH];simp only [bU,bz];have h3:((ao.map ax++tP ao.length aD).all λo=>o.lo n)=true:=by apply cC<|pq ao;rw[tP];simp [bU,cG,cP];exact⟨by show((CV.ab _).lo n&&true)=true;rw[ho _<|by exact SD];rfl,hd _<|ah [_] (.gt (.a (.n 11) .o)<|.a (.n 14) .o) rfl,wQ aD⟩
 refine⟨by show((CV.ab 2).lo n&&true)=true;rw[ho _<|by exact ah [_] (.gt (.n 2)<|.a (.n 14) .o) rfl];rfl,hd _<|ah [_] (.gt .k<|.a (.n 14) .o) rfl,wQ hs,cJ aj,?_,ho 3<|ah [_] (.gt (.n 3)<|.a (.n 14) .o) rfl,ho 8<|ah [_] (.gt (.n 8)<|.a (.n 14) .o) rfl,hk,X7 (by omega),NT _,X7<|ah [_,_,_] (.le (.a (.a (.n 14) .o) .i) .u<|.gl (.a (.n 11) .o) .u) rfl hn,h3⟩;show((wP ao.length more).all λp=>p.2.lo n)=true;rw[wP,RO,hm,Bool.true_and];simp [bz];exact⟨ho _<|ah [_] (.gt .j<|.a (.n 14) .o) rfl,ho _<|ah [_] (.gt (.n 9)<|.a (.n 14) .o) rfl,ho _<|ah [_] (.gt .t<|.a (.n 14) .o) rfl,ho _<|ah [_] (.gt (.a (.n 12) .o)<|.a (.n 14) .o) rfl⟩
end
section
variable {d:Nat}{gl:List (Str×CV)}{c:aY}
noncomputable def af (k:Nat):CV:=.int (k:Int)
theorem OM (a n:Nat)(h:a+n<=2^20):Nonempty (iY (.fW a ((a+n:Nat):Int) 1) ((fc a n).map af) (λx=>True)):=by
 have e:(fc a n).map af=sY a n 1:=by rw[sY,List.range'_eq_map_range,fV];refine vZ λi x=>?_;show CV.int _=CV.int _;simp
 rw[e];have hz:Kg a ((a+n:Nat):Int) 1=n:=by unfold Kg;rw[if_pos<|by decide];cases n with|zero=>exact if_neg (Int.lt_irrefl _)|succ n=>rw[if_pos<|xt.mpr<|aqA<|vI n,Int.ediv_one,QW,Rr a,aby];exact Int.sub_add_cancel _ _
 exact⟨Vl a ((a+n:Nat):Int) 1 n (by unfold abo;rw[hz];simp [aqB];lia) hz⟩
theorem mE (n:Nat)(h:n<=2^20):Nonempty (iY (.fW 0 (n:Int) 1) ((aK n).map af) (λx=>True)):=by have:=OM 0 n (by exact ah [_] (.le .o (.n<|2^20)<|.gl (.a .k .o)<|.n<|2^20) rfl h);rw[<-pW] at this;simpa using this
theorem ajw n:(aK n).reverse.map af=sY ((n:Int)-1) n (-1):=by refine Ku (by simp [sY]) λi h1 h2=>?_;simp [sY,af] at h1 h2 ⊢;omega
theorem X8 (n:Nat)(h:n<=2^20):Nonempty (iY (.fW ((n:Int)-1) (-1) (-1)) ((aK n).reverse.map af) (λx=>True)):=by
 rw[ajw];have hz:Kg ((n:Int)-1) (-1) (-1)=(n:Int):=by unfold Kg;simp;exact ah [_] (.c 0 1 (.il (.s (.c .o) .j)<|.n<|-1)<|.g 1 1<|.ie .k<|.c .o) rfl
 exact⟨Vl ((n:Int)-1) (-1) (-1) n (by unfold abo;rw[hz];simp [aqB];lia) hz⟩
end
section
variable {d:Nat}
section
variable {f g:Nat->Option Nat}(lI:∀k j,f k=some j->g j=some k)
include lI
theorem CV.DT (c:CV):∀{c'},c.bI f=some c'->c'.bI g=some c:=
 have L:∀{c c':CV},c.bI f=some c->c.bI g=some c->c.bI f=some c'->c'.bI g=some c:=λh1 h2 h=>sI (P:=λc'=>CV.bI g c'=some _) (h1.symm.trans h) h2
 CV.rec (motive_1:=λc=>∀{c'},c.bI f=some c'->c'.bI g=some c) (motive_2:=λxs=>∀{ys},CV.gn f xs=some ys->CV.gn g ys=some xs) (L rfl rfl) (λu=>L rfl rfl) (λu=>L rfl rfl) (λu=>L rfl rfl)
  (λk u h=>eE (P:=λc'=>CV.bI g c'=some (.ab k)) h λj hj=>ij<|lI k j hj) (λxs ih u h=>eE (P:=λc'=>CV.bI g c'=some (.cB xs)) h λys hy=>congrArg (dg CV.cB)<|ih hy) (λxs ih u h=>eE (P:=λc'=>CV.bI g c'=some (.sl xs)) h λys hy=>congrArg (dg CV.sl)<|ih hy)
  (λu u u=>L rfl rfl) (λu=>L rfl rfl) (λu=>L rfl rfl) (λu=>L rfl rfl) (L rfl rfl) (λh=>sI (P:=λys=>CV.gn g ys=some []) h rfl)
  (λx xs i1 i2 u h=>kl h λy hy h=>eE (P:=λys=>CV.gn g ys=some (x::xs)) h λys km=>gC (i1 hy)<|i2 km) c
theorem CV.ajx:∀{ys},CV.gn f xs=some ys->CV.gn g ys=some xs:=by induction xs with|nil=>exact λh=>sI (P:=λys=>CV.gn g ys=some []) h rfl|cons x xs ih=>exact λh=>kl h λy hy h=>eE (P:=λys=>CV.gn g ys=some (x::xs)) h λys km=>gC (CV.DT lI x hy)<|ih km
theorem ON:∀{ys},jh f xs=some ys->jh g ys=some xs:=by induction xs with|nil=>exact λh=>sI (P:=λys=>jh g ys=some []) h rfl|cons x xs ih=>exact λh=>kl h λy hy h=>eE (P:=λys=>jh g ys=some (x::xs)) h λys km=>gC (g:=λy=>(x.1,y)) (CV.DT lI x.2 hy)<|ih km
theorem ajy:∀{ys},qi f xs=some ys->qi g ys=some xs:=by induction xs with|nil=>exact λh=>sI (P:=λys=>qi g ys=some []) h rfl|cons x xs ih=>exact λh=>kl h λy hy h=>eE (P:=λys=>qi g ys=some (x::xs)) h λys km=>gC (g:=λy=>(x.1,y)) (lI _ _ hy)<|ih km
theorem ajz {d d':Option Nat}(h:ur f d=some d'):ur g d'=some d:=by cases d with|none=>exact sI (P:=λd'=>ur g d'=some none) h rfl|some k=>exact eE (P:=λd'=>ur g d'=some (some k)) h λj hj=>congrArg (dg some)<|lI k j hj
theorem ae.DT o {o':ae}(h:o.bI f=some o'):o'.bI g=some o:=by
 cases o with
 |list xs=>exact eE (P:=λo=>ae.bI g o=some (.list xs)) h λys hy=>congrArg (dg ae.list) (CV.ajx lI hy)|frame xs=>exact eE (P:=λo=>ae.bI g o=some (.frame xs)) h λys hy=>congrArg (dg ae.frame) (ON lI hy)|cell v=>
  cases v with
  |none=>exact sI (P:=λo=>ae.bI g o=some (.cell none)) h rfl|some v=>exact eE (P:=λo=>ae.bI g o=some (.cell<|some v)) h λys hy=>congrArg (dg λy=>ae.cell<|some y)<|CV.DT lI v hy
 |bE C k=>exact eE (P:=λo=>ae.bI g o=some (.bE C k)) h λj hj=>rE (lI k j hj)|bt xs=>exact eE (P:=λo=>ae.bI g o=some (.bt xs)) h λys hy=>congrArg (dg ae.bt) (ON lI hy)|map xs=>exact eE (P:=λo=>ae.bI g o=some (.map xs)) h λys hy=>congrArg (dg ae.map) (ON lI hy)|d3 p b s cells dd=>exact kl h λcs hc h=>eE (P:=λo=>ae.bI g o=some (.d3 p b s cells dd)) h λds hd=>FZ (ajy lI hc) (ajz lI hd)|bg F k=>exact eE (P:=λo=>ae.bI g o=some (.bg F k)) h λj hj=>congrArg (dg<|ae.bg F) (lI k j hj)|jf k s=>exact eE (P:=λo=>ae.bI g o=some (.jf k s)) h λj hj=>congrArg (dg λj=>ae.jf j s) (lI k j hj)|gc k i=>exact eE (P:=λo=>ae.bI g o=some (.gc k i)) h λj hj=>congrArg (dg λj=>ae.gc j i) (lI k j hj)|mR|ki|iz|qg=>exact sI (P:=λo=>ae.bI g o=some _) h rfl
end
theorem bM.wR {f wt:CV}{args wu:List CV}{kw ww:List (Str×CV)}{st iE ext ext':List ae}{v s6:CV} aU (h:bM d wt wu ww iE s6 (iE++ext))(hn:aU.Nodup)(hs:g4 aU st=some iE)(hf:f.bI (eW aU)=some wt)(ha:CV.gn (eW aU) args=some wu)(hk:jh (eW aU) kw=some ww) (he:lA (ae.bI (jT aU st.length)) ext=some ext')(hv:s6.bI (jT aU st.length)=some v):bM d f args kw st v (st++ext'):=
 h.at aU hn hs hf ha hk ((by
  have rL:=AI hs;have aZ:=yj hs;unfold uE;rw[dJ,rL,sG];refine wI (by simp [AI he]) λi k o e1 e2=>?_;have hi:i<st.length+ext.length:=by simpa using ((bV.mp e1).1)
  rw[iS hi] at e1;obtain rfl:=dE e1;by_cases h:i<st.length
  ·rw[if_pos h];rw[d2 h] at e2;cases hp:eW aU i with
   |none=>exact e2|some j=>
    have hj:=GH hp;have pj:j<iE.length:=by rw[rL];exact(bV.mp hj).1
    dsimp only;rw[d2 pj];obtain⟨y,h1,h2⟩:=Mg hs hj;rw[h1];rw[e2] at h2;refine ae.DT (λk j e=>?_) o h2;unfold jT;rw[GH e]
  rw[if_neg h];have h1:(iE++ext)[aU.length+(i-st.length)]?=ext[i-st.length]?:=by rw[dT (by exact ah [_,_,_] (.eq .o .i<|.gl .o<|.a .i .u) rfl rL),rL,sG]
  rw[h1];rw[dT<|by exact o8 h] at e2;have X9:i-st.length<ext.length:=by exact ah [_,_,_,_] (.eq (.a .w .i) .o<|.lt .o (.a .i .u)<|.c 0 0 (.no<|.lt .o .i)<|.g 1 0<|.lt .w .u) rfl (Nat.sub_add_cancel<|Nat.le_of_not_lt h) hi h
  obtain⟨y,h3,h4⟩:=Mg he<|bA X9;rw[bA X9];rw[e2] at h3;obtain rfl:=dE h3;exact h4)) hv
theorem nf {aU:List Nat}{i j:Nat}(h:j=aU.length+i):jT aU n j=some (n+i):=by subst h;unfold jT;rw[Rl.mpr<|vH _ _,sG]
end
section
theorem OO {d:Nat}{f:CV}{args:List CV}{st:List ae}{v:CV}(h:bM d f args [] [] v [])(h3:f.lo 0=true)(h4:CV.cV 0 args=true)(h6:v.lo 0=true):bk d f args [] st v st:=by exact h.call.wide (g:=st) rfl rfl rfl h3 h4 rfl h6
theorem H8:jz X.K (.ref 206)=true:=iG (by kernel_rfl)
theorem X':jz X.K (.ref 224)=true:=iG (by kernel_rfl)
theorem ajB:∀{d} {st} {k} {xs} {x},st[k]?=some (ax xs)->xs.length<2^20->bk (d+3) (.aH 206) [.ab k,.str x] [] st (.int (bR bP xs x 0 xs.length:Nat)) st:=λ{d st k xs x} hk hl=>((b20 true (qA (rest:=[("lo",.int 0),("hi",.none),("key",.none)]) (i6:=[("lo",.int 0 570),("hi",.none),("key",.none)]) (λv1 v2 S=>by kernel_rfl)<|W'<|tz<|tz gF) (xu hl<|by decide)<|dQ _).H0 hk (cJ xs) rfl rfl).call
theorem OP:∀{d} {st} {k} {xs} {x} {hi},st[k]?=some (ax xs)->xs.length<2^20->hi<=xs.length->bk (d+3) (.aH 206) [.ab k,.str x,.int 0,.int (hi:Nat)] [] st (.int (bR bP xs x 0 hi:Nat)) st:=λ{d st k xs x hi} hk hl hh=>((b06 (ahg (λv1 v2 v3 v4 S=>by kernel_rfl)<|tz gF) (xu hl<|by decide) (dQ _) hh).H0 hk (cJ xs) rfl rfl).call
theorem ajC:∀{d} {st} {k} {xs} {x},st[k]?=some (ax xs)->xs.length<2^20->bk (d+3) (.aH 224) [.ab k,.str x] [] st (.int (bL bP xs x 0 xs.length:Nat)) st:=λ{d st k xs x} hk hl=>((b20 false (qA (rest:=[("lo",.int 0),("hi",.none),("key",.none)]) (i6:=[("lo",.int 0 597),("hi",.none),("key",.none)]) (λv1 v2 S=>by kernel_rfl)<|W'<|tz<|tz gF) (xu hl<|by decide)<|dQ _).H0 hk (cJ xs) rfl rfl).call
theorem ajD:∀{d} {st} {k} {xs} {x} {lo},st[k]?=some (ax xs)->xs.length<2^20->lo<=xs.length->bk (d+3) (.aH 224) [.ab k,.str x,.int (lo:Nat)] [] st (.int (bL bP xs x lo xs.length:Nat)) st:=λ{d st k xs x lo} hk hl hh=>((b20 false (NL (λv1 v2 v3 S=>by kernel_rfl)<|tz<|tz gF) (xu hl<|by decide) hh).H0 hk (cJ xs) rfl rfl).call
structure om (st:List ae)(i0 i1 i2:Nat)(hs:List (Str×Str)):Prop where
 h0:st[i0]?=some (.bt [("_headers",.ab i2)])
 h1:st[i1]?=some (.bE 184 i0)
 h2:st[i2]?=some (.list (hs.map br))
noncomputable def H9 (n:Nat):List ae:=[.bt [("_headers",.ab (n+2))],.bE 184 n,.list []]
theorem Ya {x:Str}(h:dv.lo 0=true):(lG hs x dv).lo 0=true:=by
 show(CV.lo 0 (match eH hs (bZ x) with
  |some v=>.str v|none=>dv))=true
 cases eH hs (bZ x) with|none=>exact h|some v=>rfl
section
variable {d:Nat}{st:List ae}{a:ai}{rest:List CV}{hs iD:List (Str×Str)}{i0 i1 i2:Nat}{v:CV}
theorem Yb (h:bM d (.aH a) (.ab 1::rest) [] (bB hs) v (bB hs))(hA:om st i0 i1 i2 hs)(hr:CV.cV 0 rest=true)(hv:v.lo 0=true):bk d (.aH a) (.ab i1::rest) [] st v st:=by have:=(h.OH hA.h0 hA.h1 hA.h2 hr hv).call;rwa[Dt hA.h2] at this
end
theorem Yc:jz X.K (.ref 184)=true:=iG (by kernel_rfl)
theorem Ia:jz X.K (.ref 131)=true:=iG (by kernel_rfl)
theorem Yd:jz X.K (.ref 181)=true:=iG (by kernel_rfl)
theorem Ye:jz X.K (.ref 174)=true:=iG (by kernel_rfl)
theorem Ib:jz X.K (.ref 148)=true:=iG (by kernel_rfl)
theorem ajE:∀{d} {st},bk (d+5) (.aH 184) [] [] st (.ab (st.length+1)) (st++H9 st.length):=λ{d st}=>by refine(bM.wR [] (aiT (d:=d+2) (by kernel_rfl)<|pe (rest:=[("headers",.none)]) (i6:=[("headers",.none)]) (λv1 S=>by kernel_rfl)<|tz gF) (by simp) rfl rfl rfl rfl ?_ (ij<|nf (j:=1) (i:=1) rfl)).call;exact cq (uv<|nf (j:=2) (i:=2) rfl)<|cq (rE<|nf (j:=0) (i:=0) rfl)<|cq rfl iF
theorem ajF:∀{d} {st} {k} {hs:List (Str×Str)},st[k]?=some (.list (hs.map br))->(∀p∈hs,bY p.1∧dH p.2)->bk (d+5) (.aH 184) [.ab k] [] st (.ab (st.length+1)) (st++[.bt [("_headers",.ab k)],.bE 184 st.length]):=λ{d st k hs} hk mZ=>by
 refine(bM.wR [k] (aiX (d:=d) (by kernel_rfl) mZ<|qA (λv1 v2 S=>by kernel_rfl) gF) (by simp) ?_ rfl ?_ rfl ?_ ?_).call
 ·unfold g4;exact cq (gq hk<|fz<|na _ _) iF
 ·exact gC (ij<|gr [k] 0 k (by simp) rfl) rfl
 ·refine cq rfl (cq ?_ iF);exact rE<|nf (i:=0) rfl
 exact ij<|nf rfl
theorem Ic:∀{d} {st} {i0 i1 i2} {hs},om st i0 i1 i2 hs->gM d "get" (.ab i1) st (.aH 131) [.ab i1]:=λhA=>ta (Dv) hA.h1 hA.h0 rfl (yO).find (yO).ty
theorem Yf:∀{d} {st} {i0 i1 i2} {hs},om st i0 i1 i2 hs->gM d "add_header" (.ab i1) st (.aH 181) [.ab i1]:=λhA=>ta (Dv) hA.h1 hA.h0 rfl (NS).find (NS).ty
theorem Yg:∀{d} {st} {i0 i1 i2} {hs},om st i0 i1 i2 hs->gM d "setdefault" (.ab i1) st (.aH 174) [.ab i1]:=λhA=>ta (Dv) hA.h1 hA.h0 rfl (Hq).find (Hq).ty
theorem Ie:∀{d} {st} {i0 i1 i2} {hs},om st i0 i1 i2 hs->gM d "items" (.ab i1) st (.aH 148) [.ab i1]:=λhA=>ta (Dv) hA.h1 hA.h0 rfl (NR).find (NR).ty
theorem OQ:∀{d} {st} {i0 i1 i2} {hs} {x},om st i0 i1 i2 hs->(∀p∈hs,bY p.1)->bY x->bk (d+4) (.aH 131) [.ab i1,.str x] [] st (lG hs x .none) st:=λ{d st i0 i1 i2 hs x} hA mZ hx=>Yb (Ou rfl (λp hp=>(uZ<|mZ p hp).2.1) (uZ hx).2.1 (uZ hx).1 (qA (λv1 v2 S=>by kernel_rfl)<|tz gF)) hA rfl (Ya rfl)
theorem ajG:∀{d} {st} {i0 i1 i2} {hs} {x y},om st i0 i1 i2 hs->(∀p∈hs,bY p.1)->bY x->bk (d+4) (.aH 131) [.ab i1,.str x,.str y] [] st (lG hs x (.str y)) st:=λ{d st i0 i1 i2 hs x y} hA mZ hx=>Yb (Ou rfl (λp hp=>(uZ<|mZ p hp).2.1) (uZ hx).2.1 (uZ hx).1 (NL (λv1 v2 v3 S=>by kernel_rfl) gF)) hA rfl (Ya rfl)
theorem Yh:∀{d} {st} {i0 i1 i2} {hs} {x v},om st i0 i1 i2 hs->bY x->dH v->hs.length<=1000000->bk (d+4) (.aH 181) [.ab i1,.str x,.str v] [] st .none (st.set i2 (.list ((hs++[(x,v)]).map br))):=λ{d st i0 i1 i2 hs x v} hA hx hv hl=>by
 have hb:db Cv (bB hs) [CV.ab 1,.str x,.str v] [] (([("self",CV.ab 1),("_name",.str x),("_value",.str v)]:List (Str×CV))++([("_params",CV.ab (bB hs).length)]:List (Str×CV))) (bB hs++[.iz]):=
  ahd (kE λv1=>kE λv2=>kE λv3=>yN ⟨[("self",v1),("_name",v2),("_value",v3)],λown h r=>NK (k:=[]) rfl ["self","_name","_value"] _ _ r,by kernel_rfl⟩)
 exact((aiO hx hv hl (aiB hv) hb).OH hA.h0 hA.h1 hA.h2 rfl rfl).call
theorem Yi:∀{d} {st} {i0 i1 i2} {hs} {x v},om st i0 i1 i2 hs->(∀p∈hs,bY p.1)->bY x->dH v->hs.length<=1000000->bk (d+6) (.aH 174) [.ab i1,.str x,.str v] [] st (.str (tH hs x v)) (st.set i2 (.list ((tG hs x v).map br))):=λ{d st i0 i1 i2 hs x v} hA mZ hx hv hl=>((aiQ (λp hp=>(uZ<|mZ p hp).2.1) (uZ hx).2.1 (uZ hx).1 hx hv hl (qA (λv1 v2 S=>by kernel_rfl)<|tz gF)<|NL (λv1 v2 v3 S=>by kernel_rfl) gF).OH hA.h0 hA.h1 hA.h2 rfl rfl).call
theorem Ig:∀{d} {st} {i0 i1 i2} {hs},om st i0 i1 i2 hs->hs.length<=1000000->bk (d+2) (.aH 148) [.ab i1] [] st (.ab st.length) (st++[.list (hs.map br)]):=λ{d st i0 i1 i2 hs} hA hl=>by
 have h:=aiP (d:=d) (λst k=>pe (λv1 S=>by kernel_rfl) gF) hl;have DS:i0≠i1:=λe=>by have:=hA.h1;rw[<-e,hA.h0] at this;cases this
 have Bg:i0≠i2:=λe=>by have:=hA.h2;rw[<-e,hA.h0] at this;cases this
 have Bh:i1≠i2:=λe=>by have:=hA.h2;rw[<-e,hA.h1] at this;cases this
 have hn:[i0,i1,i2].Nodup:=by simp [DS,Bg,Bh]
 refine(h.wR [i0,i1,i2] hn ?_ rfl ?_ rfl (cq (fz<|na _ _) iF) (ij<|nf (j:=3) (i:=0) rfl)).call
 ·unfold g4;exact cq (gq hA.h0<|uv<|gr _ 2 _ hn rfl)<|cq (gq hA.h1<|rE<|gr _ 0 _ hn rfl)<|cq (gq hA.h2<|fz<|na _ _) iF
 exact gC (ij<|gr _ 1 _ hn rfl) rfl
theorem OR:∀(l:List α) {j},l.length=j+1->l.eraseIdx j=l.dropLast
 |[],j,h=>by cases h|[x],j,h=>by
  obtain rfl:j=0:=by simpa using h.symm
  rfl
 |x::y::l,0,h=>by simp at h|x::y::l,j+1,h=>by rw[RP,OR (y::l)<|by simpa using h];rfl
theorem vi {x:Str}(h:x≠""):((x.length:Int) != 0)=true:=by have:x.length≠0:=λe=>h<|xC<|Rd e;simpa using this
theorem OS:((("":Str).length:Int) != 0)=false:=by decide
variable {d:Nat}{c:aY}
theorem Yj {T:List ae}{x y:ae}(h:T.length=n):(T++x::y::g)[n+1]?=some y:=by subst h;rw[dT<|ke _,Ks<|aG _,fk];rfl
theorem ajH {T:List ae}{x y:ae}(h:T.length=n):(T++x::y::g).set (n+1) z=T++x::z::g:=by subst h;rw[Fl _ _<|ke _,Ks<|aG _,fk];rfl
theorem y4 {x:Str}{pos:Pos}{T:List ae}{o:ae}(hT:T.length=n)(hl:c.locals=n+1)(h1:c.scope.names.lookup x=some .local):dj d c (.Name x pos) v (T++o::.frame fv::g) (T++o::.frame (mj fv x v)::g):=by apply wg;rw[ada h1 (by rw[hl];exact Yj hT),hl,ajH hT]
theorem nh {x:Str}{pos:Pos}{T:List ae}{o:ae}(hd:(x==("__debug__":Str))=false)(hc:(x==("__classdict__":Str))=false)(hT:T.length=n)(hl:c.locals=n+1)(h1:c.scope.names.lookup x=some .local)(h3:fv.lookup x=some v)(h4:v.uw=false):a8 d c (.Name x pos) (T++o::.frame fv::g) v (T++o::.frame fv::g):=
 eu hd hc (CG h1 (hl▸Yj hT) h3 h4)
theorem Yk {items:List CV}{step:Nat->CV->Option CV}(po:∀i v y,items[i]?=some v->step i v=some y->y.lo n=true) xs:∀i,items.drop i=xs->CV.cV n (ex step i xs)=true:=by
 induction xs with
 |nil=>intro i _;rfl|cons y ys ih=>
  intro i hd;have hy:items[i]?=some y:=by have:=sL (xs:=items) (i:=i) (j:=0);rw[hd] at this;exact this.symm
  have lC:items.drop (i+1)=ys:=by rw[<-Ki,hd];rfl
  rw[y3];cases hs:step i y with|none=>exact ih (i+1) lC|some z=>show(z.lo n&&_)=true;rw[po i y z hy hs,ih (i+1) lC];rfl
noncomputable def cv1:CV->CV
 |.cB (a::x)=>a|_=>.none
noncomputable def cv2:CV->CV
 |.cB (x::b::u)=>b|_=>.none
theorem ajL {x y:Str}{w:CV}:Internal.fj [x,y] [(x,v),(y,w)]=[(x,.any),(y,.any)]:=by simp [Internal.fj]
theorem OT {x:Str}{w:CV}:mj ((x,w)::r) x v=(x,v)::r:=by show(if x==x then(x,v)::r else(x,w)::mj r x v)=_;rw[beq_self_eq_true];rfl
theorem ajM {x y:Str}{w:CV}(h:(x==y)=false):mj ((y,w)::r) x v=(y,w)::mj r x v:=by show(if x==y then(x,v)::r else(y,w)::mj r x v)=_;rw[h];rfl
theorem oo {elt iter:aq}{ifs:List aq}{scope:d8}{pos px:Pos}{x:Str}{T st:List ae}{n:Nat}{items:List CV}{P:List ae->Prop}{step:Nat->CV->Option CV}{a:CV}{cl:List (Str×Nat)}(J:b32 d c elt iter ifs fJ scope pos px x T st n P a cl items) (kD:∀i v acc,CV.cV n acc=true->items[i]?=some v->step i v=none->mr d (cI c scope (n+1) cl) ifs (T++[.list acc,.frame [(x,v)]]) false (T++[.list acc,.frame [(x,v)]])) (rN:∀i v acc y,CV.cV n acc=true->items[i]?=some v->step i v=some y->∃ag,mr d (cI c scope (n+1) cl) ifs (T++[.list acc,.frame [(x,v)]]) true ag∧a8 d (cI c scope (n+1) cl) elt ag y (T++[.list acc,.frame [(x,v)]])) (po:∀i v y,items[i]?=some v->step i v=some y->y.lo n=true):b41 d c (.ListComp elt [⟨.Name x px,iter,ifs,fJ⟩] scope pos) st (.ab n) (T++[.list (ex step 0 items)]):=by
 obtain⟨J,hx,hi,hs,hP,hT,d6,OU,bn⟩:=J;refine H7 (ol:=[(x,.any)]) (ns:=[x]) J hi hs (dM T▸hP []) (hP _) (λu=>hT) rfl (λu=>(by simp [Internal.fj])) (λi acc=>hP _) ?_ kD rN po bn d6 ?_
 ·intro i v acc _;have:=y4 (d:=d) (c:=cI c scope (n+1) cl) (pos:=px) (g:=[]) (o:=.list acc) (fv:=[(x,.any)]) (v:=v) hT rfl hx;rwa[OT] at this
 apply cC<|Bl (ke _) OU;rw[bU,cG,cP];exact CV.vh (ke _) _<|Yk po items 0 rfl
theorem b29 {α:Type}{f:α->Bool}{ψ φ:α->CV}{ys:List α}:∀{xs:List α} {i},(∀j,ys[i+j]?=xs[j]?)->ex (λi u=>(ys[i]?).bind λa=>if f a=true then some (ψ a) else none) i (xs.map φ)=(xs.filter f).map ψ
 |[],i,h=>rfl|x::xs,i,h=>by
  have r:=b29 (f:=f) (ψ:=ψ) (φ:=φ) (i:=i+1) λj=>by rw[RR,zR 1];exact h<|j+1
  have h:ys[i]?=some x:=h 0;rw[eC,y3,h,sR,r];show(match(if f x=true then some (ψ x) else none) with|some y=>_|none=>_)=_;cases f x<;>rfl
theorem b30 {α:Type}{elt iter:aq}{ifs:List aq}{scope:d8}{pos px:Pos}{x:Str}{T st:List ae}{n:Nat}{P:List ae->Prop}{a:CV}{cl:List (Str×Nat)}{xs:List α}(f:α->Bool)(ψ φ:α->CV)(J:b32 d c elt iter ifs fJ scope pos px x T st n P a cl (xs.map φ)) (h:∀v∈xs,∀acc,CV.cV n acc=true->mr d (cI c scope (n+1) cl) ifs (T++[.list acc,.frame [(x,φ v)]]) (f v) (T++[.list acc,.frame [(x,φ v)]])∧(f v=true->a8 d (cI c scope (n+1) cl) elt (T++[.list acc,.frame [(x,φ v)]]) (ψ v) (T++[.list acc,.frame [(x,φ v)]]))∧(ψ v).lo n=true):b41 d c (.ListComp elt [⟨.Name x px,iter,ifs,fJ⟩] scope pos) st (.ab n) (T++[.list ((xs.filter f).map ψ)]):=by
 rw[<-b29 λj=>by rw[Nat.zero_add]];have g:∀{i v},(xs.map φ)[i]?=some v->∃b∈xs,xs[i]?=some b∧v=φ b:=λ{i v} e=>by rw[List.getElem?_map] at e;cases h:xs[i]? with|none=>rw[h] at e;exact nS e|some b=>rw[h] at e;obtain rfl:=dE e;exact⟨b,c8 h,h,rfl⟩
 refine oo J (λi v acc du hv e=>?_) (λi v acc y du hv e=>?_)<|λi v y hv e=>?_;all_goals
  obtain⟨b,hb,hi,rfl⟩:=g hv;rw[hi] at e;change(if f b=true then some (ψ b) else none)=_ at e;have h:=h b hb;cases hf:f b<;>rw[hf] at e h<;>cases e
 exact(h acc du).1;exact⟨_,(h acc du).1,(h acc du).2.1 rfl⟩;exact(h [] rfl).2.2
theorem b31 {α:Type}{elt iter:aq}{scope:d8}{pos px:Pos}{x:Str}{T st:List ae}{n:Nat}{P:List ae->Prop}{a:CV}{cl:List (Str×Nat)}{xs:List α}(ψ φ:α->CV)(J:b32 d c elt iter [] fJ scope pos px x T st n P a cl (xs.map φ)) (h:∀v∈xs,∀acc,CV.cV n acc=true->a8 d (cI c scope (n+1) cl) elt (T++[.list acc,.frame [(x,φ v)]]) (ψ v) (T++[.list acc,.frame [(x,φ v)]])∧(ψ v).lo n=true):b41 d c (.ListComp elt [⟨.Name x px,iter,[],fJ⟩] scope pos) st (.ab n) (T++[.list (xs.map ψ)]):=by have:=b30 (λx=>true) ψ φ J λv hv acc du=>⟨oT,λx=>(h v hv acc du).1,(h v hv acc du).2⟩;rwa[List.filter_eq_self.2 λx y=>rfl] at this
theorem ajN {elt iter:aq}{ifs:List aq}{scope:d8}{pos p1 p2 pt:Pos}{x1 x2:Str}{kt:Nat}{fJ} {T st:List ae}{n:Nat}{items:List CV}{P:List ae->Prop}{step:Nat->CV->Option CV}{a:CV}{cl:List (Str×Nat)} (J:b40 c (.ListComp elt [⟨.Tuple [.Name x1 p1,.Name x2 p2] kt pt,iter,ifs,fJ⟩] scope pos) scope cl) (tK:(nU scope c.scope).names.lookup x1=some .local)(OV:(nU scope c.scope).names.lookup x2=some .local)(cz:x1≠x2)(hi:a8 d c iter st a T)(hs:Nonempty (iY a items P))(hP:∀g,P (T++g))(hT:T.length=n)(d6:st.length<=n)(OU:(T.all λo=>o.lo n)=true) (i3:∀(i:Nat) v,items[i]?=some v->∃a b,v=CV.cB [a,b]) (kD:∀i a b acc,CV.cV n acc=true->items[i]?=some (.cB [a,b])->step i (.cB [a,b])=none->mr d (cI c scope (n+1) cl) ifs (T++[.list acc,.frame [(x1,a),(x2,b)]]) false (T++[.list acc,.frame [(x1,a),(x2,b)]])) (rN:∀i a b acc y,CV.cV n acc=true->items[i]?=some (.cB [a,b])->step i (.cB [a,b])=some y->∃ag,mr d (cI c scope (n+1) cl) ifs (T++[.list acc,.frame [(x1,a),(x2,b)]]) true ag∧a8 d (cI c scope (n+1) cl) elt ag y (T++[.list acc,.frame [(x1,a),(x2,b)]])) (po:∀i v y,items[i]?=some v->step i v=some y->y.lo n=true)(bn:items.length<=2^20):b41 d c (.ListComp elt [⟨.Tuple [.Name x1 p1,.Name x2 p2] kt pt,iter,ifs,fJ⟩] scope pos) st (.ab n) (T++[.list (ex step 0 items)]):=by
 have OW:=beq_eq_false_iff_ne.mpr<|rc cz;refine H7 (mC:=λv=>[(x1,cv1 v),(x2,cv2 v)]) J hi hs (dM T▸hP []) (hP _) (λu=>hT) rfl (λu=>ajL) (λi acc=>hP _) ?_ ?_ ?_ po bn d6 ?_
 ·intro i v acc hv;obtain⟨a,b,rfl⟩:=i3 i v hv;have A1:=y4 (d:=d) (c:=cI c scope (n+1) cl) (pos:=p1) (g:=[]) (o:=.list acc) (fv:=[(x1,.any),(x2,.any)]) (v:=a) hT rfl tK;have A2:=y4 (d:=d) (c:=cI c scope (n+1) cl) (pos:=p2) (g:=[]) (o:=.list acc) (fv:=[(x1,a),(x2,.any)]) (v:=b) hT rfl OV;rw[OT] at A1;rw[ajM OW,OT] at A2;exact U1 (UY rfl)<|LK rfl A1 (LK rfl A2 UZ)
 ·intro i v acc du hv hs;obtain⟨a,b,rfl⟩:=i3 i v hv;exact kD i a b acc du hv hs
 ·intro i v acc y du hv hs;obtain⟨a,b,rfl⟩:=i3 i v hv;exact rN i a b acc y du hv hs
 apply cC<|Bl (ke _) OU;rw[bU,cG,cP];exact CV.vh (ke _) _<|Yk po items 0 rfl
end
set_option hygiene false in
local macro_rules | `(tactic| walk_at "oa") => `(tactic| first | exact trivial | exact gP | exact yn | exact afo | exact afp | exact wM | (show (_ : Nat) ≤ cX; decide))
set_option hygiene false in
local macro_rules | `(tactic| walk_at "ob1") => `(tactic| walk_at "oa")
set_option hygiene false in
local macro_rules | `(tactic| walk_at "obs") => `(tactic| ((repeat' (first | exact aX | refine am ?_ ?_)) <;> try walk_at "ob1"))
section
variable {d:Nat}
abbrev eR:aY:=da qe.scope 4 none
noncomputable def bS (r w c i:CV):List (Str×CV):=[("r",r),("word",w),("c",c),("i",i)]
def y5:List bl:=(dc qe.body).2.2
def tQ:aq:=ew (iL (g7 (rO y5 0) 0)) 0
section
variable {hs aD:List (Str×Str)}{aj:List Str}{kc:Option CV}{more:List (Str×CV)}{ay:List Nat}{ao au:List (List Str)}
def qI (au:List (List Str))(x:Str)(i:Nat)(_:CV):Option CV:=match au[i]? with
 |some row=>if j3 (·== ·) x row then some (af i) else none|none=>none
theorem OX {α:Type}{xs:List α}{lo hi st:Option Int}{p:α->Prop}(h:∀y∈xs,p y):∀y∈e7 xs lo hi st,p y:=λy hy=>by obtain⟨i,_,e⟩:=E7.mp hy;exact h y<|c8 e
theorem lJ:∀{xs},CV.g6 xs=true↔∀x∈xs,x.gg=true
 |[]=>⟨λu u h=>(nomatch h),λu=>rfl⟩|x::xs=>by rw[CV.GQ,bz,lJ,zK]
theorem qJ (xs:List Str):∀y∈xs.map CV.str,y.gg=true:=λy hy=>by obtain⟨s,_,rfl⟩:=cu.mp hy;rfl
theorem ajO {xs:List CV}{lo hi st:Option Int}(h:∀y∈xs,y.gg=true):CV.g6 (e7 xs lo hi st)=true:=lJ.mpr<|OX h
theorem vj:∀{xs},(∀y∈xs,y.s8=0)->CV.jV xs=0
 |[],u=>rfl|x::xs,h=>by rw[CV.GR,h x<|.head _,vj λy hy=>h y<|.tail _ hy];rfl
theorem qK {i:Nat}(h:((aK n).map af)[i]?=some v):i<n∧v=af i:=by
 rw[dN] at h;obtain⟨a,h1,h2⟩:=oI.mp h;have hi:i<n:=by simpa using (bV.mp h1).1
 rw[iS hi] at h1;obtain rfl:=dE h1;exact⟨hi,h2.symm⟩
theorem ajP {x:Str}{row:List Str}:mY (e7 (row.map CV.str) (some (-1)) none none) [CV.str x]=j3 (·== ·) x row:=by
 rw[Hf,aV];have e1:eZ (some<|-1) row.length=row.length-1:=by exact WX _
 rw[e1];show mY ((row.map CV.str).drop (row.length-1) |>.take (row.length-(row.length-1))) _=row.getLast?.elim false λv=>v==x;cases h:row.getLast? with
 |none=>rw[List.getLast?_eq_none_iff] at h;subst h;rfl|some v=>
  have cz:row≠[]:=λe=>by subst e;simp at h
  obtain⟨pre,rfl⟩:∃pre,row=pre++[v]:=by refine⟨row.dropLast,?_⟩;rw[List.getLast?_eq_some_getLast cz] at h;obtain rfl:=dE h;exact(List.dropLast_concat_getLast cz).symm
  have e:((pre++[v]).map CV.str).drop ((pre++[v]).length-1)=[.str v]:=by rw[dJ,fU];exact List.drop_left'<|aV _
  rw[e,dJ,show pre.length + [v].length-(pre.length + [v].length-1)=1 from sG pre.length 1];exact cP<|v==x
theorem ajQ {k:Nat}{x:Str}(hk:aj[k]?=some x)(cp:aj.length<2^18)(hb:au.length<2^18)(hr:∀row∈au,row.length<2^18)(hm:(more.all λp=>p.2.lo (14+ao.length+au.length))=true):a8 (d+10) eR tQ (TS hs aj (some (af k)) more ay ao aD au) (.ab (14+ao.length+au.length)) (TS hs aj (some (af k)) more ay ao aD au++[.list (ex (qI au x) 0 ((aK au.length).map af))]):=by
 have hn:(TS hs aj (some<|af k) more ay ao aD au).length=14+ao.length+au.length:=hO;have cL:bk (d+10) (.bi "len") [.ab 8] [] (TS hs aj (some<|af k) more ay ao aD au) (.int au.length) (TS hs aj (some<|af k) more ay ao aD au):=by have:=uJ (d:=d+10) (st:=TS hs aj (some<|af k) more ay ao aD au) (k:=8) (xs:=dX (14+ao.length) au.length) rfl (by simp [dX];exact ah [_] (.lt .o (.n<|2^18)<|.g 1 0<|.it (.c .o)<|.n 9223372036854775808) rfl hb);simpa [dX] using this
 have iter:=dk (d:=d+10) (c:=eR) (st:=TS hs aj (some<|af k) more ay ao aD au) (sc:=[.val<|.int au.length,.val<|.fW 0 au.length 1]) (e:=(kZ tQ)) rfl (by walk_at "obs";exact cL);have b9:((TS hs aj (some<|af k) more ay ao aD au).all λo=>o.lo<|14+ao.length+au.length)=true:=Bm rfl hm (aG _);have key:∀(i:Nat) (v:CV) (acc:List CV) (cc:aY) (e:aq),cc=cI eR (fH tQ) (14+ao.length+au.length+1) [("rows",6),("places",5),("k",7)]->e=(wE tQ)->
  CV.cV (14+ao.length+au.length) acc=true->((aK au.length).map af)[i]?=some v->
  fx (d+10) cc e (TS hs aj (some<|af k) more ay ao aD au++[ae.list acc,ae.frame [("i",v)]]) (qI au x i v).isSome (TS hs aj (some<|af k) more ay ao aD au++[ae.list acc,ae.frame [("i",v)]]):=by
  intro i v acc cc e Ds he du hv;subst Ds;subst he;obtain⟨hi,kW⟩:=qK hv;subst kW;have ey:au[i]?=some au[i]:=bA hi;generalize au[i]=row at ey;have hS:(TS hs aj (some<|af k) more ay ao aD au++[ae.list acc,ae.frame [("i",af i)]]).length=14+ao.length+au.length+2:=by rw[dJ,hn];rfl
  have g1:a8 (d+10) (cI eR (fH tQ) (14+ao.length+au.length+1) [("rows",6),("places",5),("k",7)]) (ew (wE tQ) 0)
   (TS hs aj (some<|af k) more ay ao aD au++[ae.list acc,ae.frame [("i",af i)]]) (.ab<|14+ao.length+au.length+2) ((TS hs aj (some<|af k) more ay ao aD au++[ae.list acc,ae.frame [("i",af i)]])++[.list<|e7 (row.map CV.str) (some<|-1) none none]):=by
   have r1:∀e,fF (d+10) e (.ab 8) (af i) (TS hs aj (some<|af k) more ay ao aD au++[ae.list acc,ae.frame [("i",af i)]]) (.ab<|14+ao.length+i) (TS hs aj (some<|af k) more ay ao aD au++[ae.list acc,ae.frame [("i",af i)]]):=λe=>
    uI rfl (by exact SE hb hi) (by simp [dX,aV,fb];exact rM hi) (X2 hi)
   have r2:=λe=>Dd (d:=d+10) (e:=e) (a:=.int<|-1) (b:=.none) (z:=.none) (nc (hs:=hs) (aj:=aj) (kc:=some<|af k) (more:=more) (ay:=ay) (ao:=ao) (aD:=aD) (g:=[ae.list acc,ae.frame [("i",af i)]]) ey) rfl rfl rfl (by decide) (by rw[aV];have:=hr row<|c8 ey;show _<=2^24;exact SF this);simp only [hS] at r2;with_unfolding_all exact jC (jC (eu rfl rfl rfl) (nh rfl rfl hn rfl rfl rfl rfl)<|r1 _) (UG (UJ<|UA<|CH rfl) Lx Lx)<|r2 _
  have g2:a8 (d+10) (cI eR (fH tQ) (14+ao.length+au.length+1) [("rows",6),("places",5),("k",7)]) (ew (wE tQ) 1)
   ((TS hs aj (some<|af k) more ay ao aD au++[ae.list acc,ae.frame [("i",af i)]])++[.list<|e7 (row.map CV.str) (some<|-1) none none]) (.ab<|14+ao.length+au.length+3) (((TS hs aj (some<|af k) more ay ao aD au++[ae.list acc,ae.frame [("i",af i)]])++[.list<|e7 (row.map CV.str) (some<|-1) none none])++[.list [.str x]]):=by
   have r3:∀e,fF (d+10) e (.ab 3) (af k) ((TS hs aj (some<|af k) more ay ao aD au++[ae.list acc,ae.frame [("i",af i)]])++[.list<|e7 (row.map CV.str) (some<|-1) none none]) (.str x) ((TS hs aj (some<|af k) more ay ao aD au++[ae.list acc,ae.frame [("i",af i)]])++[.list<|e7 (row.map CV.str) (some<|-1) none none]):=λe=>
    e8 rfl rfl hk (by exact KD cp)
   have r4:a8 (d+10) (cI eR (fH tQ) (14+ao.length+au.length+1) [("rows",6),("places",5),("k",7)]) (ew (wE tQ) 1)
    ((TS hs aj (some<|af k) more ay ao aD au++[ae.list acc,ae.frame [("i",af i)]])++[.list<|e7 (row.map CV.str) (some<|-1) none none]) (.ab ((TS hs aj (some<|af k) more ay ao aD au++[ae.list acc,ae.frame [("i",af i)]])++[ae.list<|e7 (row.map CV.str) (some<|-1) none none]).length) (((TS hs aj (some<|af k) more ay ao aD au++[ae.list acc,ae.frame [("i",af i)]])++[.list<|e7 (row.map CV.str) (some<|-1) none none])++[.list [.str x]]):=by
    exact Lv (oO rfl (jC (eu rfl rfl rfl) (eu rfl rfl rfl)<|r3 _) sW) (show 1<=cX by decide)
   rw[dJ,hS] at r4;exact r4
  have OY:((TS hs aj (some<|af k) more ay ao aD au++[ae.list acc,ae.frame [("i",af i)]])++[ae.list<|e7 (row.map CV.str) (some<|-1) none none]).length=14+ao.length+au.length+3:=by rw[dJ,hS];rfl
  have g3:jj (d+10) .Eq (.ab<|14+ao.length+au.length+2) (.ab<|14+ao.length+au.length+3) (((TS hs aj (some<|af k) more ay ao aD au++[ae.list acc,ae.frame [("i",af i)]])++[.list<|e7 (row.map CV.str) (some<|-1) none none])++[.list [.str x]])
   (.bool<|j3 (·== ·) x row) (((TS hs aj (some<|af k) more ay ao aD au++[ae.list acc,ae.frame [("i",af i)]])++[.list<|e7 (row.map CV.str) (some<|-1) none none])++[.list [.str x]]):=by
   have:=Mz (d:=d+9) (st:=((TS hs aj (some<|af k) more ay ao aD au++[ae.list acc,ae.frame [("i",af i)]])++[.list<|e7 (row.map CV.str) (some<|-1) none none])++[.list [.str x]]) (k:=14+ao.length+au.length+2) (l:=14+ao.length+au.length+3)
    (by rw[d2 (by rw[OY];exact ah [_] (.gt (.a .o<|.n 2)<|.a .o<|.n 3) rfl),dT (by rw[hS];exact KE),hS,fk];rfl) (by rw[dT (by rw[OY];exact KE),OY,fk];rfl) (ajO<|qJ row) rfl (by rw[vj (OX λy hy=>by obtain⟨s,_,rfl⟩:=cu.mp hy;rfl)];exact o6)
   rw[ajP] at this;exact this
  have e:(qI au x i<|af i).isSome=j3 (·== ·) x row:=by
   unfold qI;rw[ey];dsimp only;split
   ·rename_i h;rw[h];rfl
   rename_i h;simp [h]
  rw[e];refine fx.drop (g:=[.list<|e7 (row.map CV.str) (some<|-1) none none]++[.list [.str x]]) ?_ (aG _) ?_
  ·rw[<-eJ];exact F9 rfl g1 g2 g3
  rw[hS];refine cC (Bl (by exact pY) b9) ?_;rw[bU,bU,cG,cP,bz];exact⟨CV.vh (by exact pY) _ du,rfl⟩
 refine oJ<|oo ⟨⟨rfl,rfl,rfl,rfl,rfl⟩,rfl,iter,mE au.length (by exact SG hb),λu=>trivial,hn,ll hn,b9,by rw[aV,fb];exact SG hb⟩ ?_ ?_ ?_
 ·intro i v acc du hv hs;have:=key i v acc _ _ rfl rfl du hv;rw[hs] at this;exact ms this
 ·intro i v acc y du hv hs;have:=key i v acc _ _ rfl rfl du hv;rw[hs] at this;refine⟨_,by exact ms this,?_⟩;obtain⟨hi,kW⟩:=qK hv;have hy:y=v:=by
   unfold qI at hs;rw[bA hi] at hs;dsimp only at hs;split at hs
   ·obtain rfl:=dE hs;exact kW.symm
   exact nS hs
  subst hy;subst kW;exact nh rfl rfl hn rfl rfl rfl rfl
 intro i v y hv hs;obtain⟨hi,kW⟩:=qK hv;unfold qI at hs;rw[bA hi] at hs;dsimp only at hs;split at hs
 ·obtain rfl:=dE hs;rfl
 exact nS hs
end
end
section
variable {d:Nat}
section
variable {hs aD:List (Str×Str)}{aj:List Str}{kc:Option CV}{more:List (Str×CV)}{ay:List Nat}{ao au:List (List Str)}
theorem Yl {au:List (List Str)}{x:Str}:∀(jr:List (List Str)) i,au.drop i=jr->(ex (qI au x) i ((fc i jr.length).map af)).head?=(jr.findIdx? (j3 (·== ·) x)).map λj=>af (i+j)
 |[],i,h=>by rfl|row::jr,i,h=>by
  have hr:au[i]?=some row:=by have:=sL (xs:=au) (i:=i) (j:=0);rw[h] at this;simpa using this.symm
  have lC:au.drop (i+1)=jr:=by rw[<-Ki,h];rfl
  have ih:=Yl (x:=x) jr (i+1) lC;rw[dO,mO,eC,y3,ap4];have e:qI au x i (af i)=if j3 (·== ·) x row then some (af i) else none:=by unfold qI;rw[hr]
  rw[e];cases hE:j3 (·== ·) x row with
  |true=>rfl|false=>simp only [gJ,if_false];rw[ih,Option.map_map];cases jr.findIdx? (j3 (·== ·) x) with|none=>rfl|some j=>show some (af<|i+1+j)=some (af<|i+(j+1));congr 2;exact Aa
theorem ajR {st:List ae}{e:aq}{k:Nat}{x:Str}{r:Nat}(hk:st[k]?=some (.list (ex (qI au x) 0 ((aK au.length).map af))))(hr:au.findIdx? (j3 (·== ·) x)=some r):fF d e (.ab k) (.int 0) st (af r) st:=by
 have h:=Yl (x:=x) au 0 rfl;rw[<-pW,hr] at h;have h0:(ex (qI au x) 0<|(aK au.length).map af)[0]?=some (af r):=by rw[<-List.head?_eq_getElem?,h];simp
 exact uI hk (by decide) (rM (bV.mp h0).1) h0
theorem jH {st:List ae}{e:aq}{q p n r:Nat}(h:st[q]?=some (.list (dX p n)))(hr:r<n)(hb:n<2^18):fF d e (.ab q) (af r) st (.ab (p+r)) st:=
 uI h (SE hb hr) (by simp [dX,aV,fb];exact rM hr) (X2 hr)
theorem Ih {st:List ae}{q m:Nat}{ay:List Nat}(h:st[q]?=some (a0 ay))(hl:ay.length<2^18):bk d (.bi "list.append") [.ab q,.int (m:Int)] [] st .none (st.set q (a0 (ay++[m]))):=by have:=mX (d:=d) (v:=.int m) h (by rw[aV,aV];exact ah [_] (.lt .o (.n<|2^18)<|.gt .o<|.n<|2^24) rfl hl);rwa[a0,fU,fU]
theorem ajS {k m:Nat}{x:Str}{row:List Str}(hk:aj[k]?=some x)(hx:x≠"")(dD:x.length<2^20)(cp:aj.length<2^18)(rY:ay.length<2^18)(hb:au.length<2^18)(hl:∀row∈au,row.length<2^18)(hr:au.findIdx? (j3 (·== ·) x)=some r)(ey:au[r]?=some row)(hm:bR bP row x 0 row.length=m+1):aI (d+10) eR y5 (TS hs aj (some (af k)) (bS .any .any .any .any) ay ao aD au) .next (TS hs aj (some (af k)) (bS (af r) .any .any .any) (ay++[m]) ao aD (au.set r row.dropLast)):=by
 have gw:r<au.length:=(bV.mp ey).1;have Ym:=hl row<|c8 ey;have hE:j3 (·== ·) x row=true:=by have:=aqh.mp hr;obtain⟨h1,h2,_⟩:=this;have e:au[r]=row:=dE<|(bA gw).symm.trans ey;rwa[e] at h2
 obtain⟨j,hj,DJ⟩:∃j,row.length=j+1∧row[j]?=some x:=by
  unfold j3 at hE;cases hg:row.getLast? with
  |none=>rw[hg] at hE;exact nB hE|some v=>
   rw[hg] at hE;have hv:v=x:=by simpa using hE
   subst hv;cases row with|nil=>exact nS hg|cons a l=>exact⟨l.length,rfl,by rw[<-hg,aqC];rfl⟩
 have F:=ajQ (d:=d) (hs:=hs) (aD:=aD) (more:=bS .any .any .any .any) (ay:=ay) (ao:=ao) hk cp hb hl rfl;have hS:(TS hs aj (some<|af k) (bS .any .any .any .any) ay ao aD au).length=14+ao.length+au.length:=hO;have fs:=λst e h=>ajR (d:=d+10) (st:=st) (e:=e) (k:=14+ao.length+au.length) h hr;generalize hL:ex (qI au x) 0 ((aK au.length).map af)=L at *;have Bn:(ax row.dropLast)=.list ((row.map CV.str).eraseIdx j):=by rw[OR _ (by rwa[aV]),<-RQ];rfl
 have G:(m:Int)=((bR bP row x 0 row.length:Nat):Int)-1->aI (d+10) eR y5 (TS hs aj (some<|af k) (bS .any .any .any .any) ay ao aD au) .next
  ((TS hs aj (some<|af k) (bS (af r) .any .any .any) (ay++[m]) ao aD au++[ae.list L]).set (14+ao.length+r)<|ax row.dropLast):=λC'=>by
  refine aW (sc:=[.val<|.str x,.yes,.c7 (.ab<|14+ao.length+au.length)<|λst=>st++[ae.list L],.val<|af r,.bg (.bi "list.append") [.ab 9],.val<|.ab<|14+ao.length+r,.val<|.str x,.val<|.int (bR bP row x 0 row.length:Nat),
   .c7 .none (λst=>st.set 9<|a0<|ay++[m]),.val<|.ab<|14+ao.length+r,.bg (.bi "list.pop") [.ab<|14+ao.length+r],.c7 (.str x)<|λst=>st.set (14+ao.length+r)<|ax row.dropLast]) rfl ?_
  walk_at "obs"
  ·rw[Bn];exact V5 (by with_unfolding_all exact nc (more:=bS (af r) .any .any .any) ey) (by rwa[aV]) (by rw[dN,DJ];rfl) (by rw[aV];show _<=2^24;exact SF Ym)
  ·exact A4 (by exact nc (more:=bS (af r) .any .any .any) ey)
  ·exact jH rfl gw hb
  ·simp [<-C'];exact Ih rfl (by omega)
  ·exact ajB (by exact nc (more:=bS (af r) .any .any .any) ey) (by exact ah [_] (.lt .o (.n<|2^18)<|.gt .o<|.n<|2^20) rfl Ym)
  ·exact cK H8
  ·exact e8 rfl rfl hk (by exact KD cp)
  ·exact jH rfl gw hb
  ·exact jX rfl
  ·exact fs _ _ (by rw[dT<|hS▸aG _,hS,fk];rfl)
  ·exact F
  ·exact vi hx
  ·show¬(x.length:Int)>=2^63;exact ah [_] (.lt .o (.n<|2^20)<|.g 1 0<|.no<|.il (.n<|2^63)<|.c .o) rfl dD
  exact e8 rfl rfl hk (by exact KD cp)
 have:=G (by rw[hm];exact ah [_] (.g 1 1<|.ie (.c .o)<|.s (.c<|.a .o .j) .j) rfl);rw[OJ gw] at this;refine aI.drop this (by rw[hO,hO,lY];exact aG _) ?_ rfl;exact Bm rfl rfl (by rw[hO];exact aG _)
end
end
section
variable {d:Nat}
section
variable {hs aD:List (Str×Str)}{aj:List Str}{kc:Option CV}{more:List (Str×CV)}{ay:List Nat}{ao au:List (List Str)}
def qL:aq×aq×List bl:=dc (rP y5 0)
theorem Yn {p:Nat}:dX p n++[.ab (p+n)]=dX p (n+1):=by rw[dX,dX,abK,fU];rfl
theorem ajT:((TS hs aj kc more ay ao aD au++[ae.list []])++g).set 8 (.list (dX (14+ao.length) (au.length+1)))=TS hs aj kc more ay ao aD (au++[[]])++g:=by rw[TS,TS,fU,dJ];simp only [eJ,List.set_cons_zero];rfl
theorem Yo {st:List ae}{k j:Nat}{xs:List CV}(hk:st[k]?=some (.list xs))(hj:st[j]?=some (.list []))(hn:xs.length<2^18):bk d (.bi "list.extend") [.ab k,.ab j] [] st .none st:=by have:=XF (d:=d) hk hj (by simp;exact ah [_] (.lt .o (.n<|2^18)<|.gl .o<|.n 1048576) rfl hn);rwa[dM,Dt hk] at this
theorem Ii {st:List ae}{q p n:Nat}(h:st[q]?=some (.list (dX p n)))(hn:n<2^20):bk d (.bi "len") [.ab q] [] st (.int (n:Int)) st:=by simpa [dX] using (uJ (d:=d) h<|by simp [dX];exact KS hn)
theorem qM {st:List ae}{q:Nat}{xs:List Str}(h:st[q]?=some (ax xs))(hn:xs.length<2^20):bk d (.bi "len") [.ab q] [] st (.int (xs.length:Int)) st:=by simpa using (uJ (d:=d) h<|by simp;exact KS hn)
theorem OZ {l o:ae}:(((TS hs aj kc more ay ao aD au++[o])++g).set 8 l)[14+ao.length+au.length]?=some o:=by rw[lZ (by exact ah [_,_] (.g (-1) 0<|.no<|.eq (.n 8)<|.a (.a (.n 14) .o) .i) rfl),eJ];exact by rw[dT (by rw[hO];exact aG _),hO,fk];rfl
theorem ajW {o:ae}:((TS hs aj kc more ay ao aD au++[o])++[o'])[(TS hs aj kc more ay ao aD au++[o]).length]?=some o':=by rw[dT<|aG _,fk];rfl
theorem O0 {st:List ae}{i j m:Nat}(h:min i j=m):bk d (.bi "min") [.int (i:Int),.int (j:Int)] [] st (.int (m:Int)) st:=by have:=afv (d:=d) (st:=st) (i:=i) (j:=j);rwa[show min (i:Int) j=m by omega] at this
theorem ajX {w:Str}(hb:au.length<2^17)(qo:(ae.cell kc).lo 0=true):aI (d+10) eR qL.2.2 (TS hs aj kc (bS (af au.length) (.str w) (af c) .any) ay ao aD au) .brk (TS hs aj kc (bS (af au.length) (.str w) (af 0) .any) ay ao aD (au++[[]])):=by
 have hS:∀more:List (Str×CV),(TS hs aj kc more ay ao aD au).length=14+ao.length+au.length:=λx=>hO;have ey:(au++[[]])[au.length]?=some []:=by simp
 have G:aI (d+10) eR qL.2.2 (TS hs aj kc (bS (af au.length) (.str w) (af c) .any) ay ao aD au) .brk
  (((TS hs aj kc (bS (af au.length) (.str w) (af 0) .any) ay ao aD au++[ae.list []])++[ae.list [.ab (TS hs aj kc (bS (af au.length) (.str w) (af c) .any) ay ao aD au).length]]).set 8<|.list<|dX (14+ao.length)<|au.length+1):=by
  apply aW (sc:=[.bg (.bi "list.extend") [.ab 8],.val<|.int au.length,.yes,.c7 .none<|λst=>st.set 8<|.list<|dX (14+ao.length)<|au.length+1,
   .val (.ab<|14+ao.length+au.length),.val<|.ab<|14+ao.length+au.length,.val<|.int 0,.val<|.int 0,.val<|.int 0,.val<|.ab<|14+ao.length+au.length,.val<|.int 0,.yes]) rfl
  walk_at "obs"
  ·exact beq_self_eq_true _
  ·exact qM (xs:=[]) (OZ (more:=bS (af au.length) (.str w) (af 0) .any)) (by decide)
  ·exact jH rfl (rg _) (KU hb)
  ·exact OP (xs:=[]) (OZ) (by decide)<|aG _
  ·exact cK H8
  ·exact O0<|acA
  ·exact qM (xs:=[]) (by exact OZ) (by decide)
  ·exact jH rfl (rg _) (KU hb)
  ·exact jH rfl (rg _) (KU hb)
  ·exact by rw[<-Yn];exact XF rfl (by rw[ajW];simp [hO]) (by simp [dX];exact ah [_] (.lt .o (.n<|2^18)<|.gl .o<|.n 1048575) rfl (o5 hb))
  ·show 1<=cX;decide
  ·exact beq_self_eq_true _
  ·exact Ii rfl (o9 hb)
  exact Nz rfl
 rw[ajT] at G;exact aI.drop G (by rw[hO,hO];simp) (Bm (ae.mD (dQ _) _ qo) rfl (by rw[hO];exact aG _)) rfl
theorem ajY {w:Str}{row:List Str}(hb:au.length<2^17)(qo:(ae.cell kc).lo 0=true)(ey:au[r]?=some row)(hl:row.length<2^17)(hc:bR bP row w 0 (min c row.length)=c')(eG:c'=row.length):aI (d+10) eR qL.2.2 (TS hs aj kc (bS (af r) (.str w) (af c) .any) ay ao aD au) .brk (TS hs aj kc (bS (af r) (.str w) (af c') .any) ay ao aD au):=by
 have hr:=(bV.mp ey).1;have cz:(r==(au.length:Int))=false:=by rw[beq_eq_false_iff_ne];exact KV hr
 have G:aI (d+10) eR qL.2.2 (TS hs aj kc (bS (af r) (.str w) (af c) .any) ay ao aD au) .brk
  (TS hs aj kc (bS (af r) (.str w) (af c') .any) ay ao aD au++[ae.list []]):=by
  apply aW (sc:=[.bg (.bi "list.extend") [.ab 8],.val<|.int au.length,.no,.val .none,
   .val (.ab<|14+ao.length+r),.val<|.ab<|14+ao.length+r,.val<|.int row.length,.val<|af<|min c row.length,.val<|af c',.val<|.ab<|14+ao.length+r,.val<|.int row.length,.yes]) rfl
  walk_at "obs"
  ·subst eG;exact beq_self_eq_true _
  ·exact qM (nc (more:=bS (af r) (.str w) (af c') .any) ey)<|o9 hl
  ·exact jH rfl hr (o5 hb)
  ·have:=OP (d:=d+7) (x:=w) (hi:=min c row.length) (by exact nc (hs:=hs) (aj:=aj) (kc:=kc) (ay:=ay) (ao:=ao) (aD:=aD) (more:=bS (af r) (.str w) (af c) .any) (g:=[ae.list []]) ey) (o9 hl)<|xx _ _;rwa[hc] at this
  ·exact cK H8
  ·exact O0 rfl
  ·exact qM (by exact nc ey)<|o9 hl
  ·exact jH rfl hr (o5 hb)
  ·exact jH rfl hr (o5 hb)
  ·exact Yo rfl (by rw[dT<|aG _,fk];rfl) (by simp [dX];exact TR hb)
  ·exact cz
  ·exact Ii rfl (o9 hb)
  exact Nz rfl
 exact aI.drop G (by rw[hO,hO];exact aG _) (Bm (ae.mD (dQ _) _ qo) rfl (by rw[hO];exact aG _)) rfl
theorem ajZ {w:Str}{row:List Str}(hb:au.length<2^17)(qo:(ae.cell kc).lo 0=true)(ey:au[r]?=some row)(hl:row.length<2^17)(hc:bR bP row w 0 (min c row.length)=c')(eG:row[c']?=some w'):aI (d+10) eR qL.2.2 (TS hs aj kc (bS (af r) (.str w) (af c) .any) ay ao aD au) .next (TS hs aj kc (bS (af r) (.str w') (af c') .any) ay ao aD (au.set r (row.set c' w))):=by
 have hr:=(bV.mp ey).1;have Yp:=(bV.mp eG).1;have cz:(r==(au.length:Int))=false:=by rw[beq_eq_false_iff_ne];exact KV hr
 have OW:(c'==(row.length:Int))=false:=by rw[beq_eq_false_iff_ne];exact KV Yp
 have G:aI (d+10) eR qL.2.2 (TS hs aj kc (bS (af r) (.str w) (af c) .any) ay ao aD au) .next
  (TS hs aj kc (bS (af r) (.str w') (af c') .any) ay ao aD (au.set r<|row.set c' w)++[ae.list []]):=by
  refine aW (sc:=[.bg (.bi "list.extend") [.ab 8],.val<|.int au.length,.no,.val .none,
   .val (.ab<|14+ao.length+r),.val<|.ab<|14+ao.length+r,.val<|.int row.length,.val<|af<|min c row.length,.val<|af c',.val<|.ab<|14+ao.length+r,.val<|.int row.length,.no,
   .val (.ab<|14+ao.length+r),.val<|.str w',.val<|.ab<|14+ao.length+r,.aE .none<|TS hs aj kc (bS (af r) (.str w) (af c') .any) ay ao aD (au.set r<|row.set c' w)++[ae.list []]]) rfl ?_
  walk_at "obs"
  ·have:=Ov (d:=d+10) (st:=TS hs aj kc (bS (af r) (.str w) (af c') .any) ay ao aD au++[ae.list []]) (v:=.str w) (nc ey) rfl (by rwa[aV]) (by rw[aV];exact o4 hl);rw[<-rp] at this;have e:=OJ (hs:=hs) (aj:=aj) (kc:=kc) (more:=bS (af r) (.str w) (af c') .any) (ay:=ay) (ao:=ao) (aD:=aD) (g:=[ae.list []]) (row:=row.set c' w) hr;rw[ax] at e;rw[e] at this;exact this
  ·exact jH (by rfl) hr (by exact o5 hb)
  ·exact e8 (by exact nc (more:=bS (af r) (.str w) (af c') .any) ey) rfl eG (by exact o4 hl)
  ·exact jH rfl hr (by exact o5 hb)
  ·exact OW
  ·exact qM (by exact nc (more:=bS (af r) (.str w) (af c') .any) ey) (by exact o9 hl)
  ·exact jH rfl hr (by exact o5 hb)
  ·have:=OP (d:=d+7) (x:=w) (hi:=min c row.length) (by exact nc (hs:=hs) (aj:=aj) (kc:=kc) (ay:=ay) (ao:=ao) (aD:=aD) (more:=bS (af r) (.str w) (af c) .any) (g:=[ae.list []]) ey) (by exact o9 hl)<|xx _ _;rw[hc] at this;exact this
  ·exact cK H8
  ·exact O0 rfl
  ·exact qM (by exact nc (more:=bS (af r) (.str w) (af c) .any) ey) (by exact o9 hl)
  ·exact jH rfl hr (by exact o5 hb)
  ·exact jH rfl hr (by exact o5 hb)
  ·exact Yo rfl (by rw[dT<|aG _,fk];rfl) (by simp [dX];exact TR hb)
  ·exact cz
  ·exact Ii rfl (by exact o9 hb)
  exact Nz rfl
 refine aI.drop G (by rw[hO,hO,lY];exact aG _) ?_ rfl;exact Bm (ae.mD (dQ _) _ qo) rfl (hO▸aG _)
end
end
section
variable {d:Nat}
section
variable {hs aD:List (Str×Str)}{aj:List Str}{kc:Option CV}{more:List (Str×CV)}{ay:List Nat}{ao au:List (List Str)}
theorem O1 {j:Nat}:dj d eR qL.1 (af j) (TS hs aj kc (bS rv wv cv iv) ay ao aD au) (TS hs aj kc (bS (af j) wv cv iv) ay ao aD au):=
 i4 (sc:=[]) rfl aX
theorem aj0 {pre:List α}{x y:α}:(pre++x::jr).set pre.length y=pre++y::jr:=by rw[Fl _ _<|aG _,fk];rfl
theorem Yq (qo:(ae.cell kc).lo 0=true):∀jr pre w c rv,(pre++jr).length<2^17->(∀row∈jr,row.length<2^17)->∃cv,fG (d+10) eR qL.1 qL.2.2 (λx=>True) ((fc pre.length (jr.length+1)).map af) (TS hs aj kc (bS rv (.str w) (af c) .any) ay ao aD (pre++jr)) .next (TS hs aj kc (bS (af (pre.length+(jq bP jr w c).2.1)) (.str (jq bP jr w c).2.2) cv .any) ay ao aD (pre++(jq bP jr w c).1))
 |[],pre,w,c,rv,hb,hl=>by rw[dM] at hb;refine⟨af 0,?_⟩;rw[dM,X0];exact .brk trivial (O1) (ajX hb qo)|row::jr,pre,w,c,rv,hb,hl=>by
  have ey:(pre++row::jr)[pre.length]?=some row:=by simp
  have gw:=hl row<|.head _;rw[dO,mO,eC,H4];cases hg:row[bR bP row w 0<|min c row.length]? with
  |none=>
   have d6:bR bP row w 0 (min c row.length)<=row.length:=DR _ _ _ (dQ _)<|xx _ _;have Dr:row.length<=bR bP row w 0 (min c row.length):=by rwa[Rl] at hg
   exact⟨_,.brk trivial (O1) (ajY hb qo ey gw rfl (ah [_,_] (.le .o .i<|.c 0 1 (.le .i .o)<|.ge .o .i) rfl d6 Dr))⟩
  |some w'=>
   have oX:(pre++[row.set (bR bP row w 0<|min c row.length) w]++jr).length<2^17:=by simpa using hb
   obtain⟨cv,ih⟩:=Yq qo jr (pre++[row.set (bR bP row w 0<|min c row.length) w]) w' (bR bP row w 0<|min c row.length) (af pre.length) oX<|λr hr=>hl r<|.tail _ hr;have sw:=ajZ (d:=d) (hs:=hs) (aD:=aD) (aj:=aj) (ay:=ay) (ao:=ao) hb qo ey gw rfl hg;rw[aj0] at sw;simp only [dJ,Kt,eJ,aqD] at ih;refine⟨cv,.cons trivial (O1) sw (.inl rfl) ?_⟩;rw[RR,zR 1] at ih;exact ih
def jI (hs:List (Str×Str))(k:Nat):Option Str:=((cQ "aBcDeFgHiJ")[k]?).bind λx=>eH hs (bZ x)
theorem wS {st:List ae}{e:aq}{x y:Str}{k:Nat}(h:(cQ x)[k]?=some y)(hk:k<2^40):fF d e (.str x) (af k) st (.str y) st:=by
 unfold cQ at h;rw[dN] at h;obtain⟨ch,h1,h2⟩:=oI.mp h;subst h2;have aZ:k<x.length:=by simpa [Fi] using ((bV.mp h1).1)
 apply afk (by simp;exact ah [_] (.lt .o (.n<|2^40)<|.g 1 0<|.it (.c .o)<|.n 9223372036854775808) rfl hk);rw[rM aZ];simpa using h1
theorem O2 {lt:α->α->Bool}:∀au w c N,(∀row∈au,row.length<N)->0<N->(jq lt au w c).1.length<=au.length+1∧∀row∈(jq lt au w c).1,row.length<N
 |[],w,c,N,h,h0=>by rw[X0];exact⟨aG _,λrow hr=>by rwa[gV.mp hr]⟩|row::rest,w,c,N,h,h0=>by
  rw[H4];cases row[bR lt row w 0<|min c row.length]? with
  |none=>exact⟨ke _,h⟩|some w'=>
   obtain⟨h1,h2⟩:=O2 rest w' (bR lt row w 0<|min c row.length) N (λr hr=>h r<|.tail _ hr) h0;refine⟨by exact Sm h1,λr hr=>?_⟩;rcases pO.mp hr with e|e
   ·rw[e,lY];exact h row<|.head _
   exact h2 r e
theorem aj1 {k:Nat}{w:Str}(hk:aj[k]?=some ("":Str))(cp:aj.length<2^17)(rY:ay.length<2^17)(hb:au.length<2^17)(hl:∀row∈au,row.length<2^17)(hK:∀p∈hs,bY p.1)(pr:∀x∈cQ "aBcDeFgHiJ",bY x)(hw:jI hs k=some w)(hq:tN bP au w aj.length=some q):∃rv wv cv,aI (d+10) eR y5 (TS hs aj (some (af k)) (bS .any .any .any .any) ay ao aD au) .next (TS hs aj (some (af k)) (bS rv wv cv .any) (ay++[q.2]) ao aD q.1):=by
 refine fE hw λx tK OV=>?_;have uS:k<2^17:=by have:=(bV.mp hk).1;exact ah [_,_] (.lt .o (.n<|2^17)<|.lt .i .o<|.gt .i<|.n<|2^17) rfl cp this
 obtain⟨cv,L⟩:=Yq (d:=d) (hs:=hs) (aD:=aD) (aj:=aj) (kc:=some<|af k) (ay:=ay) (ao:=ao) rfl au [] w aj.length .any (by simpa using hb) hl;obtain⟨O3,Yr⟩:=O2 au w aj.length (2^17) hl (by decide);have hq:H3 bP (jq bP au w aj.length)=some q:=hq;generalize jq bP au w aj.length=z at *;obtain⟨vk,r1,w1⟩:=z;dsimp only at L O3 Yr;obtain⟨row,ey,rfl⟩:=oI.mp (show(vk[r1]?).map (λrow=>(vk.set r1<|row++[w1],bL bP (row++[w1]) w1 0 (row++[w1]).length))=some q from hq);dsimp only;have wT:r1<vk.length:=(bV.mp ey).1;have gw:=Yr row<|c8 ey;simp [lq] at L;rw[<-pW] at L;have F:∀{t i:aq} {b:List bl} {p:Pos},t=qL.1->b=qL.2.2->i=qL.2.1->dB (d+10) eR (.For t i b [] p) (TS hs aj (some<|af k) (bS .any (.str w) (af aj.length) .any) ay ao aD au) .next
  (TS hs aj (some<|af k) (bS (af r1) (.str w1) cv .any) ay ao aD vk):=by
  intro t i b p h1 h2 h3;subst h1;subst h2;subst h3;obtain⟨sr⟩:=mE (au.length+1) (by exact ah [_] (.lt .o (.n<|2^17)<|.gl (.a .o .j)<|.n<|2^20) rfl hb);refine mq sr rfl (dk (sc:=[.val<|.int au.length,.val<|.fW 0 ((au.length+1:Nat):Int) 1]) (by rfl') ?_) trivial L;walk_at "obs";exact Ii (by rfl') (by exact o9 hb)
 have hg:lG hs x .none=.str w:=by unfold lG;rw[OV]
 have hh:om (TS hs aj (some<|af k) (bS .any .any .any .any) ay ao aD au) 0 1 2 hs:=⟨rfl,rfl,rfl⟩;have cg:=OQ (d:=d+6) hh hK<|pr x<|c8 tK;rw[hg] at cg;have aj2:(vk.set r1<|row++[w1])[r1]?=some (row++[w1]):=by rw[vM wT]
 have WR:bL bP (row++[w1]) w1 0 (row++[w1]).length=bL bP (row++[w1]) w1 0 (row++[w1]).length:=rfl;generalize hb1:bL bP (row++[w1]) w1 0 (row++[w1]).length=b1 at *;refine⟨af r1,.str w1,cv,aW (sc:=[.val<|.str "",.no,.bg (.aH 131) [.ab 1],.val<|.str x,.val<|.str w,.val<|.int aj.length,
  .fl .next (λu=>TS hs aj (some<|af k) (bS (af r1) (.str w1) cv .any) ay ao aD vk),
  .val (.ab<|14+ao.length+r1),.bg (.bi "list.append") [.ab<|14+ao.length+r1],.aE .none<|TS hs aj (some<|af k) (bS (af r1) (.str w1) cv .any) ay ao aD<|vk.set r1<|row++[w1],
  .bg (.bi "list.append") [.ab 9],.val<|.ab<|14+ao.length+r1,.val<|af b1,.c7 .none<|λst=>st.set 9<|a0<|ay++[b1]]) (by rfl') ?_⟩
 walk_at "obs"
 ·exact Ih rfl (by exact o5 rY)
 ·have:=ajC (d:=d+7) (x:=w1) (nc (hs:=hs) (aj:=aj) (kc:=some<|af k) (ay:=ay) (ao:=ao) (aD:=aD) (more:=bS (af r1) (.str w1) cv .any) (g:=[]) aj2)<|dJ▸Kt▸ah [_] (.lt .o (.n<|2^17)<|.gt (.a .o .j)<|.n<|2^20) rfl gw;rwa[hb1,dM] at this
 ·exact cK X'
 ·exact jH (n:=vk.length) (by rw[TS,lY];rfl') wT (by exact SM hb O3)
 ·exact jX (xs:=(ay.map λm:Nat=>(m:Int)).map CV.int) (by rfl)
 ·have Ij:=nc (hs:=hs) (aj:=aj) (kc:=some<|af k) (ay:=ay) (ao:=ao) (aD:=aD) (more:=bS (af r1) (.str w1) cv .any) (g:=[]) ey;have:=mX (d:=d+10) (v:=.str w1) Ij (by rw[aV];show _<2^24;exact SN gw);have e:=OJ (hs:=hs) (aj:=aj) (kc:=some<|af k) (more:=bS (af r1) (.str w1) cv .any) (ay:=ay) (ao:=ao) (aD:=aD) (g:=[]) (row:=row++[w1]) wT;rw[ax,fU] at e;rwa[show [CV.str w1]=[w1].map CV.str from rfl,e,dM,dM] at this
 ·have Ij:=nc (hs:=hs) (aj:=aj) (kc:=some<|af k) (ay:=ay) (ao:=ao) (aD:=aD) (more:=bS (af r1) (.str w1) cv .any) (g:=[]) ey;rw[dM] at Ij;exact jX Ij
 ·exact jH (n:=vk.length) (by rfl) wT (by exact SM hb O3)
 ·exact F rfl rfl rfl
 ·exact qM (xs:=aj) (by rfl) (by exact o9 cp)
 ·exact cg
 ·exact cK Ia
 ·exact wS tK (by exact o4 uS)
 ·exact Ic hh
 ·exact OS
 ·decide
 exact e8 (ns:=aj) (by rfl) rfl hk (by exact o4 cp)
end
end
section
variable {d:Nat}
section
variable {hs aD:List (Str×Str)}{aj:List Str}{kc:Option CV}{more:List (Str×CV)}{ay:List Nat}{ao au:List (List Str)}
noncomputable def gT (x:Str):Option Str:=if x="" then none else some x
def j5:List (Str×CV):=bS .any .any .any .any
noncomputable def Ys:List Str:=["r","word","c","i"]
theorem aj4 {j:Nat}:dj d eR (dc qe.body).1 (af j) (TS hs aj kc more ay ao aD au) (TS hs aj (some (af j)) more ay ao aD au):=
 i4 (sc:=[]) rfl aX
theorem Ik {b:List bl}{f:cZ}{st:List ae}{c:aY}{rv wv cv iv:CV}(h:aI d c b st f (TS hs aj kc (bS rv wv cv iv) ay ao aD au)):aI d c b st f (TS hs aj kc j5 ay ao aD au):=by exact h.fj Ys (i:=4) (vars:=wP ao.length<|bS rv wv cv iv) rfl
theorem Yt {σ:Type}{f:Nat->σ->Option σ}{G:σ->Prop}(sU:∀k s s',f k s=some s'->G s'->G s):∀ks s s',k6 f ks s=some s'->G s'->G s
 |[],s,s',h,g=>dE h▸g|k::ks,s,s',h,g=>fE h λs₁ h1 h2=>sU k s s₁ h1<|Yt sU ks s₁ s' h2 g
theorem O4 {σ:Type}{f:Nat->σ->Option σ}{ST:Option CV->σ->List ae}{c:aY}{Yu:aq}{body:List bl}{I:Nat->σ->Prop}{G:σ->Prop}{N:Nat}(Yv:∀kc j s,dj d c Yu (af j) (ST kc s) (ST (some (af j)) s)) (Dm:∀k t s s',t<N->I t s->G s'->f k s=some s'->I (t+1) s'∧aI d c body (ST (some (af k)) s) .next (ST (some (af k)) s'))(sU:∀k s s',f k s=some s'->G s'->G s):∀ks t s s' kc,t+ks.length<=N->I t s->G s'->k6 f ks s=some s'->∃vl,fG d c Yu body (λx=>True) (ks.map af) (ST kc s) .next (ST vl s')∧I (t+ks.length) s'∧((ae.cell kc).lo 0=true->(ae.cell vl).lo 0=true)
 |[],t,s,s',kc,u,hI,o,h=>dE h▸⟨kc,.nil trivial,hI,id⟩|k::ks,t,s,s',kc,hN,hI,hG,h=>fE h λs₁ h1 h2=>by obtain⟨aj5,T⟩:=Dm k t s s₁ (sF (aqA<|vI _) hN) hI (Yt sU ks s₁ s' h2 hG) h1;obtain⟨vl,R,h3,h4⟩:=O4 Yv Dm sU ks (t+1) s₁ s' (some<|af k) (by rwa[RR,zR 1]) aj5 hG h2;rw[RR,zR 1] at h3;exact⟨vl,.cons trivial (Yv _ _ _) T (.inl rfl) R,h3,λx=>h4 rfl⟩
structure I1 (t:Nat)(s:List (List Str)×List Nat):Prop where
 h1:s.1.length<=t
 h2:∀row∈s.1,row.length<t+1
 h3:s.2.length=t
theorem aj6 {w:Str}(h:tN bP au w c=some q)(hN:∀row∈au,row.length<N)(h0:0<N):q.1.length<=au.length+1∧∀row∈q.1,row.length<N+1:=by
 obtain⟨z1,z2⟩:=O2 (lt:=bP) au w c N hN h0;obtain⟨row,ey,rfl⟩:=oI.mp h;refine⟨by rw[lY];exact z1,λr hr=>?_⟩;rcases Kv hr with e|e
 ·exact pT<|z2 r e
 rw[e,dJ];exact Nat.succ_lt_succ<|z2 row<|c8 ey
theorem aj7 (cp:aj.length<=10)(dD:∀x∈aj,x.length<2^17)(hK:∀p∈hs,bY p.1)(pr:∀x∈cQ "aBcDeFgHiJ",bY x){k t:Nat}{s s':List (List Str)×List Nat}(ht:t<10)(I:I1 t s)(h:Bj bP (·== ·) (aj.map gT) (jI hs) k s=some s'):I1 (t+1) s'∧aI (d+10) eR y5 (TS hs aj (some (af k)) j5 s.2 ao aD s.1) .next (TS hs aj (some (af k)) j5 s'.2 ao aD s'.1):=by
 obtain⟨au,ay⟩:=s;obtain⟨h1,h2,h3⟩:=I;have Yw:=q7 h1 ht;have Yx:=q7 (ll h3) ht;have DU:=λrow hr=>sF (h2 row hr)<|z4<|Ff ht;have ap:∀{m:Nat},(ay++[m]).length=t+1:=λ{m}=>by rw[dJ,h3];rfl
 have up:∀{n N:Nat},n<11->11<=N->n<N:=λa b=>sF a b;refine fE h λo ho h=>?_;rw[dN] at ho;obtain⟨x,hk,rfl⟩:=oI.mp ho;obtain⟨q,hq,rfl⟩:=oI.mp h;by_cases hx:x=""
 ·subst hx;refine fE (hq) λw hw hq=>?_;rw[aV] at hq;obtain⟨rv,wv,cv,T⟩:=aj1 hk (up (RS cp)<|by decide) (up (pT Yx)<|by decide) (up (pT Yw)<|by decide) (λrow hr=>up (DU row hr)<|by decide) hK pr hw hq;obtain⟨z1,z2⟩:=aj6 hq h2<|vI t;exact⟨⟨fC z1<|z4 h1,z2,ap⟩,Ik T⟩
 rw[show gT x=some x from if_neg hx] at hq;refine fE hq λr hr hq=>fE hq λrow ey hq=>?_;obtain⟨m,hm,rfl⟩:=oI.mp hq;have T:=ajS (d:=d) (hs:=hs) (aD:=aD) (ao:=ao) hk hx (sF (dD x<|c8 hk)<|by decide) (up (RS cp)<|by decide) (up (pT Yx)<|by decide) (up (pT Yw)<|by decide) (λrow hr=>up (DU row hr)<|by decide) hr ey<|XZ hm;refine⟨⟨by rw[lY];exact Fa h1,λz hz=>?_,ap⟩,Ik T⟩;rcases Kv hz with e|e
 ·exact pT<|h2 z e
 rw[e,abP];exact pT<|q7 (lm _ _)<|h2 row<|c8 ey
end
end
section
variable {d:Nat}
section
variable {hs aD:List (Str×Str)}{aj:List Str}{kc:Option CV}{more:List (Str×CV)}{ay:List Nat}{ao au:List (List Str)}
def wU:aq×aq×List bl:=dc (qe.body.drop 2)
def wV:aq×aq×List bl:=dc (rP wU.2.2 1)
theorem aj8 {j:Nat}:dj d eR wV.1 (af j) (TS hs aj kc (bS rv wv cv iv) ay ao aD au) (TS hs aj kc (bS rv wv cv (af j)) ay ao aD au):=
 i4 (sc:=[]) rfl aX
theorem aj9 {j:Nat}:dj d eR wU.1 (af j) (TS hs aj kc more ay ao aD au) (TS hs aj (some (af j)) more ay ao aD au):=
 i4 (sc:=[]) rfl aX
theorem Yy:∀i ao w r iv q,ao.length<2^17->(∀col∈ao,col.length<2^17)->tO bP i ao w r=some q->∃rv O5,fG (d+10) eR wV.1 wV.2.2 (λx=>True) ((aK i).reverse.map af) (TS hs aj kc (bS (af r) (.str w) cv iv) ay ao aD au) .next (TS hs aj kc (bS rv (.str q.2) cv O5) ay q.1 aD au)∧q.1.length=ao.length∧∀N,(∀col∈ao,col.length<N)->∀col∈q.1,col.length<N
 |0,ao,w,r,iv,q,h1,h2,h=>dE h▸⟨af r,iv,.nil trivial,rfl,λN h=>h⟩|i+1,ao,w,r,iv,q,h1,h2,h=>fE h λcol hc h=>by
  by_cases hr:r<=col.length
  ·rw[if_pos hr] at h;refine fE h λj hj h=>fE h λw' AZ h=>?_;have eG:=h2 col<|c8 hc;have bj:∀N,(∀col∈ao,col.length<N)->∀z∈ao.set i (col.set j w),z.length<N:=λN hN z hz=>by
    rcases Kv hz with e|e
    ·exact hN z e
    rw[e,lY];exact hN col<|c8 hc
   have T:=by
    have hi:=(bV.mp hc).1;have pj:=(bV.mp AZ).1;have e:(((j+1:Nat))-1)=(j:Int):=by exact ah [_] (.g 1 1<|.ie (.s (.c<|.a .o .j) .j)<|.c .o) rfl
    have lk:=λmore=>by have:=H5 (hs:=hs) (aj:=aj) (kc:=kc) (ay:=ay) (aD:=aD) (au:=au) (more:=more) (g:=[]) hc;rwa[dM] at this
    have G:aI (d+10) eR wV.2.2 (TS hs aj kc (bS (af r) (.str w) cv<|af i) ay ao aD au) .next
     (TS hs aj kc (bS (.int<|((j+1:Nat):Int)-1) (.str w') cv<|af i) ay (ao.set i<|col.set j w) aD au):=by
     refine aW (sc:=[.val<|.ab<|11+i,.val<|.int ((j+1:Nat):Int),.val<|.ab<|11+i,.val<|.str w',.val<|.ab<|11+i,
      .aE .none (TS hs aj kc (bS (.int<|((j+1:Nat):Int)-1) (.str w) cv<|af i) ay (ao.set i<|col.set j w) aD au)]) (by rfl) ?_
     walk_at "obs"
     ·have:=Ov (d:=d+10) (v:=.str w) (lk<|bS (.int<|((j+1:Nat):Int)-1) (.str w) cv<|af i) e (by rwa[aV]) (by rw[aV];exact o4 eG);rw[<-rp] at this;have e':=OI (hs:=hs) (aj:=aj) (kc:=kc) (more:=bS (.int<|((j+1:Nat):Int)-1) (.str w) cv<|af i) (ay:=ay) (aD:=aD) (au:=au) (g:=[]) (col:=col.set j w) hi;rw[ax,dM,dM] at e';rwa[e'] at this
     ·exact jH (by rfl) hi (by exact o5 h1)
     ·exact e8 (by exact lk<|bS (.int<|((j+1:Nat):Int)-1) (.str w) cv<|af i) e AZ (by exact o4 eG)
     ·exact jH (by rfl) hi (by exact o5 h1)
     ·have:=ajD (d:=d+7) (x:=w) (lo:=r) (lk<|bS (af r) (.str w) cv<|af i) (by exact o9 eG) hr;rwa[(XZ hj)] at this
     ·exact cK X'
     exact jH (by rfl) hi (by exact o5 h1)
    rwa[e] at G
   obtain⟨rv,O5,R,h5,h6⟩:=Yy i (ao.set i<|col.set j w) w' j (af i) q (by rwa[lY]) (bj _ h2) h;refine⟨rv,O5,?_,by rw[h5,lY],λN hN=>h6 N<|bj N hN⟩;rw[abK,aqE,List.reverse_singleton,aqD,eC];exact .cons trivial (aj8) T (.inl rfl) R
  rw[if_neg hr] at h;exact nS h
theorem sub_neg {st:List ae}{e:aq}{q k m:Nat}{ay:List Nat}(h:st[q]?=some (a0 ay))(hk:k<ay.length)(hm:ay[ay.length-1-k]?=some m)(hb:ay.length<2^40):fF d e (.ab q) (.int (-1-(k:Int))) st (af m) st:=by refine uI h (by lia) ?_ (by rw[dN,dN,hm];rfl);rw[aV,aV];refine Mt ?_<|q7 (lm _ _)<|aba (q7 (dQ _) hk) abb;rw[if_pos<|by exact ah [_] (.g 1 0<|.it (.s (.n<|-1)<|.c .o) .k) rfl];omega
theorem aka {k m:Nat}{x:Str}(hk:aj[k]?=some x)(hx:x≠"")(dD:x.length<2^17)(cp:aj.length<2^17)(rY:ay.length<2^17)(vm:k<ay.length)(hb:ao.length<2^17)(hm:ay[ay.length-1-k]?=some m)(ni:ao[m]?=some col)(hl:col.length<2^17):aI (d+10) eR wU.2.2 (TS hs aj (some (af k)) j5 ay ao aD au) .next (TS hs aj (some (af k)) (bS .any .any (af m) .any) ay (ao.set m (col++[x])) aD au):=by
 have hi:=(bV.mp ni).1;have lk:=λmore=>by have:=H5 (hs:=hs) (aj:=aj) (kc:=some<|af k) (ay:=ay) (aD:=aD) (au:=au) (more:=more) (g:=[]) ni;rwa[dM] at this
 apply aW (sc:=[.val<|af m,.val<|.str x,.yes,.val<|.ab<|11+m,.bg (.bi "list.append") [.ab<|11+m],.val<|.str x,.aE .none<|TS hs aj (some<|af k) (bS .any .any (af m) .any) ay (ao.set m<|col++[x]) aD au]) rfl;walk_at "obs"
 ·have:=mX (d:=d+10) (v:=.str x) (lk<|bS .any .any (af m) .any) (by rw[aV];exact SN hl);have e':=OI (hs:=hs) (aj:=aj) (kc:=some<|af k) (more:=bS .any .any (af m) .any) (ay:=ay) (aD:=aD) (au:=au) (g:=[]) (col:=col++[x]) hi;rw[ax,fU,dM,dM] at e';rwa[show [CV.str x]=[x].map CV.str from rfl,e'] at this
 ·exact e8 rfl rfl hk (o4 cp)
 ·exact jX (by exact lk<|bS .any .any (af m) .any)
 ·exact jH rfl hi (o5 hb)
 ·exact vi hx
 ·exact Ck dD
 ·exact e8 rfl rfl hk (o4 cp)
 exact sub_neg rfl vm hm (o4 rY)
theorem akb {k m:Nat}{w:Str}(hk:aj[k]?=some ("":Str))(cp:aj.length<2^17)(rY:ay.length<2^17)(vm:k<ay.length)(hb:ao.length<2^17)(eG:∀col∈ao,col.length<2^17)(hm:ay[ay.length-1-k]?=some m)(ni:ao[m]?=some col)(hw:col.getLast?=some w)(hq:tO bP m (ao.set m col.dropLast) w (col.length-1)=some q)(pr:∀x∈cQ "abcdefghij",bY x)(hV:dH q.2)(iO:k<10)(hth:aD.length<2^17):∃rv wv iv x,(cQ "abcdefghij")[k]?=some x∧aI (d+10) eR wU.2.2 (TS hs aj (some (af k)) j5 ay ao aD au) .next (TS hs aj (some (af k)) (bS rv wv (af m) iv) ay q.1 (aD++[(x,q.2)]) au)∧q.1.length=ao.length∧∀N,(∀col∈ao,col.length<N)->∀col∈q.1,col.length<N:=by
 have hi:=(bV.mp ni).1;have hl:=eG col<|c8 ni;obtain⟨j,hj,DJ⟩:∃j,col.length=j+1∧col[j]?=some w:=by cases col with|nil=>exact nS hw|cons a l=>exact⟨l.length,rfl,by rw[<-hw,aqC];rfl⟩
 obtain⟨x,hx⟩:∃x,(cQ "abcdefghij")[k]?=some x:=by
  have:(cQ "abcdefghij").length=10:=by decide
  exact⟨_,bA<|by exact o1 iO this⟩
 have mh:∀N,(∀col∈ao,col.length<N)->∀z∈ao.set m col.dropLast,z.length<N:=λN h z hz=>by
  rcases Kv hz with e|e
  ·exact h z e
  rw[e,abP];have:=h col<|c8 ni;exact acr this
 obtain⟨rv,iv,L,h5,h6⟩:=Yy (d:=d) (hs:=hs) (aD:=aD) (aj:=aj) (kc:=some<|af k) (ay:=ay) (au:=au) (cv:=af m) m (ao.set m col.dropLast) w (col.length-1) .any q (by rwa[lY]) (mh _ eG) hq;have x6:(ao.set m col.dropLast)[m]?=some col.dropLast:=vM hi;have tR:col.dropLast.length=col.length-1:=abP;rw[lY] at h5;have Bn:ax col.dropLast=.list ((col.map CV.str).eraseIdx j):=by rw[OR _ (by rwa[aV]),<-RQ];rfl
 have lk:∀more,(TS hs aj (some<|af k) more ay ao aD au)[11+m]?=some (ax col):=λmore=>by have:=H5 (hs:=hs) (aj:=aj) (kc:=some<|af k) (ay:=ay) (ao:=ao) (aD:=aD) (au:=au) (more:=more) (g:=[]) ni;rwa[dM] at this
 have akd:∀more,(TS hs aj (some<|af k) more ay ao aD au).set (11+m) (ax col.dropLast)=TS hs aj (some<|af k) more ay (ao.set m col.dropLast) aD au:=λmore=>by have:=OI (hs:=hs) (aj:=aj) (kc:=some<|af k) (more:=more) (ay:=ay) (ao:=ao) (aD:=aD) (au:=au) (g:=[]) (col:=col.dropLast) hi;rwa[dM,dM] at this
 have Yz:(ao.set m col.dropLast).length=ao.length:=lY;generalize lE:ao.set m col.dropLast=DV at *;obtain⟨oq,w2⟩:=q;dsimp only at *;have lk1:∀more,(TS hs aj (some<|af k) more ay DV aD au)[11+m]?=some (ax col.dropLast):=λmore=>by have:=H5 (hs:=hs) (aj:=aj) (kc:=some<|af k) (ay:=ay) (ao:=DV) (aD:=aD) (au:=au) (more:=more) (g:=[]) x6;rwa[dM] at this
 have hN:((col.length-1:Nat):Int)=((col.dropLast.length:Nat):Int):=by rw[tR]
 have F:∀{t i:aq} {b:List bl} {p:Pos},t=wV.1->b=wV.2.2->i=wV.2.1->dB (d+10) eR (.For t i b [] p) (TS hs aj (some<|af k) (bS (af<|col.length-1) (.str w) (af m) .any) ay DV aD au) .next
  (TS hs aj (some<|af k) (bS rv (.str w2) (af m) iv) ay oq aD au):=by
  intro t i b p h1 h2 h3;subst h1;subst h2;subst h3;obtain⟨sr⟩:=X8 m (by exact ah [_,_] (.lt .o (.n<|2^17)<|.lt .i .o<|.gl .i<|.n<|2^20) rfl hb hi);refine mq sr rfl (dk (sc:=[.val<|.fW ((m:Int)-1) (-1)<|-1]) (by rfl) ?_) trivial L;walk_at "obs";exact Wl (by decide) (RL<|by decide)
 have hA:om (TS hs aj (some<|af k) (bS rv (.str w2) (af m) iv) ay oq aD au) (11+oq.length) (12+oq.length) (13+oq.length) aD:=by
  have:=λi (hi:i<3)=>X1 (hs:=hs) (aj:=aj) (kc:=some<|af k) (ay:=ay) (ao:=oq) (aD:=aD) (au:=au) (more:=bS rv (.str w2) (af m) iv) (g:=[]) hi;simp only [dM] at this;refine⟨this 0 (by decide),?_,?_⟩
  ·have t1:=this 1 (by decide);rwa[show 11+oq.length+1=12+oq.length by exact ah [_] (.ge (.a (.a (.n 11) .o) .j)<|.a (.n 12) .o) rfl] at t1
  have t1:=this 2 (by decide);rwa[show 11+oq.length+2=13+oq.length by exact ah [_] (.ge (.a (.a (.n 11) .o)<|.n 2)<|.a (.n 13) .o) rfl] at t1
 refine⟨rv,.str w2,iv,x,hx,aW (sc:=[.val<|af m,.val<|.str "",.no,.val<|.ab<|11+m,.bg (.bi "list.pop") [.ab<|11+m],.aE (.str w)<|TS hs aj (some<|af k) (bS .any .any (af m) .any) ay DV aD au,
  .val (.ab<|11+m),.val<|af<|col.length-1,.fl .next (λu=>TS hs aj (some<|af k) (bS rv (.str w2) (af m) iv) ay oq aD au),
  .bg (.aH 181) [.ab<|12+oq.length],.val<|.str x,.aE .none<|TS hs aj (some<|af k) (bS rv (.str w2) (af m) iv) ay oq (aD++[(x,w2)]) au]) (by rfl') ?_,h5,λN h=>h6 N<|mh N h⟩
 walk_at "obs"
 ·have:=Yh (d:=d+6) hA (pr x<|c8 hx) hV (by exact ah [_] (.lt .o (.n<|2^17)<|.gl .o<|.n 1000000) rfl hth);have e:=ajs (hs:=hs) (aj:=aj) (kc:=some<|af k) (ay:=ay) (ao:=oq) (aD:=aD) (au:=au) (more:=bS rv (.str w2) (af m) iv) (g:=[]) (l':=aD++[(x,w2)]);rw[dM,dM] at e;rwa[e] at this
 ·exact cK Yd
 ·exact wS hx (by exact Ci iO)
 ·exact Yf hA
 ·with_unfolding_all exact F rfl rfl rfl
 ·show bk (d+10) (.bi "len") [.ab<|11+m] [] _ (.int ((col.length-1:Nat):Int)) _;rw[hN];exact qM (by with_unfolding_all exact lk1<|bS .any (.str w) (af m) .any) (by exact acs hN hl)
 ·exact jH rfl (by exact o1 hi Yz) (by exact ah [_,_] (.lt .o (.n<|2^17)<|.eq .i .o<|.gt .i<|.n<|2^18) rfl hb Yz)
 ·have:=V5 (d:=d+10) (lk<|bS .any .any (af m) .any) (by rwa[aV]) (by rw[dN,DJ];rfl) (by rw[aV];show _<=2^24;exact ah [_] (.lt .o (.n<|2^17)<|.gl .o<|.n<|2^24) rfl hl);rw[<-Bn,akd] at this;exact this
 ·exact A4 (by with_unfolding_all exact lk<|bS .any .any (af m) .any)
 ·exact jH rfl hi (by exact o5 hb)
 ·exact OS
 ·decide
 ·exact e8 rfl rfl hk (by exact o4 cp)
 exact sub_neg rfl vm hm (by exact o4 rY)
end
end
section
variable {d:Nat}
section
variable {hs aD:List (Str×Str)}{aj:List Str}{kc:Option CV}{more:List (Str×CV)}{ay:List Nat}{ao au:List (List Str)}
def d5 (k:Nat):Str:=(cQ "abcdefghij").getD k ""
def dY (out:List (Nat×Str)):List (Str×Str):=out.map λp=>(d5 p.1,p.2)
structure I2 (n t:Nat)(s:List (List Str)×List (Nat×Str)):Prop where
 h1:s.1.length=n
 h2:∀col∈s.1,col.length<t+1
 h3:s.2.length<=t
def G2 (s:List (List Str)×List (Nat×Str)):Prop:=∀p∈s.2,dH p.2
theorem akf {k:Nat}{pl:List (Option Str)}(h:wO bP pl ay k s=some s')(g:G2 s'):G2 s:=fE h λm u h=>fE h λcol u h=>fE h λo u h=>by cases o with|some x=>rwa[<-dE h] at g|none=>refine fE h λw u h=>?_;obtain⟨q,_,rfl⟩:=oI.mp h;exact λp hp=>g p<|EY _ hp
end
end
section
variable {d:Nat}
section
variable {hs aD:List (Str×Str)}{aj:List Str}{kc:Option CV}{more:List (Str×CV)}{ay:List Nat}{ao au:List (List Str)}
def y6:aq:=ew (iL (g7 qe.body 0)) 2
def iq (hs:List (Str×Str))(aj:List Str):List ae:=[.bt [("_headers",.ab 2)],.bE 184 0,.list (hs.map br),ax aj,.frame [("table",.ab 1)],.cell (some (.ab 3)),.cell none,.cell none,.list [],.list []]
def lK (hs:List (Str×Str))(aj:List Str)(fv:List (Str×CV))(i:Nat):List ae:=iq hs aj++.list (dX 12 i)::.frame fv::cD i (.list [])
theorem O6:cD n a++[a]=cD (n+1) a:=by rw[aqF]
theorem akh {i:Nat}:(lK hs aj fv i).length=12+i:=by simp [lK,iq];exact ah [_] (.ge (.a (.a (.a (.a (.a (.a (.a (.a (.a (.a (.a (.a .o .j) .j) .j) .j) .j) .j) .j) .j) .j) .j) .j) .j)<|.a (.n 12) .o) rfl
theorem YC (cp:aj.length<2^17):∀(xs:List Str) i fv,i+xs.length<2^17->(fv=[]∨∃v:CV,fv=[(("name":Str),v)])->∃jJ,jS d (cI eR (fH y6) 11 []) y6 10 0 (λst=>st[3]?=some (ax aj)) (xs.map CV.str) (lK hs aj fv i) (lK hs aj jJ (i+xs.length))
 |[],i,fv,h,hf=>⟨fv,.nil rfl⟩|x::xs,i,fv,h,hf=>by
  rw[dO] at h;obtain⟨jJ,R⟩:=YC cp xs (i+1) [("name",.str x)] (by exact ah [_,_,_] (.lt (.a .o<|.a .i .u) (.n<|2^17)<|.gt (.a (.a .o .u) .i)<|.n<|2^17) rfl h)<|.inr ⟨_,rfl⟩;have A:∀p,dj d (cI eR (fH y6) 11 []) (.Name "name" p) (.str x) (lK hs aj fv i) (lK hs aj [("name",.str x)] i):=λp=>by
   have:=y4 (d:=d) (c:=cI eR (fH y6) 11 []) (x:="name") (pos:=p) (T:=iq hs aj) (g:=cD i<|.list []) (n:=10) (o:=.list<|dX 12 i) (fv:=fv) (v:=.str x) rfl rfl (by rfl');rcases hf with rfl|⟨v,rfl⟩
   ·exact this
   exact this
  have M:∀es gens sc p p',es=[]->sZ d (cI eR (fH y6) 11 []) (.ListComp (.List es p) gens sc p') 10 (lK hs aj [("name",.str x)] i) (lK hs aj [("name",.str x)]<|i+1):=λes gens sc p p' he=>by
   subst he;have:=GO (d:=d) (c:=cI eR (fH y6) 11 []) (elt:=.List [] p) (gens:=gens) (sc:=sc) (pos:=p') (st:=lK hs aj [("name",.str x)] i) (k:=10) (xs:=dX 12 i) (Lv sW<|dQ _) rfl (by simp [dX];show _<2^24;exact ah [_,_] (.lt (.a .o .i) (.n<|2^17)<|.gt .o<|.n<|2^24) rfl h);rw[akh,Yn] at this;have e:(lK hs aj [("name",.str x)] i++[ae.list []]).set 10 (.list<|dX 12<|i+1)=lK hs aj [("name",.str x)] (i+1):=by rw[lK,lK,<-O6];simp only [iq,eJ,fM,xL,abM,List.set_cons_zero]
   rw[e] at this;exact this
  refine⟨jJ,?_⟩;rw[show i+(x::xs).length=i+1+xs.length by rw[dO];exact z9];with_unfolding_all exact .wk rfl rfl rfl (A _) oT (M _ _ _ _ _ rfl) R
theorem aki {p:Nat}:∀{n},(∀i,i<n->f (p+i)=some (q+i))->CV.gn f (dX p n)=some (dX q n):=by
 intro n;have:∀l:List Nat,(∀i∈l,f (p+i)=some (q+i))->CV.gn f (l.map λi=>CV.ab<|p+i)=some (l.map λi=>CV.ab<|q+i):=λl=>by induction l with|nil=>intro _;rfl|cons a l ih=>exact λh=>gC (ij<|h a<|.head _)<|ih λi hi=>h i<|.tail _ hi
 exact λh=>this _ λi hi=>h i<|gz.mp hi
theorem akj (cp:aj.length<2^16):a8 d eR y6 (iq hs aj) (.ab 10) (iq hs aj++.list (dX 11 aj.length)::cD aj.length (.list [])):=by
 obtain⟨jJ,R⟩:=YC (KF cp) aj 0 [] (ah [_] (.lt .o (.n<|2^16)<|.gt (.a .k .o)<|.n<|2^17) rfl cp)<|.inl rfl;rw[lq] at R;have O7:∀(j k),(aK 11++fc 12 aj.length)[j]?=some k->(j<11∧k=j)∨∃i,i<aj.length∧j=11+i∧k=12+i:=λj k h=>by
  by_cases hj:j<11
  ·rw[d2 (by simpa using hj),iS hj] at h;obtain rfl:=dE h;exact .inl ⟨hj,rfl⟩
  rw[dT (by simp;exact o8 hj),fb] at h;have aZ:j-11<aj.length:=by have:=(bV.mp h).1;simpa using this
  rw[aqG aZ] at h;obtain rfl:=dE h;exact .inr ⟨j-11,aZ,by omega,ah [_,_] (.ge (.a .o<|.m 1 .i)<|.a .o .i) rfl⟩
 have Gr:(aK 11++fc 12 aj.length).Nodup:=by rw[xz];refine⟨xF,List.nodup_range',λa ha b hb=>?_⟩;rw[gz] at ha;rw[Kw] at hb;lia
 have Im:∀k,k<11->eW (aK 11++fc 12 aj.length) k=some k:=λk hk=>gr _ _ _ Gr (by rw[d2 (by simpa using hk),iS hk]);have hp2:∀i,i<aj.length->eW (aK 11++fc 12 aj.length) (12+i)=some (11+i):=λi hi=>gr _ _ _ Gr (by rw[dT (by simp),fb,sG,aqG hi];simp);have b9:((iq hs aj).all λo=>o.lo 10)=true:=by simp only [iq,bU,cG,cP,bz];exact⟨rfl,rfl,wQ hs,cJ aj,rfl,rfl,rfl,rfl,rfl,rfl⟩
 refine GN {sc:=rfl,cls:=rfl,qp:=rfl,kind:=rfl,names:=rfl,d3:=rfl,iter:=eu rfl rfl rfl,src:=⟨rI 3 _⟩,GK:=rfl,run:=R,fr:=⟨jJ,rfl⟩,qr:=?_};refine Ml (aK 11++fc 12 aj.length) Gr ?_ (by rw[show(iq hs aj).length=10 from rfl];exact ij<|Im 10<|by decide) rfl ?_
 ·unfold g4;refine wI (by simp [iq];exact SI) λj k y h1 h2=>?_;rcases O7 j k h1 with⟨hj,rfl⟩|⟨i,hi,rfl,rfl⟩
  ·by_cases pu:k=10
   ·subst pu;obtain rfl:=dE h2;exact gq rfl (fz<|aki hp2)
   have iO:k<10:=by lia
   rw[d2<|by simpa [iq] using iO] at h2;have:(lK hs aj jJ aj.length)[k]?=some y:=by rwa[lK,d2<|by simpa [iq] using iO]
   rw[this];exact ae.kR (λq hq=>Im q<|ah [_] (.lt .o .t<|.gt .o<|.n 11) rfl hq) y<|dI.mp b9 y<|c8 h2
  have e1:(lK hs aj jJ aj.length)[12+i]?=some (.list []):=by rw[lK,dT (by simp [iq];exact ah [_] (.gl .t<|.a (.n 12) .o) rfl),show 12+i-(iq hs aj).length=i+2 by simp [iq];lia];show(cD aj.length<|ae.list [])[i]?=_;rw[aqH,if_pos hi]
  rw[dT (by simp [iq];exact ah [_] (.gl .t<|.a (.n 11) .o) rfl),show 11+i-(iq hs aj).length=i+1 by simp [iq];lia] at h2;have h2:(cD aj.length<|ae.list [])[i]?=some y:=h2;rw[aqH,if_pos hi] at h2;obtain rfl:=dE h2;rw[e1];rfl
 intro h;rcases f7.mp h with h|h
 ·rw[gz,show(iq hs aj).length+1=11 from rfl] at h;exact SJ h
 rw[Kw] at h;obtain⟨i,_,e⟩:=h;have:(iq hs aj).length+1=11:=rfl;exact ah [_,_] (.eq .o (.n 11)<|.c (-1) 0 (.eq .o<|.a (.n 12) .i)<|.g 0 0<|.f) rfl this e
def O8 (hs:List (Str×Str))(aj:List Str):List ae:=[.bt [("_headers",.ab 2)],.bE 184 0,.list (hs.map br),ax aj,.frame [("table",.ab 1)],.cell (some (.ab 3)),.cell none,.cell none]
theorem akl (cp:aj.length<2^16):aI (d+10) eR (qe.body.take 1) (O8 hs aj) .next (TS hs aj none j5 [] (cD aj.length []) [] []):=by
 have hl:(cD aj.length ([]:List Str)).length=aj.length:=Fm;have G:aI (d+10) eR (qe.body.take 1) (O8 hs aj) .next
  (qH hs aj none [] [] (cD aj.length []) [] 0):=by
  have e:(qH hs aj none [] [] (cD aj.length []) [] 0)=[.bt [("_headers",.ab 2)],.bE 184 0,.list<|hs.map br,ax aj,.frame<|wP aj.length [],.cell<|some<|.ab 3,.cell<|some<|.ab 8,.cell none,.list [],.list []]++(.list (dX 11 aj.length)::cD aj.length (.list []))++H9 (11+aj.length):=by rw[qH,hl];rw[tP,show 13+aj.length=11+aj.length+2 by exact SK];simp only [Kx,eJ];rfl
  rw[e];have tS:(iq hs aj++ae.list (dX 11 aj.length)::cD aj.length (.list [])).length=11+aj.length:=by simp [iq];exact SI
  have N:=ajE (d:=d+5) (st:=iq hs aj++ae.list (dX 11 aj.length)::cD aj.length (.list []));rw[tS] at N;apply aW (sc:=[.aE (.ab 10)<|iq hs aj++ae.list (dX 11 aj.length)::cD aj.length (.list []),.aE (.ab<|12+aj.length)<|iq hs aj++ae.list (dX 11 aj.length)::cD aj.length (.list [])++H9 (11+aj.length)]) rfl;walk_at "obs"
  ·show 4<=cX;decide
  ·rwa[show 12+aj.length=11+aj.length+1 by exact SL]
  ·exact cK Yc
  exact akj cp
 have W:=G.fj Ys (i:=4) rfl;rw[TS,abQ,dM];exact W
end
end
section
variable {d:Nat}
section
variable {hs aD:List (Str×Str)}{aj:List Str}
theorem akm (cp:aj.length<=10)(dD:∀x∈aj,x.length<2^17)(hK:∀p∈hs,bY p.1)(O9:∀x∈cQ "aBcDeFgHiJ",bY x)(pr:∀x∈cQ "abcdefghij",bY x){out:List (Nat×Str)}(hV:∀p∈out,dH p.2)(h:gh bP (·== ·) (aj.map gT) (jI hs)=some out):∃kc ay ao au,ao.length=aj.length∧(ae.cell kc).lo 0=true∧aI (d+10) eR qe.body (O8 hs aj) (.ret (.ab (12+ao.length))) (TS hs aj kc j5 ay ao (dY out) au):=by
 refine fE h λq hq h=>?_;obtain⟨au,ay⟩:=q;obtain⟨q2,yQ,rfl⟩:=oI.mp h;obtain⟨ao,out⟩:=q2;rw[aV] at hq yQ;obtain⟨Io,R1,I1',h2⟩:=O4 (d:=d+10) (N:=10) (I:=I1) (G:=λu=>True) (ST:=λkc s=>TS hs aj kc j5 s.2 (cD aj.length []) [] s.1) (λu u u=>aj4) (λk t s s' ht I u h=>aj7 cp dD hK O9 ht I h) (λu u u u u=>trivial)
  (aK aj.length).reverse 0 ([],[]) (au,ay) none (by rwa[RT,fb,lq]) ⟨aG _,nofun,rfl⟩ trivial hq
 have rY:ay.length=aj.length:=by rw[I1'.h3,RT,fb,lq]
 obtain⟨O',R2,I2',h6⟩:=O4 (d:=d+10) (N:=10) (I:=I2 aj.length) (G:=G2) (ST:=λkc s=>TS hs aj kc j5 ay s.1 (dY s.2) au) (λu u u=>aj9) (λk t s s' ht I g h=>(by
  obtain⟨ao,out⟩:=s;obtain⟨h1,h2,h3⟩:=I;have up:∀{n N:Nat},n<11->11<=N->n<N:=λa b=>sF a b;have Il:aj.length<11:=RS cp;have YA:ao.length<2^17:=up (q7 (ll h1) Il) (by decide);have DU:∀col∈ao,col.length<11:=λrow hr=>sF (h2 row hr)<|z4<|Ff ht;have YB:ay.length<2^17:=up (q7 (ll rY) Il) (by decide);refine fE h λm hm h=>fE h λcol ni h=>fE h λo ho h=>?_;rw[dN] at ho;obtain⟨x,hk,rfl⟩:=oI.mp ho;have iO:k<aj.length:=(bV.mp hk).1;have vm:k<ay.length:=Kn iO rY.symm;have eG:=h2 col<|c8 ni;by_cases hx:x=""
  ·subst hx;refine fE (show(col.getLast?.bind λw=>(tO bP m (ao.set m col.dropLast) w<|col.length-1).map λq=>(q.1,out++[(k,q.2)]))=some s' from h) λw hw h=>?_;obtain⟨q,hq,rfl⟩:=oI.mp h;obtain⟨rv,wv,iv,y,hy,T,h5,h6⟩:=akb (d:=d) (hs:=hs) (aD:=dY out) (au:=au) (ay:=ay) (ao:=ao) hk (up Il<|by decide) YB vm YA (λcol hc=>up (DU col hc)<|by decide) hm ni hw hq pr (g (k,q.2)<|Rn _<|.head _) (sF iO cp) (by rw[dY,aV];exact q7 h3<|xu ht<|by decide);have T:=Ik T;have e:dY out++[(y,q.2)]=dY (out++[(k,q.2)]):=by
    have:d5 k=y:=by rw[d5,ed,hy];rfl
    rw[dY,dY,fU,<-this];rfl
   rw[e] at T;exact⟨⟨h5.trans h1,λz hz=>pT<|h6 (t+1) h2 z hz,by rw[dJ];exact z4 h3⟩,T⟩
  ·rw[show gT x=some x from if_neg hx] at h;obtain rfl:=dE h;have T:=aka (d:=d) (hs:=hs) (aD:=dY out) (au:=au) hk hx (dD x<|c8 hk) (up Il<|by decide) YB vm YA hm ni (up (DU col<|c8 ni)<|by decide);refine⟨⟨by rw[lY];exact h1,λz hz=>?_,Fa h3⟩,Ik T⟩;rcases Kv hz with e|e
   ·exact pT<|h2 z e
   rw[e,dJ];exact Nat.succ_lt_succ eG)) (λu u u=>akf)
  (aK aj.length) 0 (cD aj.length [],[]) (ao,out) Io (by rwa[fb,lq]) ⟨Fm,λcol hc=>aqI hc▸Nat.zero_lt_one,aG _⟩ hV yQ
 have h5:=I2'.h1;have h6:=h6<|h2 rfl;have S0:=akl (d:=d) (hs:=hs) (by exact KH cp);refine⟨O',ay,ao,au,h5,h6,jY 1 S0 ?_⟩;have F1:∀{t i:aq} {b:List bl} {p:Pos},t=(dc qe.body).1->b=y5->i=(dc qe.body).2.1->dB (d+10) eR (.For t i b [] p) (TS hs aj none j5 [] (cD aj.length []) [] []) .next (TS hs aj Io j5 ay (cD aj.length []) [] au):=by
  intro t i b p h1 h2 h3;subst h1;subst h2;subst h3;obtain⟨sr⟩:=X8 aj.length (by exact rr cp);refine mq sr rfl (dk (sc:=[.val<|.int aj.length,.val<|.fW ((aj.length:Int)-1) (-1)<|-1]) rfl ?_) trivial R1;walk_at "obs"
  ·exact Wl (by decide) (RL<|by decide)
  exact qM rfl (by exact Cj cp)
 have F2:∀{t i:aq} {b:List bl} {p:Pos},t=wU.1->b=wU.2.2->i=wU.2.1->dB (d+10) eR (.For t i b [] p) (TS hs aj Io j5 ay (cD aj.length []) [] au) .next (TS hs aj O' j5 ay ao (dY out) au):=by intro t i b p h1 h2 h3;subst h1;subst h2;subst h3;obtain⟨sr⟩:=mE aj.length (by exact rr cp);refine mq sr rfl (dk (sc:=[.val<|.int aj.length,.val<|.fW 0 (aj.length:Int) 1]) (by rfl') ?_) trivial R2;walk_at "obs";exact qM rfl (by exact Cj cp)
 refine aW (sc:=[.fl .next (λu=>TS hs aj Io j5 ay (cD aj.length []) [] au),.fl .next (λu=>TS hs aj O' j5 ay ao (dY out) au)]) rfl ?_;walk_at "obs"
 ·exact F2 rfl rfl rfl
 exact F1 rfl rfl rfl
theorem akp (cp:aj.length<=10)(dD:∀x∈aj,x.length<2^17)(hK:∀p∈hs,bY p.1)(O9:∀x∈cQ "aBcDeFgHiJ",bY x)(pr:∀x∈cQ "abcdefghij",bY x){out:List (Nat×Str)}(hV:∀p∈out,dH p.2)(h:gh bP (·== ·) (aj.map gT) (jI hs)=some out)(hb:db Lb (bB hs++[ax aj]) [.ab 1,.ab 3] [] [("table",.ab 1),("places",.ab 3)] (bB hs++[ax aj])):bM (d+12) (.aH 313) [.ab 1,.ab 3] [] (bB hs++[ax aj]) (.ab 5) (bB hs++[ax aj]++[.bt [("_headers",.ab 6)],.bE 184 4,.list ((dY out).map br)]):=by
 obtain⟨kc,ay,ao,au,h1,h2,R⟩:=akm (d:=d) cp dD hK O9 pr hV h;have c:=ahk.code (tab:=none) (d:=d+10) hb (by kernel_rfl) nofun (by rw[dM];exact R) (.inl rfl) (by rw[hO];show 4<=_;exact ah [_,_] (.gl (.n 4)<|.a (.a (.n 14) .o) .i) rfl) (by exact Bm (ae.mD (dQ _) _ h2) rfl (hO▸aG _)) (by show decide _=true;exact hO▸decide_eq_true (by exact ah [_,_] (.gt (.a (.n 12) .o)<|.a (.a (.n 14) .o) .i) rfl));refine c.qr<|yk [0,1,2,3,11+ao.length,12+ao.length,13+ao.length] (by simp;exact KQ) ?_ ?_ rfl
 ·have hA:=λi (hi:i<3)=>X1 (hs:=hs) (aj:=aj) (kc:=kc) (ay:=ay) (ao:=ao) (aD:=dY out) (au:=au) (more:=j5) (g:=[]) hi;simp [dM] at hA;have hn:[0,1,2,3,11+ao.length,12+ao.length,13+ao.length].Nodup:=by simp;exact KQ
  have p6:=gr _ 6 (13+ao.length) hn rfl;have p2:=gr _ 2 2 hn rfl;have p0:=gr _ 0 0 hn rfl;have e1:12+ao.length=11+ao.length+1:=by exact SL
  have e2:13+ao.length=11+ao.length+2:=by exact SK
  unfold g4;refine cq ?_<|cq ?_<|cq (gq rfl (fz<|na _ _))<|cq (y:=ax aj) ?_<|cq ?_<|cq ?_<|cq ?_ iF
  ·exact gq rfl (uv p2)
  ·exact gq rfl (rE p0)
  ·exact gq rfl (fz<|yM _ _)
  ·have t0:(TS hs aj kc j5 ay ao (dY out) au)[11+ao.length]?=_:=hA 0 (by decide);exact gq t0<|uv p6
  ·have t0:=hA 1 (by decide);rw[<-e1] at t0;refine gq t0 ?_;exact rE<|gr _ 4 (11+ao.length) hn rfl
  have t0:=hA 2 (by decide);rw[<-e2] at t0;exact gq t0<|fz<|na _ _
 have hn:[0,1,2,3,11+ao.length,12+ao.length,13+ao.length].Nodup:=by simp;exact KQ
 exact ij<|gr _ 5 (12+ao.length) hn rfl
end
end
section
variable {d:Nat}
section
variable {hs Pa:List (Str×Str)}{aj:List Str}{st:List ae}{i0 i1 i2 ip:Nat}
theorem akq {a:ai}(h:bM d (.aH a) [.ab 1,.ab 3] [] (bB hs++[ax aj]) (.ab 5) (bB hs++[ax aj]++[.bt [("_headers",.ab 6)],.bE 184 4,.list (Pa.map br)])) (hA:om st i0 i1 i2 hs)(hp:st[ip]?=some (ax aj))(cz:ip≠i2):bM d (.aH a) [.ab i1,.ab ip] [] st (.ab (st.length+1)) (st++[.bt [("_headers",.ab (st.length+2))],.bE 184 st.length,.list (Pa.map br)]):=by
 have DS:i0≠i1:=λe=>by have:=hA.h1;rw[<-e,hA.h0] at this;cases this
 have Bg:i0≠i2:=λe=>by have:=hA.h2;rw[<-e,hA.h0] at this;cases this
 have Bh:i1≠i2:=λe=>by have:=hA.h2;rw[<-e,hA.h1] at this;cases this
 have n0p:i0≠ip:=λe=>by rw[<-e,hA.h0] at hp;cases hp
 have n1p:i1≠ip:=λe=>by rw[<-e,hA.h1] at hp;cases hp
 have hn:[i0,i1,i2,ip].Nodup:=by simp [DS,Bg,Bh,n0p,n1p,rc cz]
 refine h.wR [i0,i1,i2,ip] hn ?_ rfl ?_ rfl ?_ (ij<|nf (j:=5) (i:=1) rfl)
 ·unfold g4;exact cq (gq hA.h0<|uv<|gr _ 2 _ hn rfl)<|cq (gq hA.h1<|rE<|gr _ 0 _ hn rfl)<|cq (gq hA.h2<|fz<|na _ _)<|cq (gq hp<|fz<|yM _ _) iF
 ·exact gC (ij<|gr _ 1 _ hn rfl)<|gC (ij<|gr _ 3 _ hn rfl) rfl
 exact cq (uv<|nf (j:=6) (i:=2) rfl)<|cq (rE<|nf (j:=4) (i:=0) rfl)<|cq (fz<|na _ _) iF
end
end
section
variable {d:Nat}
theorem Bo {b c s k:Nat}{bi ci:Int}(hb:bi=(b:Int))(hc:ci=(c:Int)):(((s:Int).fdiv (bi^(k:Int).toNat)).fmod ci)=((s/b^k%c:Nat):Int):=by subst hb;subst hc;rw[Fh,<-Int.natCast_pow,abN _<|mK _,<-Int.natCast_ediv,abR _<|mK _,<-abS]
theorem DW {c e s:Nat}{bi ci:Int}(hb:bi=(c:Int))(hc:ci=(e:Int)):(((s:Int).fdiv bi).fmod ci)=((s/c%e:Nat):Int):=by subst hb;subst hc;rw[abN _<|mK _,<-Int.natCast_ediv,abR _<|mK _,<-abS]
theorem Pb {c s:Nat}{ci:Int}(hc:ci=(c:Int)):((s:Int).fmod ci)=((s%c:Nat):Int):=by subst hc;rw[abR _<|mK _,<-abS]
theorem DX {x:Int}{b k:Nat}{bi:Int}(hb:bi=(b:Int))(h1:0<b)(h5:b<=5)(hk:k<=10):bi^(k:Int).toNat≠0∧Re x (bi^(k:Int).toNat)=false:=by
 subst hb;rw[Fh,<-Int.natCast_pow];have h2:=fC (Nat.pow_le_pow_left h5 k)<|Nat.pow_le_pow_right (by decide) hk;refine⟨KP<|Nat.pow_pos h1,RL ?_⟩;rw[Int.natAbs_natCast];have:5^10=9765625:=by decide
 exact ah [_] (.le .o (.n<|5^10)<|.gt .o<|.n 1073741824) rfl h2
theorem YD {step:Nat->CV->Option CV}:∀n a,ex step a ((fc a n).map af)=(fc a n).filterMap λi=>step i (af i)
 |0,a=>rfl|n+1,a=>by rw[mO,eC,y3,vT,YD n<|a+1];cases step a (af a)<;>rfl
theorem DY {step:Nat->CV->Option CV} n:ex step 0 ((aK n).map af)=(aK n).filterMap λi=>step i (af i):=by exact pW▸YD n 0
theorem y7 {α:Type}{step:Nat->CV->Option CV}{φ:α->CV}{f:α->Option CV}(h:∀i x,step i (φ x)=f x):∀(xs:List α) i,ex step i (xs.map φ)=xs.filterMap f
 |[],i=>rfl|x::xs,i=>by rw[eC,y3,vT,y7 h xs<|i+1,h];cases f x<;>rfl
def qN (cr k:Nat):Str:=if cr/2^k%2=1 then(cQ "ABCDEFGHIJ").getD k "" else d5 k
def Bp (aC:List Str)(cr:Nat)(k:Nat):Option (Str×Str):=match aC[k]? with
 |some x=>if x="" then none else some (qN cr k,x)|none=>none
def d7 (aC:List Str)(cr:Nat):List (Str×Str):=(aK aC.length).filterMap (Bp aC cr)
def Bq:aq:=ew (iL (g7 Cr.body 0)) 0
abbrev DZ:aY:=da Cr.scope 1 none
def nj (aC:List Str)(cr:Nat):List ae:=[ax aC,.frame [],.cell (some (.ab 0)),.cell (some (af cr))]
section
variable {aC:List Str}{cr:Nat}
theorem akt {k:Nat}{x:Str}(hk:aC[k]?=some x)(hl:aC.length<=10):∀cc e,cc=cI DZ (fH Bq) 5 [("way",2),("great",3)]->e=(ew Bq 0)->a8 d cc e (nj aC cr++[.list acc,.frame [("k",af k)]]) (br (qN cr k,x)) (nj aC cr++[.list acc,.frame [("k",af k)]]):=λcc e h1 h2=>by
 subst h1;subst h2;have iO:k<10:=by have:=(bV.mp hk).1;exact o3 this hl
 have hd:=Bo (b:=2) (c:=2) (s:=cr) (k:=k) (bi:=2) (ci:=2) rfl rfl;have hp:=DX (x:=cr) (k:=k) (bi:=2) rfl (by decide) (by decide) (xN iO);have hA:∀x:Str,x.length=10->∃y,(cQ x)[k]?=some y:=λx h=>⟨_,bA (by unfold cQ;rw[aV];have:=h;exact o1 iO this)⟩;by_cases hb:cr/2^k%2=1
 ·obtain⟨y,hy⟩:=hA "ABCDEFGHIJ" rfl;have e1:qN cr k=y:=by rw[qN,if_pos hb,ed,hy];rfl
  rw[e1];apply dk (sc:=[.yes,.val<|.str y,.val<|.str x]) rfl;walk_at "obs"
  ·exact e8 (by rfl) rfl hk (pX hl)
  ·exact wS hy<|Ci iO
  ·rw[hd,hb];decide
  ·decide
  ·exact hp
  exact⟨KC,Si iO,by decide⟩
 obtain⟨y,hy⟩:=hA "abcdefghij" rfl;have e1:qN cr k=y:=by rw[qN,if_neg hb,d5,ed,hy];rfl
 rw[e1];apply dk (sc:=[.no,.val<|.str y,.val<|.str x]) (by rfl);walk_at "obs"
 ·exact e8 (by rfl') rfl hk (pX hl)
 ·exact wS hy<|Ci iO
 ·rw[hd];have:cr/2^k%2=0:=TO hb;rw[this];decide
 ·decide
 ·exact hp
 exact⟨KC,Si iO,by decide⟩
theorem YE (h:1<=n):((nj aC cr).all λo=>o.lo n)=true:=by simp [nj,bU,cG,cP,bz];exact⟨cJ aC,rfl,decide_eq_true<|SZ h,rfl⟩
theorem aku (hl:aC.length<=10)(dD:∀x∈aC,x.length<2^17):a8 d DZ Bq (nj aC cr) (.ab 4) (nj aC cr++[.list ((d7 aC cr).map br)]):=by
 have iter:=dk (d:=d) (c:=DZ) (st:=nj aC cr) (sc:=[.val<|.int aC.length,.val<|.fW 0 aC.length 1]) (e:=(kZ Bq)) rfl (by walk_at "obs";exact qM rfl (Cj hl));have key:∀k x acc,aC[k]?=some x->fx d (cI DZ (fH Bq) 5 [("way",2),("great",3)]) (wE Bq) (nj aC cr++[.list acc,.frame [("k",af k)]]) ((x.length:Int) != 0) (nj aC cr++[.list acc,.frame [("k",af k)]]):=λk x acc hk=>by
  have:=dD x<|c8 hk;apply nX (sc:=[.val<|.str x]) rfl;walk_at "obs"
  ·exact Ck this
  exact e8 rfl rfl hk (pX hl)
 have e:(d7 aC cr).map br=ex (λi u=>(Bp aC cr i).map br) 0 ((aK aC.length).map af):=by rw[DY,d7,RU]
 rw[e];refine oJ<|oo (cl:=[("way",2),("great",3)]) ⟨⟨rfl,rfl,rfl,rfl,rfl⟩,rfl,iter,mE aC.length<|rr hl,λu=>trivial,rfl,aG _,YE (by decide),by rw[aV,fb];exact rr hl⟩ ?_ ?_ ?_
 ·intro i v acc du hv hs;obtain⟨hi,rfl⟩:=qK hv;have hk:=bA hi;have t:=key i _ acc hk;have:aC[i]="":=by
   unfold Bp at hs;rw[hk] at hs;dsimp only at hs;split at hs
   ·assumption
   cases hs
  rw[this,OS] at t;exact ms t
 ·intro i v acc y du hv hs;obtain⟨hi,rfl⟩:=qK hv;have hk:=bA hi;have t:=key i _ acc hk;unfold Bp at hs;rw[hk] at hs;dsimp only at hs;split at hs
  ·exact nS hs
  rename_i cz;obtain rfl:=dE hs;rw[vi cz] at t;exact⟨_,by exact ms t,by exact akt hk hl _ _ rfl rfl⟩
 intro i v y hv hs;unfold Bp at hs;split at hs
 ·split at hs
  ·exact nS hs
  obtain rfl:=dE hs;rfl
 exact nS hs
theorem akv (hl:aC.length<=10)(dD:∀x∈aC,x.length<2^17)(mZ:∀p∈d7 aC cr,bY p.1∧dH p.2)(hb:db Lc [ax aC] [.ab 0,af cr] [] [("way",.ab 0),("great",af cr)] [ax aC]):bM (d+7) (.aH 318) [.ab 0,af cr] [] [ax aC] (.ab 2) [ax aC,.bt [("_headers",.ab 3)],.bE 184 1,.list ((d7 aC cr).map br)]:=by
 have B:aI (d+5) DZ Cr.body (nj aC cr) (.ret<|.ab 6) (nj aC cr++[.list<|(d7 aC cr).map br]++[.bt [("_headers",.ab 4)],.bE 184 5]):=by
  apply aW (sc:=[.aE (.ab 4)<|nj aC cr++[.list<|(d7 aC cr).map br],.aE (.ab 6)<|nj aC cr++[.list<|(d7 aC cr).map br]++[.bt [("_headers",.ab 4)],.bE 184 5]]) (by rfl);walk_at "obs"
  ·exact ajF rfl mZ
  ·exact cK Yc
  exact aku hl dD
 have c:=ahl.code hb (by kernel_rfl) (λq h=>by exact nS h) (by rw[dM];exact B) (.inl rfl) (by show 1<=7;decide) (by refine cC (cC (YE<|by show 1<=7;decide) ?_) rfl;rw[bU,cG,cP];exact wQ _) rfl;exact c.qr<|yk [0,5,6,4] (by decide) (cq (fz<|yM _ _)<|cq rfl (cq rfl (cq (fz<|na _ _) iF))) rfl rfl
end
end
section
variable {d:Nat}
def pV (p:Nat×Nat):CV:=.cB [af p.1,af p.2]
noncomputable def lL (aP:Nat)(p:Nat×Nat):Option Nat:=if p.1<aP∧aP<=p.2 then some p.2 else none
noncomputable def nl (lt:Nat->Nat->Bool)(aA acc:List Nat)(k:Nat):List Nat:=(aK k).filterMap λi=>if lt (aA.getD i 0) (aA.getD k 0) then some (acc.getD i 0) else none
noncomputable def hU (l:List Nat):Nat:=l.foldl max 0
def k7 (lt:Nat->Nat->Bool)(aA acc:List Nat)(k:Nat):List Nat:=acc++[1+hU (nl lt aA acc k)]
def mF (lt:Nat->Nat->Bool)(aA:List Nat):List Nat:=(aK aA.length).foldl (k7 lt aA) []
noncomputable def iu (a b:Nat):Bool:=decide (a<b)
noncomputable def jK (a b:Nat):Bool:=decide (a>b)
def jt (ps:List (Nat×Nat))(aP:Nat):List Nat:=[hU (mF iu (ps.filterMap (lL aP))),hU (mF jK (ps.filterMap (lL aP)))]
theorem YF:∀(l:List Nat) a,a<=l.foldl max a∧(∀y∈l,y<=l.foldl max a)∧(l.foldl max a=a∨l.foldl max a∈l)
 |[],a=>⟨aG _,λu h=>(nomatch h),.inl rfl⟩|x::l,a=>by
  obtain⟨h1,h2,h3⟩:=YF l<|max a x;rw[fu];refine⟨acu h1,λy hy=>?_,?_⟩
  ·rcases pO.mp hy with e|e
   ·subst e;exact acv h1
   exact h2 y e
  rcases h3 with e|e
  ·rw[e];by_cases h:a<=x
   ·right;rw[Nat.max_eq_right h];exact .head _
   left;lia
  exact .inr<|.tail _ e
theorem Ip {st:List ae}{q:Nat}{l:List Nat}(h:st[q]?=some (a0 (0::l))):bk d (.bi "max") [.ab q] [] st (af (hU l)) st:=by
 obtain⟨_,h2,h3⟩:=YF l 0;apply afu h
 ·rcases h3 with e|e
  ·rw[hU,e];exact .head _
  exact .tail _<|Kf e
 intro y hy;obtain⟨z,hz,rfl⟩:=cu.mp hy;rcases pO.mp hz with e|e
 ·subst e;exact mK _
 exact EV.mpr<|h2 z e
theorem jL {st:List ae}{e:aq}{q:Nat}{xs:List Nat}{j v:Nat}(h:st[q]?=some (a0 xs))(hv:xs[j]?=some v)(hb:xs.length<2^40):fF d e (.ab q) (af j) st (af v) st:=by exact ahF h rfl (by rw[dN,hv];rfl) (by rwa[aV])
theorem YG {st:List ae}{q:Nat}{xs:List Nat}(h:st[q]?=some (a0 xs))(hn:xs.length<2^20):bk d (.bi "len") [.ab q] [] st (.int (xs.length:Int)) st:=by simpa using (uJ (d:=d) h<|by simp;exact KS hn)
abbrev lM:aY:=da wa.scope 1 none
def dZ (ps:List (Nat×Nat))(aP:Nat)(kc:Option CV)(aA ca cb:List Nat):List ae:=[.list (ps.map pV),.frame [("pairs",.ab 0)],.cell (some (af aP)),.cell (some (.ab 7)),.cell (some (.ab 8)),.cell (some (.ab 9)),.cell kc,a0 aA,a0 ca,a0 cb]
def rZ:aq×aq×List bl:=dc wa.body
def qO (n:Nat):aq:=ew (ew (ew (ew (iL (g7 rZ.2.2 n)) 0) 1) 0) 1
section
variable {ps:List (Nat×Nat)}{aP k:Nat}{aA ca cb:List Nat}{g:List ae}
theorem k8 xs:(a0 xs).lo n=true:=NT _
theorem wW:∀(ps:List (Nat×Nat)),CV.cV n (ps.map pV)=true
 |[]=>rfl|x::hs=>by rw[eC,CV.uu,wW hs];rfl
theorem Iq (hn:10<=n)(hk:(ae.cell kc).lo n=true):((dZ ps aP kc aA ca cb).all λo=>o.lo n)=true:=by have hd:∀i,i<10->(CV.ab i).lo n=true:=λi hi=>decide_eq_true<|o3 hi hn;simp [dZ,bU,cG,cP,bz];refine⟨wW ps,?_,rfl,hd 7 (by decide),hd 8 (by decide),hd 9 (by decide),hk,k8 _,k8 _,k8 _⟩;show((CV.ab 0).lo n&&true)=true;rw[hd 0<|by decide];rfl
theorem b37 {p:α->Bool}{f:α->β}:∀{xs:List α},xs.filterMap (λi=>if p i=true then some (f i) else none)=(xs.filter p).map f
 |[]=>rfl|x::xs=>by rw[List.filterMap_cons,sR,b37];cases p x<;>rfl
theorem b21 (r)(hk:k<aA.length)(hr:k<=(cond r cb ca).length)(he:aA.length<2^17)(gw:(cond r cb ca).length<2^17)(hg:(g.all λo=>o.lo 10)=true):a8 d lM (qO (cond r 1 0)) (dZ ps aP (some (af k)) aA ca cb++g) (.ab (10+g.length)) ((dZ ps aP (some (af k)) aA ca cb++g)++[a0 (nl (cond r jK iu) aA (cond r cb ca) k)]):=by
 let T:=dZ ps aP (some<|af k) aA ca cb++g;have hn:T.length=10+g.length:=by rw[dJ];rfl
 have iter:a8 d lM (kZ<|qO<|cond r 1 0) T (.fW 0 k 1) T:=by cases r<;>exact dk (sc:=[.val<|.fW 0 k 1]) rfl (by walk_at "obs")
 let S:=λacc i=>T++[.list acc,.frame [("i",af i)]];have s1:∀{i j acc e},j<aA.length->fF d e (.ab 7) (af j) (S acc i) (af<|aA.getD j 0) (S acc i):=λh=>jL rfl (by rw[ed,bA h];rfl) (o4 he);have s2:∀{i:Nat} {acc e},i<k->fF d e (.ab<|cond r 9 8) (af i) (S acc i) (af<|(cond r cb ca).getD i 0) (S acc i):=λ{i acc e} h=>jL (by cases r<;>rfl) (by rw[ed,bA<|show i<(cond r cb ca).length from o3 h hr];rfl)<|o4 gw;rw[show a0 (nl (cond r jK iu) aA (cond r cb ca) k)=.list (((aK k).filter λi=>cond r jK iu (aA.getD i 0)<|aA.getD k 0).map λi=>af<|(cond r cb ca).getD i 0) by rw[nl,b37,a0,fV,fV];rfl];have hq:∀i,cond r jK iu (aA.getD i 0) (aA.getD k 0)=cond r (decide ((aA.getD i 0:Nat)>((aA.getD k 0):Int))) (decide ((aA.getD i 0:Nat)<((aA.getD k 0):Int))):=λi=>by cases r<;>simp [jK,iu,xt]
 cases r;all_goals
  refine oJ<|b30 _ _ af ⟨⟨rfl,rfl,rfl,rfl,rfl⟩,rfl,iter,mE k<|FK gw hr,λx=>trivial,hn,ll hn,cC (Iq (by exact pY) rfl)<|Bl (by exact pY) hg,by rw[aV,fb];exact FK gw hr⟩ λi hi acc du=>⟨?_,λx=>by exact jC (eu rfl rfl rfl) (nh rfl rfl hn rfl rfl rfl rfl)<|s2<|gz.mp hi,rfl⟩;apply ms;rw[hq]
 exact F9 rfl (jC (eu rfl rfl rfl) (nh rfl rfl hn rfl rfl rfl rfl)<|s1<|Sn (gz.mp hi) hk) (jC (eu rfl rfl rfl) (eu rfl rfl rfl)<|s1 hk) UV;exact F9 rfl (jC (eu rfl rfl rfl) (nh rfl rfl hn rfl rfl rfl rfl)<|s1<|Sn (gz.mp hi) hk) (jC (eu rfl rfl rfl) (eu rfl rfl rfl)<|s1 hk) UW
theorem Ir {st:List ae}{p q:Nat}{a b:List Nat}(hp:st[p]?=some (a0 a))(hq:st[q]?=some (a0 b))(hl:a.length+b.length<=2^20):oN d .Add (.ab p) (.ab q) st (.ab st.length) (st++[a0 (a++b)]):=by rw[<-(show ae.list ((a.map λm:Nat=>(m:Int)).map CV.int++(b.map λm:Nat=>(m:Int)).map CV.int)=a0 (a++b) from by rw[a0,fU,fU])];exact Wk hp hq (by simp only [aV];exact SX hl)
theorem akA (hk:k<aA.length)(hr:ca.length=k)(hf:cb.length=k)(he:aA.length<2^17):aI d lM rZ.2.2 (dZ ps aP (some (af k)) aA ca cb) .next (dZ ps aP (some (af k)) aA (k7 iu aA ca k) (k7 jK aA cb k)):=by
 have c0:=b21 (d:=d) (ps:=ps) (aP:=aP) (cb:=cb) false hk (g:=[.list [.int 0]]) (KO hr) he (TJ he hk hr) rfl;have l0:(nl iu aA ca k).length<=k:=by have:=abT (λi=>if iu (aA.getD i 0) (aA.getD k 0) then some (ca.getD i 0) else none)<|aK k;rwa[fb] at this
 have l1:(nl jK aA cb k).length<=k:=by have:=abT (λi=>if jK (aA.getD i 0) (aA.getD k 0) then some (cb.getD i 0) else none)<|aK k;rwa[fb] at this
 have c1:=b21 (d:=d) (ps:=ps) (aP:=aP) (ca:=k7 iu aA ca k) true hk (g:=[.list [.int 0],a0<|nl iu aA ca k,a0<|0::nl iu aA ca k,.list [.int 0]]) (KO hf) he (TJ he hk hf) (by simp [bU,cG,cP,bz];exact⟨rfl,k8 _,k8 _,rfl⟩);dsimp only[cond] at c0 c1;have ea:k7 iu aA ca k=ca++[1+hU (nl iu aA ca k)]:=rfl;have eb:k7 jK aA cb k=cb++[1+hU (nl jK aA cb k)]:=rfl;have hal:(k7 iu aA ca k).length=k+1:=by rw[ea,dJ,hr];rfl
 rw[eb];generalize k7 iu aA ca k=YI at *;generalize nl iu aA ca k=L0 at *;generalize nl jK aA cb k=L1 at *;have ec:∀m:Nat,(1:Int)+(m:Int)=((1+m:Nat):Int):=λm=>ah [_] (.g 1 1<|.ie (.a .j<|.c .o)<|.c<|.a .j .o) rfl;have G:aI d lM rZ.2.2 (dZ ps aP (some<|af k) aA ca cb) .next (dZ ps aP (some<|af k) aA YI (cb++[1+hU L1])++[.list [.int 0],a0 L0,a0<|0::L0,.list [.int 0],a0 L1,a0<|0::L1]):=by
  refine aW (sc:=[.bg (.bi "list.append") [.ab 8],.c7 (.ab 11)<|λst=>st++[a0 L0],.c7 (.ab 12)<|λst=>st++[a0<|0::L0],.val<|af<|hU L0,.c7 .none<|λst=>st.set 8<|a0 YI,
   .bg (.bi "list.append") [.ab 9],.c7 (.ab 14)<|λst=>st++[a0 L1],.c7 (.ab 15)<|λst=>st++[a0<|0::L1],.val<|af<|hU L1,.c7 .none<|λst=>st.set 9<|a0<|cb++[1+hU L1]]) rfl ?_
  walk_at "obs"
  ·simp only [ec];exact Ih rfl (by exact TK he hk hf)
  ·exact Ip rfl
  ·exact Ir (a:=[0]) rfl rfl (by simp;exact TL he hk l1)
  ·exact c1
  ·exact jX rfl
  ·simp only [ea];exact Ih rfl (by exact TK he hk hr)
  ·exact Ip rfl
  ·exact Ir (a:=[0]) rfl rfl (by simp;exact TL he hk l0)
  ·exact c0
  exact jX rfl
 exact G.drop (aG _) (Iq (aG _) rfl) rfl
theorem Pc {lt:Nat->Nat->Bool}{aA:List Nat}{k:Nat}:(k7 lt aA acc k).length=acc.length+1:=by rw[k7,dJ];rfl
theorem YJ (he:aA.length<2^17):∀n k ca cb kc,k+n=aA.length->ca.length=k->cb.length=k->(ae.cell kc).lo 0=true->∃vl,(ae.cell vl).lo 0=true∧fG d lM rZ.1 rZ.2.2 (λx=>True) ((fc k n).map af) (dZ ps aP kc aA ca cb) .next (dZ ps aP vl aA ((fc k n).foldl (k7 iu aA) ca) ((fc k n).foldl (k7 jK aA) cb))
 |0,k,ca,cb,kc,u,o,z,h=>⟨kc,h,.nil trivial⟩|n+1,k,ca,cb,kc,h1,h2,h3,h=>by obtain⟨vl,h4,R⟩:=YJ he n (k+1) (k7 iu aA ca k) (k7 jK aA cb k) (some<|af k) (xO h1) (by rw[Pc,h2]) (by rw[Pc,h3]) rfl;exact⟨vl,h4,.cons trivial ((i4 (sc:=[]) rfl aX)) (akA (FL h1) h2 h3 he) (.inl rfl) R⟩
def y8 (ps:List (Nat×Nat))(aP:Nat):List ae:=[.list (ps.map pV),.frame [("pairs",.ab 0)],.cell (some (af aP)),.cell none,.cell none,.cell none,.cell none]
theorem akB (hl:ps.length<2^17):a8 d lM (ew (iL (g7 wa.body 0)) 0) (y8 ps aP) (.ab 7) (y8 ps aP++[a0 (ps.filterMap (lL aP))]):=by
 have e:a0 (ps.filterMap<|lL aP)=.list (ex (λx v=>match v with|.cB [.int a,.int b]=>if a<aP∧aP<=b then some (.int b) else none|_=>none) 0<|ps.map pV):=by
  rw[y7 (f:=λp=>(lL aP p).map af)<|λi p=>?_,a0,fV,RU]
  ·rfl
  obtain⟨a,b⟩:=p;show(if((a:Nat):Int)<aP∧(aP:Int)<=((b:Nat):Int) then _ else _)=_;unfold lL;by_cases h:a<aP∧aP<=b
  ·rw[if_pos (by lia),if_pos h];rfl
  rw[if_neg (by lia),if_neg h];rfl
 have t1:∀(a b:Int) acc (q1 q2),decide (a<aP)=q1->decide (aP<=b)=q2->fx d (cI lM (fH<|ew (iL<|g7 wa.body 0) 0) 8 [("gap",2)]) (wE<|ew (iL<|g7 wa.body 0) 0)
  (y8 ps aP++[.list acc,.frame [("p",.int a),("q",.int b)]]) (q1&&q2) (y8 ps aP++[.list acc,.frame [("p",.int a),("q",.int b)]]):=λa b acc q1 q2 h1 h2=>by
  cases q1 with|false=>apply nX (sc:=[.no]) rfl;walk_at "obs";exact h1|true=>subst h2;refine nX (sc:=[.yes]) rfl ?_;walk_at "obs";exact h1
 rw[e];with_unfolding_all refine oJ<|ajN ⟨rfl,rfl,rfl,rfl,rfl⟩ rfl rfl (by decide) (eu rfl rfl rfl) ⟨rI 0 _⟩ (λx=>rfl) rfl (aG _) ?_ ?_ ?_ ?_ ?_ (by rw[aV];exact ah [_] (.lt .o (.n<|2^17)<|.gl .o<|.n<|2^20) rfl hl)
 ·simp only [y8,bU,cG,cP,bz];exact⟨wW ps,rfl,rfl,rfl,rfl,rfl,rfl⟩
 ·intro i v hv;obtain⟨p,_,rfl⟩:=cu.mp<|c8 hv;exact⟨_,_,rfl⟩
 ·intro i a b acc du hv hs;obtain⟨p,_,e⟩:=cu.mp<|c8 hv;cases e;have t:=t1 p.1 (p.2:Int) acc _ _ rfl rfl;have hs:(if((p.1:Nat):Int)<aP∧aP<=((p.2:Nat):Int) then some (CV.int p.2) else none)=none:=hs;have:(decide ((p.1:Int)<aP)&&decide ((aP:Int)<=p.2))=false:=by
   split at hs
   ·cases hs
   rename_i h;simpa using h
  rw[this] at t;exact ms t
 ·intro i a b acc y du hv hs;obtain⟨p,_,e⟩:=cu.mp<|c8 hv;cases e;have t:=t1 (p.1:Int) (p.2:Int) acc _ _ rfl rfl;have hs:(if((p.1:Nat):Int)<aP∧(aP:Int)<=((p.2:Nat):Int) then some (CV.int p.2) else none)=some y:=hs;split at hs
  ·rename_i h;obtain rfl:=dE hs;rw[show(decide ((p.1:Int)<aP)&&decide ((aP:Int)<=p.2))=true by simpa using h] at t;refine⟨_,by exact ms t,?_⟩;exact eu rfl rfl rfl
  exact nS hs
 intro i v y hv hs;obtain⟨p,_,rfl⟩:=cu.mp<|c8 hv;have hs:(if((p.1:Nat):Int)<aP∧(aP:Int)<=((p.2:Nat):Int) then some (CV.int p.2) else none)=some y:=hs;split at hs
 ·obtain rfl:=dE hs;rfl
 exact nS hs
theorem akC (hl:ps.length<2^16):∃kc,(ae.cell kc).lo 0=true∧aI d lM wa.body (y8 ps aP) (.ret (.ab 14)) (dZ ps aP kc (ps.filterMap (lL aP)) (mF iu (ps.filterMap (lL aP))) (mF jK (ps.filterMap (lL aP)))++[.list [.int 0],a0 (0::mF iu (ps.filterMap (lL aP))),.list [.int 0],a0 (0::mF jK (ps.filterMap (lL aP))),a0 (jt ps aP)]):=by
 have he:(ps.filterMap<|lL aP).length<2^16:=q7 (abT _ _) hl;have E:=akB (d:=d) (aP:=aP)<|KF hl;unfold jt;generalize ps.filterMap (lL aP)=aA at *;obtain⟨kc,hk,L⟩:=YJ (KF he) aA.length 0 [] [] none (KG) rfl rfl rfl;rw[<-pW] at L;have lr:∀lt,(mF lt aA).length=aA.length:=λlt=>by
  have:∀(l acc:List Nat),(l.foldl (k7 lt aA) acc).length=acc.length+l.length:=by intro l;induction l with|nil=>intro acc;rfl|cons x l ih=>intro acc;rw[fu,ih,Pc,dO];exact Aa
  rw[mF,this];simp
 have hL:fG d lM rZ.1 rZ.2.2 (λu=>True) ((aK aA.length).map af) (dZ ps aP none aA [] []) .next (dZ ps aP kc aA (mF iu aA)<|mF jK aA):=L;have l1:=lr iu;have l2:=lr jK;generalize mF iu aA=ca at *;generalize mF jK aA=cb at *;have F:∀{t i:aq} {b:List bl} {p:Pos},t=rZ.1->b=rZ.2.2->i=rZ.2.1->dB d lM (.For t i b [] p) (dZ ps aP none aA [] []) .next (dZ ps aP kc aA ca cb):=by intro t i b p h1 h2 h3;subst h1;subst h2;subst h3;obtain⟨sr⟩:=mE aA.length<|ah [_] (.lt .o (.n<|2^16)<|.gl .o<|.n<|2^20) rfl he;refine mq sr rfl (dk (sc:=[.val<|.int aA.length,.val<|.fW 0 aA.length 1]) rfl ?_) trivial hL;walk_at "obs";exact YG rfl (ah [_] (.lt .o (.n<|2^16)<|.gt .o<|.n<|2^20) rfl he)
 refine⟨kc,hk,aW (sc:=[.c7 (.ab 7)<|λst=>st++[a0 aA],.fl .next (λu=>dZ ps aP kc aA ca cb),.c7 (.ab 11)<|λst=>st++[a0<|0::ca],.val<|af<|hU ca,.c7 (.ab 13)<|λst=>st++[a0<|0::cb],.val<|af<|hU cb]) rfl ?_⟩;walk_at "obs"
 ·exact Ip rfl
 ·exact Ir (a:=[0]) rfl rfl (by simp;exact TM he l2)
 ·exact Ip rfl
 ·exact Ir (a:=[0]) rfl rfl (by simp;exact TM he l1)
 ·exact F rfl rfl rfl
 ·show 3<=cX;decide
 exact E
theorem akD (hl:ps.length<2^16)(hb:db Ld [.list (ps.map pV)] [.ab 0,af aP] [] [("pairs",.ab 0),("gap",af aP)] [.list (ps.map pV)]):bM (d+2) (.aH 323) [.ab 0,af aP] [] [.list (ps.map pV)] (.ab 1) [.list (ps.map pV),a0 (jt ps aP)]:=by obtain⟨kc,hk,B⟩:=akC hl;generalize jt ps aP=r at *;generalize ps.filterMap (lL aP)=aA at *;generalize mF iu aA=ca at *;generalize mF jK aA=cb at *;have c:=ahm.code hb (by kernel_rfl) (λq h=>by exact nS h) (by rwa[dM]) (.inl rfl) (by show 1<=15;decide) (by show((dZ ps aP kc aA ca cb++[.list [.int 0],a0<|0::ca,.list [.int 0],a0<|0::cb,a0 r]).all λo=>o.lo 15)=true;apply cC<|Iq (by decide)<|ae.mD (dQ _) _ hk;simp [bU,cG,cP];exact⟨rfl,k8 _,rfl,k8 _,k8 _⟩) rfl;exact c.qr<|yk [0,14] (by decide) (cq (fz<|tM<|wW ps)<|cq (fz<|Ho _ _) iF) rfl rfl
theorem akE {a:ai}{st:List ae}{ip:Nat}(h:bM d (.aH a) [.ab 0,af aP] [] [.list (ps.map pV)] (.ab 1) [.list (ps.map pV),a0 (jt ps aP)])(hp:st[ip]?=some (.list (ps.map pV))):bM d (.aH a) [.ab ip,af aP] [] st (.ab st.length) (st++[a0 (jt ps aP)]):=by
 refine bM.wR [ip] h (by simp) ?_ rfl ?_ rfl (cq (fz<|Ho _ _) iF) (ij<|nf (i:=0) rfl)
 ·unfold g4;exact cq (gq hp<|fz<|tM<|wW ps) iF
 exact gC (ij<|gr [ip] 0 ip (by simp) rfl) rfl
theorem akF {aC:List Str}{cr:Nat}{hs:List (Str×Str)}{a:ai}{st:List ae}{ip:Nat}(h:bM d (.aH a) [.ab 0,af cr] [] [ax aC] (.ab 2) [ax aC,.bt [("_headers",.ab 3)],.bE 184 1,.list (hs.map br)])(hp:st[ip]?=some (ax aC)):bM d (.aH a) [.ab ip,af cr] [] st (.ab (st.length+1)) (st++[.bt [("_headers",.ab (st.length+2))],.bE 184 st.length,.list (hs.map br)]):=by
 refine bM.wR [ip] h (by simp) ?_ rfl ?_ rfl ?_ (ij<|nf rfl)
 ·unfold g4;exact cq (gq hp<|fz<|yM _ _) iF
 ·exact gC (ij<|gr [ip] 0 ip (by simp) rfl) rfl
 exact cq (uv<|nf rfl)<|cq (rE<|nf (i:=0) rfl)<|cq (fz<|na _ _) iF
end
end
section
section
variable {d:Nat}
open Builtin Builtin.Str StrLaws in
theorem Pd (s:Str)(c:Nat):∀(n i:Nat) (st:Array Nat×Nat),i+n=s.length->st.1.size+n<=s.length->st.2<=i->
 ((forIn (fc i (n+1)) st (occBody s ⟨#[c]⟩ s.length (s.length+1))).run.1.toList.length=st.1.size+(s.cps.toList.drop i).count c)
 | 0,i,st,h1,h2,h3=>by
   have hn:¬(((st.1.size<s.length+1∧st.2<=i)∧i+(⟨#[c]⟩:Str).length<=s.length)∧subAt s ⟨#[c]⟩ i=true):=by
    intro h
    have:(⟨#[c]⟩:Str).length=1:=rfl
    have:=h.1.2
    exact ah [_,_,_] (.c (-1) 0 (.eq (.a .o .k) .i) (.le (.a .o .u) .i (.c (-1) 0 (.eq .u .j) (.g 0 0 (.f))))) rfl h1 this (by assumption)
   rw[mO,xH]
   unfold occBody
   rw[if_neg hn]
   have hd:s.cps.toList.drop i = []:=Fn (by show s.cps.toList.length<=i;rw[v0];show s.length<=i;exact ah [_,_] (.c (-1) 0 (.eq (.a .o .k) .i) (.gl .i .o)) rfl h1)
   rw[hd]
   simp
 | n+1,i,st,h1,h2,h3=>by
   have hi:i<s.cps.toList.length:=by rw[v0];show i<s.length;exact FL h1
   have hd:s.cps.toList.drop i=s.cps.toList[i]::s.cps.toList.drop (i+1):=Ky hi
   have hl:(⟨#[c]⟩:Str).length=1:=rfl
   have hs:subAt s ⟨#[c]⟩ i=(s.cps.toList[i] == c):=by
    unfold subAt
    rw[hl]
    have jl:i<s.cps.size:=by simpa using hi
    have e:s.cps.extract i (i+1) = #[s.cps[i]]:=by
     apply Array.ext
     · rw[Array.size_extract,Nat.min_eq_left jl];exact Nat.add_sub_cancel_left i 1
     · intro j h1 h2
       simp at h2
       subst h2
       simp
    rw[e]
    simp
   rw[mO,xH,hd,iU]
   by_cases hc:(s.cps.toList[i] == c)=true
   · have hy:((st.1.size<s.length+1∧st.2<=i)∧i+(⟨#[c]⟩:Str).length<=s.length)∧subAt s ⟨#[c]⟩ i=true:=⟨⟨⟨by exact ah [_,_,_] (.le (.a .o .i) .u (.gt .o (.a .u .j))) rfl h2,h3⟩,by rw[hl];exact ah [_,_,_,_] (.eq (.a .o (.a .i .u)) .w (.gl (.a .o .u) .w)) rfl h1⟩,by rw[hs,hc]⟩
     have e:occBody s ⟨#[c]⟩ s.length (s.length+1) i st=pure (ForInStep.yield (st.1.push i,i+(⟨#[c]⟩:Str).length)):=if_pos hy
     rw[e]
     have ih:=Pd s c n (i+1) (st.1.push i,i+(⟨#[c]⟩:Str).length) (by exact xO h1) (by rw[RN];exact FF h2) (by rw[hl];exact aG _)
     rw[if_pos hc]
     rw[pure_bind]
     dsimp only at ih ⊢
     rw[ih,RN]
     exact ah [_,_] (.ge (.a (.a .o .j) .i) (.a .o (.a .i .j))) rfl
   · have hn:¬(((st.1.size<s.length+1∧st.2<=i)∧i+(⟨#[c]⟩:Str).length<=s.length)∧subAt s ⟨#[c]⟩ i=true):=λh=>hc (by rw[<-hs];exact h.2)
     have e:occBody s ⟨#[c]⟩ s.length (s.length+1) i st=pure (ForInStep.yield (st.1,st.2)):=if_neg hn
     rw[e]
     have ih:=Pd s c n (i+1) (st.1,st.2) (by exact xO h1) (by show st.1.size+n<=_;exact ah [_,_,_,_] (.le (.a .o (.a .i .u)) .w (.gl (.a .o .i) .w)) rfl h2) (by show st.2<=_;exact uh h3)
     rw[if_neg hc]
     rw[pure_bind]
     dsimp only at ih ⊢
     rw[ih]
     exact ah [_,_] (.ge (.a .o .i) (.a .o (.a .i .k))) rfl
open StrLaws in
theorem Pe (s:Str)(c:Nat):sM s ⟨#[c]⟩=((s.cps.toList.count c:Nat):Int):=by
 unfold sM
 rw[occ_eq]
 congr 1
 have:=Pd s c s.length 0 (#[],0) (by exact KG) (by simp) (aG _)
 rw[vY,this]
 simp
noncomputable def tT (m s0:Nat)(acc:List Bool)(k:Nat):List Bool:=acc++[(decide (acc.count true<m)&&(s0/2^k%2==1))||(2*acc.count true==k)]
def gU (m s0:Nat):List Bool:=(aK (2*m)).foldl (tT m s0) []
noncomputable def bh (l:List Bool):Str:=⟨(l.map λb=>if b then 40 else 41).toArray⟩
theorem np l:(bh l).length=l.length:=by simp [bh,Fi]
theorem akG l:sM (bh l) "("=((l.count true:Nat):Int):=by have e:(("(":Str))=⟨#[40]⟩:=rfl;rw[e,Pe (bh l) 40];congr 1;show(l.map λb=>if b then 40 else 41).count 40=_;induction l with|nil=>rfl|cons b l ih=>cases b<;>rw[eC,iU,iU,ih]<;>rfl
theorem akH l:sM (bh l) ")"=((l.count false:Nat):Int):=by have e:((")":Str))=⟨#[41]⟩:=rfl;rw[e,Pe (bh l) 41];congr 1;show(l.map λb=>if b then 40 else 41).count 41=_;induction l with|nil=>rfl|cons b l ih=>cases b<;>rw[eC,iU,iU,ih]<;>rfl
theorem akI l (b:Bool):bh l++(if b then("(":Str) else")")=bh (l++[b]):=by apply xC;rw[vR];cases b<;>simp [bh]<;>rfl
section
variable {ss:List Nat}{m s0:Nat}
noncomputable def v1 (k free:CV)(s:Str):List (Str×CV):=[("k",k),("free",free),("signs",.str s)]
end
end
section
variable {d:Nat}
section
variable {ss:List Nat}{m s0 s1 s2:Nat}{nm:List Str}{sg:List Bool}
noncomputable def ja:Str:="\t \"#()\\a"
def kI (m s1:Nat):List Str:=((cQ ja).drop (s1%(9-m))).take m
noncomputable def kJ:List Bool->List Str->List Str
 |[],u=>[]|true::r,x::xs=>x::kJ r xs|true::r,[]=>""::kJ r []|false::r,xs=>""::kJ r xs
theorem YK {x:Str}:kJ (true::r) (x::xs)=x::kJ r xs:=rfl
theorem YL:kJ (false::r) xs=("":Str)::kJ r xs:=rfl
def d0 (nm:List Str)(s2:Nat):List (Str×CV):=(aK nm.length).map λk=>(nm.getD k "",af (s2/4^k%2))
theorem akK {k:Str}(h:∀p∈es,p.1≠k):yw es k v=es++[(k,v)]:=by unfold yw;rw[if_neg];intro hh;rw[List.any_eq_true] at hh;obtain⟨p,hp,e⟩:=hh;exact h p hp (by simpa using e)
end
end
section
variable {d:Nat}
section
variable {ss:List Nat}{m s0 s1 s2 s3:Nat}{nm pl:List Str}{sg:List Bool}{s:Str}{g1 g2:List Str}{rk:List (Str×CV)}
theorem D2 {α:Type}{φ:α->CV}{L:List α}:∀xs i,i+xs.length=L.length->ex (λi u=>(L[i]?).map φ) i xs=(L.drop i).map φ
 |[],i,h=>by rw[X4,Fn<|by simpa using ll h.symm];rfl|x::xs,i,h=>by rw[dO] at h;have hi:i<L.length:=FL h;rw[y3,bA hi,Ky hi];dsimp only [Km];rw[D2 xs (i+1)<|xO h,eC]
theorem y9:∀sg nm,(kJ sg nm).length=sg.length
 |[],u=>rfl|true::r,x::xs=>congrArg Nat.succ (y9 r xs)|true::r,[]=>congrArg Nat.succ (y9 r [])|false::r,xs=>congrArg Nat.succ<|y9 r xs
theorem Pf:∀sg nm i,sg[i]?=some true->(sg.take i).count true<nm.length->(kJ sg nm)[i]?=nm[(sg.take i).count true]?
 |[],z,i,h,w=>by simp at h|b::r,nm,0,h,hc=>by
  obtain rfl:=dE h;cases nm with
  |nil=>simp at hc|cons x xs=>rfl
 |true::r,nm,i+1,h,hc=>by
  rw[RV,List.count_cons_self] at hc ⊢;cases nm with
  |nil=>simp at hc|cons x xs=>rw[YK,re,re];exact Pf r xs i h (by rw[dO] at hc;exact ah [_,_,_] (.lt (.a .o .i) (.a .u .i)<|.gt .o .u) rfl hc)
 |false::r,nm,i+1,h,hc=>by rw[RV,List.count_cons_of_ne<|by decide] at hc ⊢;rw[YL,re];exact Pf r nm i h hc
theorem Iu:∀sg nm (i:Nat),sg[i]?=some false->(kJ sg nm)[i]?=some ("":Str)
 |[],u,i,h=>by simp at h|b::r,nm,0,h=>by obtain rfl:=dE h;rfl|true::r,nm,i+1,h=>by
  cases nm with
  |nil=>exact Iu r [] i h|cons x xs=>exact Iu r xs i h
 |false::r,nm,i+1,h=>Iu r nm i h
noncomputable def gG (sg:List Bool)(i:Nat):Nat:=(sg.take i).count true
theorem YM {i:Nat}(h:sg[i]?=some b):gG sg (i+1)=gG sg i+if b then 1 else 0:=by unfold gG;rw[aa2,h,List.count_append];cases b<;>rfl
theorem YN i:gG sg i<=sg.count true:=by exact List.Sublist.count_le _<|List.take_sublist _ _
theorem YO:(bh sg).cps.toList.map jR=sg.map λb=>CV.str (if b then"(" else")"):=by show(sg.map λb=>if b then 40 else 41).map jR=_;rw[fV];refine vZ λb x=>?_;cases b<;>rfl
end
end
section
variable {d:Nat}
theorem wX {P:Nat->Prop}(h0:P 0)(h:∀j,j<n->P (j+1)) j (hj:j<n+1):P j:=by cases j with|zero=>exact h0|succ j=>exact h j<|z5 hj
theorem D3 {P:Nat->Prop}(h0:P 0)(h1:P 1)(h2:P 2)(h3:P 3)(h4:P 4)(h5:P 5)(h6:P 6)(h7:P 7):∀j,j<8->P j:=
 wX h0 (wX h1<|wX h2<|wX h3<|wX h4<|wX h5<|wX h6<|wX h7 λj h=>absurd h<|zY j)
section
variable {d:Nat}{st:List ae}{a:ai}{rest:List CV}{n:Nat}{cs iJ:List Nat}{ln fR:Int}{pb qP:List Str}{v:CV}
noncomputable def za (n:Nat):List Nat:=(aK 8).map λi=>n+i
theorem Iv {i:Nat}(h:i<8):(za n)[i]?=some (n+i):=by rw[za,dN,iS h];rfl
theorem Pg n:(za n).Nodup:=Rf _ (λx x h e=>h<|Rg e) xF
theorem Iw {x:Str}(h:v.bI f=some v')(hr:jh f r=some r'):jh f ((x,v)::r)=some ((x,v')::r'):=gC h hr
end
section
variable {ss:List Nat}{m s0 s1 s2 s3:Nat}{nm pl:List Str}{sg:List Bool}{s:Str}{g1 g2:List Str}{rk:List (Str×CV)}
noncomputable def tU:List Str:=[" ","\n","\t\n","\r"]
def kK (nm:List Str)(s2 s3:Nat)(k:Nat):Str:=jE (nm.getD k "") ((s2/4^k%4:Nat):Int)++tU.getD (s3/4^k%4) ""
noncomputable def qQ:List Str:=["z","z\\","\"z","z \n"]
def ou (nm:List Str)(s2 s3:Nat):Str:=gY "" ((aK nm.length).map (kK nm s2 s3))++qQ.getD (s2/1024%4) ""
end
end
section
variable {d:Nat}
section
variable {ss:List Nat}{m s0 s1 s2 s3:Nat}{nm pl left:List Str}{sg:List Bool}{s T:Str}{g1 g2:List Str}{rk:List (Str×CV)}
theorem akL {x:Str}{w:Int}(h:x.length<=5):(jE x w).length<=10:=by
 have h1:(yP x).length<=6:=by rw[yP,jF];have:"\\".length=1:=by decide
                              exact ah [_,_] (.eq .o .j (.le .i (.n 5) (.gl (.a .o .i) (.n 6)))) rfl this h
 have h2:∀w,(m6 x w).length<=8:=λw=>by
  have q:("\"":Str).length=1:=by decide
  rw[m6,jF,jF,q]
  split<;>(first| exact ah [_] (.le .o (.n 5) (.gl (.a (.a .j .o) .j) (.n 8))) rfl h| exact ah [_] (.le .o (.n 6) (.gl (.a (.a .j .o) .j) (.n 8))) rfl h1)
 unfold jE
 split
 · exact Tf h1
 · split
   · exact ah [_] (.le .o (.n 8) (.gl .o .t)) rfl (h2 w)
   · split<;>(first| exact Tf h1| exact KY h)
theorem YP (hn:∀x∈nm,x.length<=5) k:(kK nm s2 s3 k).length<=14:=by
 have h1:(nm.getD k "").length<=5:=by rw[ed];cases h:nm[k]? with|none=>decide|some x=>exact hn x<|c8 h
 have h2:∀j,(tU.getD j "").length<=3:=λj=>by
  match j with
  |0=>decide|1=>decide|2=>decide|3=>decide|u+4=>exact dQ _
 rw[kK,jF];have:=akL (w:=(s2/4^k%4:Nat)) h1;exact ah [_,_] (.le .o .t<|.le .i (.n 3)<|.gl (.a .o .i)<|.n 14) rfl (by assumption) (h2<|s3/4^k%4)
theorem Ph {l:List α}:(l.map f).map CV.str=l.map λx=>CV.str (f x):=by rw[fV];rfl
open Builtin Builtin.Str in
theorem Ix:∀(ps:List Str),(gY "" ps).cps.toList=(ps.map λp=>p.cps.toList).flatten:=by
 have h:∀(ps:List Str) (acc:Array Nat),(ps.foldl (λacc p=>acc++("":Str).cps++p.cps) acc).toList=acc.toList++(ps.map λp=>p.cps.toList).flatten:=by
  intro ps
  induction ps with
  | nil=>intro acc;simp
  | cons p ps ih=>
    intro acc
    rw[fu,ih,eC,RW]
    have:("":Str).cps = #[]:=rfl
    rw[this,abl,z3,eJ]
 intro ps
 cases ps with
 | nil=>rfl
 | cons p ps=>exact h ps p.cps
theorem YQ:∀(ps:List Str),(∀p∈ps,p.length<=B)->(ps.map λp=>p.cps.toList).flatten.length<=ps.length*B
 |[],x=>by simp|p::ps,h=>by rw[eC,RW,dJ,dO,Nat.succ_mul,v0];exact ah [_,_,_,_] (.le .o .i<|.le .u .w<|.gl (.a .o .u)<|.a .w .i) rfl (h p<|.head _) (YQ ps λq hq=>h q<|.tail _ hq)
theorem Iy (h:∀p∈ps,p.length<=B):(gY "" ps).length<=ps.length*B:=by have:(gY "" ps).length=(gY "" ps).cps.toList.length:=v0.symm;rw[this,Ix];exact YQ ps h
end
end
section
variable {d:Nat}
section
variable {ss:List Nat}{m s0 s1 s2 s3:Nat}{nm pl left:List Str}{sg:List Bool}{s T:Str}{g1 g2 g3:List Str}{rk:List (Str×CV)}
structure de where
 cs:List Nat
 ln:Int
 pb:List Str
 line:List Str
 drawn:List Str
 row:List Str
 eM:List Bool
theorem YR:∀(xs:List Bool),CV.cV n (xs.map CV.bool)=true
 |[]=>rfl|x::xs=>by rw[eC,CV.uu,YR xs];rfl
end
end
section
variable {d:Nat}
noncomputable def qR (rk:List (Str×CV))(v:Str):Int:=match rk.lookup v with
 |some (.int i)=>i|_=>0
def jb (rt:Bool)(rk:List (Str×CV))(x:Str)(row:List Str):List Str:=if rt then tL (λv=>!decide (qR rk x<qR rk v)) x row else tL (λv=>decide (qR rk v<qR rk x)) x row
section
variable {d:Nat}{st:List ae}{k j p q:Nat}{ns:List Str}{rk:List (Str×CV)}{x:Str}
theorem akM (h:∃r:Nat,rk.lookup v=some (af r)):∃r:Nat,rk.lookup v=some (af r)∧qR rk v=(r:Int):=by obtain⟨r,h⟩:=h;exact⟨r,h,by rw[qR,h];rfl⟩
end
section
variable {ss:List Nat}{m s0 s1 s2 s3 s4:Nat}{nm pl left w:List Str}{sg:List Bool}{s T:Str}{g1 g2 g3:List Str}{rk:List (Str×CV)}{rt:Bool}
noncomputable def Iz (rt:Bool):ai:=if rt then 197 else 215
noncomputable def D4 (rt:Bool):Int:=if rt then 1 else -1
theorem wY {l:List α}(h:l.length=n+1):∃a r,l=a::r∧r.length=n:=by cases l with|nil=>cases h|cons a r=>exact⟨a,r,rfl,RK h⟩
def vn (nm:List Str)(rk:List (Str×CV))(rt:Bool)(v:Str):Int×Int:=(qR rk v,D4 rt*((nm.findIdx (λx=>x==v):Nat):Int))
end
end
section
variable {d:Nat}
section
variable {ss:List Nat}{m s0 s1 s2 s3 s4:Nat}{nm pl left w:List Str}{sg:List Bool}{s T:Str}{g1 g2 g3:List Str}{rk:List (Str×CV)}{rt:Bool}
theorem akO {k:Nat}(hk:k<=sg.length):gD (bh sg) none (some (k:Int))=bh (sg.take k):=by
 rw[Dq,np];have e:i5 (some k) sg.length=k:=by show nH _ _=_;rw[uP];exact o83 hk
 rw[e];show(⟨((rq 0 _).take<|k-0).toArray⟩:Str)=_;rw[sQ,vY];simp [bh]
theorem Pi:∀{l:List α} {j},(l.eraseIdx j).map f=(l.map f).eraseIdx j
 |[],j=>rfl|x::l,0=>rfl|x::l,j+1=>by rw[RP,eC,eC,RP,Pi]
inductive Br (nm:List Str)(rk:List (Str×CV))(rt:Bool)(pl:List Str)(sg:List Bool)(s4 k:Nat):de->de->Prop|mA {D:de} {x:Str}:pl[k]?=some x->x≠""->x.length<2^17->x∈nm->(∀v∈D.row,v∈nm)->D.pb.length<=100->D.line.length<=100->D.drawn.length<=100->D.eM.length<=100->D.row.length<=10->
  tJ ((jb rt rk x D.row).map (vn nm rk rt))=some (aK (jb rt rk x D.row).length)->(∀v,v∈jb rt rk x D.row↔v=x∨v∈D.row)->(jb rt rk x D.row).length=D.row.length+1->
  Br nm rk rt pl sg s4 k D {D with pb:=D.pb++[x],line:=D.line++[("":Str)],drawn:=D.drawn++[("":Str)],row:=jb rt rk x D.row,eM:=D.eM++[false]}|cls {D:de} {p y:Str} {ps:List Str} {j:Nat}:pl[k]?=some ("":Str)->k<=sg.length->D.pb=p::ps->j=s4/5^((sg.take k).count false)%D.row.length->D.row[j]?=some y->D.cs.length<=1000->D.pb.length<=100->D.line.length<=100->D.drawn.length<=100->D.row.length<=10->
  Br nm rk rt pl sg s4 k D {D with pb:=ps,line:=D.line++[p],drawn:=D.drawn++[y],row:=D.row.eraseIdx j}
end
end
section
variable {d:Nat}
section
variable {ss:List Nat}{m s0 s1 s2 s3 s4:Nat}{nm pl left w:List Str}{sg:List Bool}{s T pc:Str}{g1 g2 g3:List Str}{rk:List (Str×CV)}{rt:Bool}{G:List ae}{D:de}
noncomputable def iP:List Str:=["","\")\"","\"(\"","\\)","\"\\\")\"","\"\""]
noncomputable def lN (pl:List Str)(pc:Str)(ph k:Nat):Str:=if pl.getD k ""="" then")"++(if k%3=ph then pc else"") else"(\\"++pl.getD k ""
end
end
section
variable {d:Nat}{c:aY}
section
variable {T:List ae}{n:Nat}{p1 p2 p3 p4 p5 px pos:Pos}{scope:d8}{iter:aq}{a:CV}{xs:List Nat}{pl:List Str}{cl:List (Str×Nat)}{x5 tV:Nat}
noncomputable def fA (pl:List Str)(k:Nat):Bool:=!decide (pl.getD k ""="")
noncomputable def pw (pl:List Str)(k:Nat):Bool:=decide (pl.getD k ""="")
end
end
section
variable {d:Nat}
section
variable {ss:List Nat}{m s0 s1 s2 s3 s4:Nat}{nm pl left w units nest:List Str}{sg:List Bool}{s T pc:Str}{g1 g2 g3:List Str}{rk:List (Str×CV)}{rt:Bool}{G:List ae}{D:de}{dL gx:List Nat}
end
end
section
variable {d:Nat}
section
variable {ss:List Nat}{m s0 s1 s2 s3 s4:Nat}{nm pl left w units nest:List Str}{sg:List Bool}{s T pc:Str}{g1 g2 g3:List Str}{rk:List (Str×CV)}{rt:Bool}{G:List ae}{D:de}{dL gx:List Nat}
noncomputable def jc (units:List Str)(p q:Nat):List Str:=(units.drop p).take (q+1-p)
noncomputable def k9 (sg:List Bool)(p q:Nat):List Bool:=(sg.drop p).take (q+1-p)
noncomputable def d1 (D:de)(n:Nat):de:={D with eM:=cD n false}
end
end
section
variable {d:Nat}
section
variable {ss:List Nat}{m s0 s1 s2 s3 s4:Nat}{nm pl left w units nest:List Str}{sg:List Bool}{s T pc:Str}{g1 g2 g3:List Str}{rk:List (Str×CV)}{rt:Bool}{G:List ae}{D:de}{dL gx:List Nat}{tb:Nat->Nat->Bool}
noncomputable def r5 (tb:Nat->Nat->Bool)(p:Nat)(x:Str)(qs:List Nat)(nest:List Str):List Str:=match qs.find? (tb p) with
 |some q=>nest.set q x|none=>nest
theorem akQ {p:Nat}{x:Str}:(r5 tb p x qs nest).length=nest.length:=by
 unfold r5;split
 ·rw[lY]
 rfl
def mG (pl:List Str)(m p:Nat):List Nat:=(fc (p+1) (2*m-(p+1))).filter (pw pl)
def lO (pl:List Str)(m:Nat):List Nat:=(aK (2*m)).filter (fA pl)
end
end
section
variable {d:Nat}
section
variable {ss:List Nat}{m s0 s1 s2 s3 s4:Nat}{nm pl left w units nest:List Str}{sg:List Bool}{s T pc:Str}{g1 g2 g3:List Str}{rk:List (Str×CV)}{rt:Bool}{G:List ae}{D:de}{dL gx:List Nat}{tb:Nat->Nat->Bool}
def vo (tb:Nat->Nat->Bool)(pl:List Str)(m:Nat)(ps:List Nat)(nest:List Str):List Str:=ps.foldl (λnest p=>r5 tb p (pl.getD p "") (mG pl m p) nest) nest
end
end
section
variable {d:Nat}
section
variable {ss:List Nat}{m s0 s1 s2 s3 s4:Nat}{nm pl left w units nest:List Str}{sg:List Bool}{s T pc:Str}{g1 g2 g3:List Str}{rk:List (Str×CV)}{rt:Bool}{G:List ae}{D:de}{dL gx:List Nat}
noncomputable def fK (xs:List α)(r:Nat):List α:=xs.drop r++xs.take r
def D5 (pl:List Str)(m:Nat):List Nat:=(aK (2*m)).filter (pw pl)
end
end
section
variable {d:Nat}{c:aY}
section
variable {ss:List Nat}{m s0 s1 s2 s3 s4 s5:Nat}{nm pl left w units nest:List Str}{sg:List Bool}{s T pc:Str}{g1 g2 g3:List Str}{rk:List (Str×CV)}{rt:Bool}{G:List ae}{D:de}{aA:List Nat}
theorem YT (xs:List Str):mY (xs.map CV.str) (xs.map CV.str)=true:=uH _<|lJ.mpr<|qJ xs
end
end
section
variable {d:Nat}
section
variable {ss:List Nat}{m s0 s1 s2 s3 s4 s5:Nat}{nm pl left w units nest:List Str}{sg:List Bool}{s T pc:Str}{g1 g2 g3:List Str}{rk:List (Str×CV)}{rt:Bool}{D:de}{aA:List Nat}
theorem Pk (hs:List (Str×Str)):∀y∈hs.map br,y.gg=true:=λy hy=>by obtain⟨s,_,rfl⟩:=cu.mp hy;rfl
theorem akR (hs:List (Str×Str)):CV.jV (hs.map br)<=1:=by induction hs with|nil=>decide|cons p hs ih=>rw[eC,CV.GR];exact Nat.max_le.mpr ⟨aG 1,ih⟩
def mH (aA:List Nat)(aC:List Str):List (Str×Str):=aA.map λk=>(d5 k,aC.getD k "")
theorem zb {x:Str}{k:Nat}(hk:k<x.length):(cQ x)[k]?=some ((cQ x).getD k ""):=by
 have:k<(cQ x).length:=by unfold cQ;rwa[aV,v0]
 rw[ed,bA this];rfl
end
end
section
variable {d:Nat}
section
variable {e:fB}{s5:Nat}{hs td:List (Str×Str)}
def mI (k:Nat):Str:=(cQ "AbCdEfGhIj").getD k ""
def la (k:Nat):Str:=(cQ "aBcDeFgHiJ").getD k ""
def j7 (k:Nat):Str:=(cQ "ABCDEFGHIJ").getD k ""
end
end
section
variable {d:Nat}
section
variable {e:fB}{s5:Nat}{hs td ro:List (Str×Str)}
def pz (nm:List Str)(m k:Nat):Str×Str:=(la k,nm.getD (k%m) "")
end
end
section
variable {d:Nat}
section
variable {e:fB}{s5:Nat}{hs td ro:List (Str×Str)}
def tW (ro:List (Str×Str))(m:Nat):List Str:=(aK (2*m)).map λk=>(eH ro (bZ (j7 k))).getD ""
theorem akS {x y:Str}:lG hs x (.str y)=.str ((eH hs (bZ x)).getD y):=by unfold lG;cases eH hs (bZ x)<;>rfl
def zd (m:Nat):Str:=gD "ABCDEFGHIJ" none (some ((2*m:Nat):Int))
theorem YU:∀{m},m<=5->(zd m).cps.toList.map jR=(aK (2*m)).map λk=>CV.str (j7 k)
 |0,x=>by rfl|1,x=>by rfl|2,x=>by rfl|3,x=>by rfl|4,x=>by rfl|5,x=>by rfl|n+6,h=>absurd h<|ah [_] (.g 1 0<|.no<|.le (.a .o<|.n 6)<|.n 5) rfl
theorem akT:∀{m},m<=5->(zd m).length<=cX:=λ{m} hm=>by have:=congrArg oG<|YU hm;rw[aV,aV,fb] at this;exact ah [_,_,_] (.eq .o (.m 2 .i)<|.c 2 0 (.le .i<|.n 5)<|.eq .u .o<|.gl .u<|.n<|2^24) rfl this hm rfl
end
end
section
variable {d:Nat}{c:aY}
def lP (aC:List Str)(ix:Nat->Nat)(xs:List Nat):List (Nat×Nat):=(xs.filter (fA aC)).map λk=>(ix k,k)
end
section
variable {d:Nat}
theorem YW {α β:Type}{f:α->Option β}{ys:List α}{b:List β}(h2:lA f ys=some b):∀{xs} {a},lA f xs=some a->lA f (xs++ys)=some (a++b)
 |[],a,h=>by obtain rfl:=dE h;exact h2|x::xs,a,h=>kl h λy hy h=>eE (P:=λz=>lA f (x::xs++ys)=some (z++b)) h λz hz=>cq hy<|YW h2 hz
noncomputable def D6 (p:Nat×Nat):Int×Int:=((p.1:Int),(p.2:Int))
def vq (ps tX:List (Nat×Nat)):Prop:=∃js,yX (ps.map D6)=some js∧(∀j∈js,j<ps.length)∧(js.map λj=>ps.getD j (0,0))=tX
end
section
variable {d:Nat}
section
variable {e:fB}{td ro:List (Str×Str)}{ot:List Str}{gH gI:List (Nat×Nat)}{vs:List (Str×CV)}
noncomputable def w0:List (Str×CV):=[("other",.ab 47),("pairs",.ab 48)]
noncomputable def dP (v:CV):List (Str×CV):=[("other",.ab 47),("pairs",.ab 48),("gap",v)]
end
end
section
variable {d:Nat}
section
variable {e:fB}{td ro:List (Str×Str)}{ot:List Str}{gH gI:List (Nat×Nat)}{vs:List (Str×CV)}
theorem akW {x:Str}(h:eH hs x=none)(he:d4 (bZ n) x=true):eH (hs++[(n,v)]) x=some v:=by
 unfold eH at h ⊢;rw[aqJ];have h0:(hs.find? λp=>d4 (bZ p.1) x)=none:=by cases hq:hs.find? λp=>d4 (bZ p.1) x with|none=>rfl|some p=>rw[hq] at h;cases h
 rw[h0,vV,he];rfl
noncomputable def zy:List (Str×Str):=[("Z","y")]
end
end
section
variable {d:Nat}
noncomputable def fq (zs:List Int):List Nat:=(zs.take 60).map λz=>(z.fmod 5040).toNat
noncomputable def w6:List Nat:=[26,22,1054,4321,36,68]
def r6 (rs:List Nat)(k:Nat):List Nat:=e7 rs (some (k:Int)) none (some 6)
def qT (rs:List Nat):List Nat:=(aK 6).map λk=>w6.getD k 0+(r6 rs k).sum
theorem akX (f:α->β) xs  lo hi st:e7 (xs.map f) lo hi st=(e7 xs lo hi st).map f:=by unfold e7;rw[aV,RU];congr 1;funext i;rw[dN]
theorem akY:∀r∈fq zs,r<5040:=λr hr=>by obtain⟨z,_,rfl⟩:=cu.mp hr;exact (Int.toNat_lt<|aqK z (b:=5040)<|by decide).2 (Int.fmod_lt_of_pos z (b:=5040)<|by decide)
theorem Pm:(fq zs).length<=60:=by rw[fq,aV,nG];exact ack
theorem akZ {xs:List Nat}(h:∀x∈xs,x<5040):xs.sum<=5040*xs.length:=by induction xs with|nil=>exact dQ _|cons x xs ih=>have:=ih λy hy=>h y<|.tail _ hy;rw[Rv,dO];exact ah [_,_,_] (.lt .o (.n 5040)<|.le .i (.m 5040 .u)<|.gl (.a .o .i)<|.m 5040<|.a .u .j) rfl (h x<|.head _) (by assumption)
theorem YX (xs:List Nat):(xs.map λn:Nat=>(n:Int)).sum=(xs.sum:Nat):=by induction xs with|nil=>rfl|cons x xs ih=>rw[eC,Rv,Rv,ih,QW]
structure IA (L:ai)(zs:List Int):Prop where
 bD:∃o vs n,X.H.get? L=some o∧o.cls = .type "list"∧o.data = .seq vs.toArray n∧∀own h,aF own h (zs.map CV.int) vs
section
variable {L:ai}{zs:List Int}
theorem Pn:a0 xs=.list (xs.map af):=by rw[a0,fV];rfl
theorem ak0 {k:Nat}(h:∀r∈rs,r<5040):∀x∈r6 rs k,x<5040:=OX h
theorem YY:∀(xs:List α),(xs.filterMap f).length<=xs.length
 |[]=>aG _|x::xs=>by
  rw[vT];have:=YY (f:=f) xs;split
  ·rw[dO];lia
  rw[dO,dO];exact o68 this
theorem ak1:∀n<61,∀k<6,(Rt (zS (some ((k:Nat):Int)) none (some 6) n).1 (zS (some ((k:Nat):Int)) none (some 6) n).2.1 (zS (some ((k:Nat):Int)) none (some 6) n).2.2).length<=100:=by decide +kernel
theorem ak2 {k:Nat}(hk:k<6)(h:rs.length<=60):(r6 rs k).length<=100:=by apply fC<|YY _;exact ak1 _ (by exact ah [_] (.le .o (.n 60)<|.gt .o<|.n 61) rfl h) _ hk
end
end
theorem ak3 {nm:List Str}{s2:Nat}:∀p∈d0 nm s2,p.2.lo 0=true:=λp hp=>by obtain⟨k,_,rfl⟩:=cu.mp hp;rfl
theorem YZ {i:Nat}:(iP.getD (i%6) "").length<=10:=by
 have h:∀j<6,(iP.getD j "").length<=10:=by decide
 exact h _ (kg _<|by decide)
theorem ak4 {pl:List Str}{m:Nat}{pc:Str}{units:List Str}(h:(aK (2*m)).map (lN pl pc s)=units):units.length=2*m:=by rw[<-h,aV,fb]
end
section
section
variable {α β:Type}{f:β->α}{lt eq:α->α->Bool}{lt' r8:β->β->Bool}(hl:∀a b,lt (f a) (f b)=lt' a b)(he:∀a b,eq (f a) (f b)=r8 a b)
theorem Eg {p:α->Bool}(h:∀x,p (f x)=q x) row:∀n lo hi,cM p (row.map f) n lo hi=cM q row n lo hi
 |0,lo,hi=>rfl|n+1,lo,hi=>by rw[rR,rR,dN];cases row[(lo+hi)/2]? with|none=>rfl|some v=>show(if lo<hi then(if p (f v) then _ else _) else _)=_;rw[h,Eg h row n,Eg h row n]
include hl in
theorem Y1 (row:List β)(x:β)(lo hi:Nat):bR lt (row.map f) (f x) lo hi=bR lt' row x lo hi:=by
 unfold bR
 rw[aV]
 exact Eg (λv=>by rw[hl]) row _ lo hi
include hl in
theorem Y2 (row:List β)(x:β)(lo hi:Nat):bL lt (row.map f) (f x) lo hi=bL lt' row x lo hi:=by
 unfold bL
 rw[aV]
 exact Eg (λv=>by rw[hl]) row _ lo hi
include hl in
theorem Y3:∀(au:List (List β)) (w:β) (c:Nat),jq lt (au.map (fm f)) (f w) c=((jq lt' au w c).1.map (fm f),(jq lt' au w c).2.1,f (jq lt' au w c).2.2)
 | [],w,c=>rfl
 | row::rest,w,c=>by
   rw[eC,H4,H4,Y1 hl,aV,dN]
   cases row[bR lt' row w 0 (min c row.length)]? with
   | none=>rfl
   | some w'=>
     show(_::(jq lt (rest.map (fm f)) (f w') _).1,_,_)=_
     rw[Y3 rest w',<-rp];rfl
include hl in
theorem ak5 (au:List (List β))(w:β)(c:Nat):tN lt (au.map (fm f)) (f w) c=(tN lt' au w c).map λq=>(q.1.map (fm f),q.2):=by
 show H3 lt _=(H3 lt' _).map _
 rw[Y3 hl]
 generalize jq lt' au w c=z
 obtain⟨r,i,v⟩:=z
 show(((r.map (fm f))[i]?).map _)=((r[i]?).map _).map _
 rw[dN]
 cases r[i]? with
 | none=>rfl
 | some row=>
   have:=Y2 hl (row++[v]) v 0 (row++[v]).length
   rw[fU] at this
   show some ((r.map (fm f)).set i (row.map f++[f v]),bL lt (row.map f++[f v]) (f v) 0 (row.map f++[f v]).length)=some ((r.set i (row++[v])).map (fm f),bL lt' (row++[v]) v 0 (row++[v]).length)
   rw[rp,fU,<-this,dJ,dJ,aV];rfl
include he in
theorem ak6 (x:β)(row:List β):j3 eq (f x) (row.map f)=j3 r8 x row:=by
 show(row.map f).getLast?.elim false _=row.getLast?.elim false _
 rw[aqL]
 cases row.getLast? with
 | none=>rfl
 | some v=>exact he v x
include hl he in
theorem ak7 (au:List (List β))(x:β):Bi lt eq (au.map (fm f)) (f x)=(Bi lt' r8 au x).map λq=>(q.1.map (fm f),q.2):=by
 have e:(au.map (fm f)).findIdx? (j3 eq (f x))=au.findIdx? (j3 r8 x):=by
  rw[RX]
  congr 1
  funext row
  exact ak6 he x row
 show(((au.map (fm f)).findIdx? (j3 eq (f x))).bind _)=((au.findIdx? (j3 r8 x)).bind _).map _
 rw[e]
 cases au.findIdx? (j3 r8 x) with
 | none=>rfl
 | some r=>
   show(((au.map (fm f))[r]?).bind _)=((au[r]?).bind _).map _
   rw[dN]
   cases au[r]? with
   | none=>rfl
   | some row=>
     show(vf (bR lt (row.map f) (f x) 0 (row.map f).length)).map _=((vf (bR lt' row x 0 row.length)).map _).map _
     rw[Y1 hl,aV]
     cases vf (bR lt' row x 0 row.length) with
     | none=>rfl
     | some m=>
       show some ((au.map (fm f)).set r (row.map f).dropLast,m)=some ((au.set r row.dropLast).map (fm f),m)
       rw[rp,RQ]
include hl he in
theorem ak8 (aj:List (Option β))(j4:Nat->Option β)(k:Nat)(s:List (List β)×List Nat):Bj lt eq (aj.map (dg f)) (λk=>(j4 k).map f) k (s.1.map (fm f),s.2)=(Bj lt' r8 aj j4 k s).map λq=>(q.1.map (fm f),q.2):=by
 show(((aj.map (dg f))[k]?).bind _)=((aj[k]?).bind _).map _
 rw[dN]
 cases aj[k]? with
 | none=>rfl
 | some o=>
   cases o with
   | none=>
     show(((j4 k).map f).bind λw=>tN lt (s.1.map (fm f)) w (aj.map (dg f)).length).map _=(((j4 k).bind _).map _).map _
     cases j4 k with
     | none=>rfl
     | some w=>
       show(tN lt (s.1.map (fm f)) (f w) (aj.map (dg f)).length).map _=((tN lt' s.1 w aj.length).map _).map _
       rw[ak5 hl,aV]
       cases tN lt' s.1 w aj.length<;>rfl
   | some x=>
     show(Bi lt eq (s.1.map (fm f)) (f x)).map _=((Bi lt' r8 s.1 x).map _).map _
     rw[ak7 hl he]
     cases Bi lt' r8 s.1 x<;>rfl
include hl in
theorem Y4:∀(i:Nat) (ao:List (List β)) (w:β) (r:Nat),tO lt i (ao.map (fm f)) (f w) r=(tO lt' i ao w r).map λq=>(q.1.map (fm f),f q.2)
 | 0,ao,w,r=>rfl
 | i+1,ao,w,r=>by
   show(((ao.map (fm f))[i]?).bind _)=((ao[i]?).bind _).map _
   rw[dN]
   cases ao[i]? with
   | none=>rfl
   | some col=>
     show(if r<=(col.map f).length then(vf (bL lt (col.map f) (f w) r (col.map f).length)).bind _ else none)=(if r<=col.length then(vf (bL lt' col w r col.length)).bind _ else none).map _
     rw[Y2 hl,aV]
     by_cases hr:r<=col.length
     · rw[if_pos hr,if_pos hr]
       cases vf (bL lt' col w r col.length) with
       | none=>rfl
       | some j=>
         show(((col.map f)[j]?).bind _)=((col[j]?).bind _).map _
         rw[dN]
         cases col[j]? with
         | none=>rfl
         | some w'=>
           rw[<-rp,<-rp]
           exact Y4 i _ w' j
     · rw[if_neg hr,if_neg hr];rfl
include hl in
theorem ak9 (aj:List (Option β))(ay:List Nat)(k:Nat)(s:List (List β)×List (Nat×β)):wO lt (aj.map (dg f)) ay k (s.1.map (fm f),s.2.map λp=>(p.1,f p.2))=(wO lt' aj ay k s).map λq=>(q.1.map (fm f),q.2.map λp=>(p.1,f p.2)):=by
 show((ay[ay.length-1-k]?).bind _)=((ay[ay.length-1-k]?).bind _).map _
 cases ay[ay.length-1-k]? with
 | none=>rfl
 | some c=>
   show(((s.1.map (fm f))[c]?).bind _)=((s.1[c]?).bind _).map _
   rw[dN]
   cases s.1[c]? with
   | none=>rfl
   | some col=>
     show(((aj.map (dg f))[k]?).bind _)=((aj[k]?).bind _).map _
     rw[dN]
     cases aj[k]? with
     | none=>rfl
     | some o=>
       cases o with
       | some x=>
         show some ((s.1.map (fm f)).set c (col.map f++[f x]),s.2.map λp=>(p.1,f p.2))=some ((s.1.set c (col++[x])).map (fm f),s.2.map λp=>(p.1,f p.2))
         rw[rp,fU];rfl
       | none=>
         show((col.map f).getLast?.bind _)=(col.getLast?.bind _).map _
         rw[aqL]
         cases col.getLast? with
         | none=>rfl
         | some w=>
           show(tO lt c ((s.1.map (fm f)).set c (col.map f).dropLast) (f w) ((col.map f).length-1)).map _=((tO lt' c (s.1.set c col.dropLast) w (col.length-1)).map _).map _
           rw[aV,<-RQ,<-rp,Y4 hl]
           cases tO lt' c (s.1.set c col.dropLast) w (col.length-1) with
           | none=>rfl
           | some q=>
             show some (q.1.map (fm f),(s.2.map λp=>(p.1,f p.2))++[(k,f q.2)])=some (q.1.map (fm f),(s.2++[(k,q.2)]).map λp=>(p.1,f p.2))
             rw[fU];rfl
theorem Po {σ τ:Type}{φ:σ->τ}{a:Nat->σ->Option σ}{b:Nat->τ->Option τ}(h:∀k s,b k (φ s)=(a k s).map φ):∀ks s,k6 b ks (φ s)=(k6 a ks s).map φ
 |[],s=>rfl|k::ks,s=>by show(b k<|φ s).bind _=((a k s).bind _).map _;rw[h];cases a k s with|none=>rfl|some s'=>exact Po h ks s'
theorem Y5:∀ks (s:σ),(∀k∈ks,∀s,a k s=b k s)->k6 a ks s=k6 b ks s
 |[],s,x=>rfl|k::ks,s,h=>by show(a k s).bind _=(b k s).bind _;exact h k (.head _) s▸congrArg (QZ _) (funext λs'=>Y5 ks s' λj hj=>h j<|.tail _ hj)
include hl he in
theorem ak' (aj:List (Option β))(j4:Nat->Option β):gh lt eq (aj.map (dg f)) (λk=>(j4 k).map f)=(gh lt' r8 aj j4).map (fm λp=>(p.1,f p.2)):=by
 show((k6 _ (aK (aj.map (dg f)).length).reverse ([],[])).bind λq=>(k6 _ (aK (aj.map (dg f)).length) (cD (aj.map (dg f)).length [],[])).map _)=((k6 _ (aK aj.length).reverse ([],[])).bind _).map _
 rw[aV]
 have h1:=Po (ak8 hl he aj j4) (aK aj.length).reverse ([],[])
 rw[show(fm (fm f) ([],([])).1,([],([])).2)=([],[]) from rfl] at h1
 rw[h1]
 cases k6 (Bj lt' r8 aj j4) (aK aj.length).reverse ([],[]) with
 | none=>rfl
 | some q=>
   have h2:=Po (ak9 hl aj q.2) (aK aj.length) (cD aj.length [],[])
   rw[Kx] at h2
   show(k6 (wO lt (aj.map (dg f)) q.2) (aK aj.length) (cD aj.length (([]).map f),([]:List (Nat×β)).map λp=>(p.1,f p.2))).map _=((k6 (wO lt' aj q.2) (aK aj.length) (cD aj.length [],[])).map _).map _
   rw[h2]
   cases k6 (wO lt' aj q.2) (aK aj.length) (cD aj.length [],[])<;>rfl
end
end
def fN (b i:Nat):Str:=⟨#[gN (b+i)]⟩
theorem I9 {i j:Nat}(h:i<j):gN i<gN j:=by
 unfold gN;have hc:∀k<8,∀l<8,k<l->HK.getD k 0<HK.getD l 0:=by decide
 have hb:∀k<8,HK.getD k 0<200:=by decide
 by_cases h1:i<8
 ·rw[if_pos h1];by_cases h2:j<8
  ·rw[if_pos h2];exact hc i h1 j h2 h
  rw[if_neg h2];exact o64<|hb i h1
 rw[if_neg h1,if_neg<|by exact ah [_,_,_] (.lt .o .i<|.c 1 0 (.no<|.lt .o .u)<|.g 1 0<|.no<|.lt .i .u) rfl h h1];exact ah [_,_] (.lt .o .i<|.gt (.a (.n 200) .o)<|.a (.n 200) .i) rfl h
theorem ala {i j:Nat}:decide (gN i<gN j)=decide (i<j):=by
 by_cases h:i<j
 ·rw[decide_eq_true h,decide_eq_true<|I9 h]
 rw[decide_eq_false h];refine decide_eq_false λhh=>?_;rcases abE (Q0 h) with q|q
 ·have:=I9 q;exact ah [_,_] (.lt .o .i<|.lt .i .o<|.g 0 0<|.f) rfl hh this
 subst q;exact SJ hh
theorem alb {i j:Nat}(h:gN i=gN j):i=j:=by
 rcases Nat.lt_trichotomy i j with q|q|q
 ·have:=I9 q;exact ah [_,_,_,_] (.c 1 1 (.lt .o .i)<|.c (-1) (-1) (.eq .o .i)<|.g 0 0<|.eq .u .w) rfl this h
 ·exact q
 have:=I9 q;exact ah [_,_,_,_] (.c 1 1 (.lt .o .i)<|.c 1 1 (.eq .i .o)<|.g 0 0<|.eq .u .w) rfl this h
theorem alc b i j:bP (fN b i) (fN b j)=ft i j:=by
 have e:bP (fN b i) (fN b j)=decide (gN (b+i)<gN (b+j)):=by
  apply decide_eq_decide.mpr;constructor
  ·intro h;rcases aqM.mp h with q|⟨_,q⟩
   ·exact q
   exact absurd q<|List.not_lt_nil _
  exact λh=>aqM.mpr<|.inl h
 rw[e,ala];have h2:ft i j=decide (i<j):=by
  by_cases h:i<j
  ·rw[decide_eq_true h];exact Kz h
  rw[decide_eq_false h];cases hb:ft i j with|false=>rfl|true=>exact absurd (lj hb) h
 rw[h2];by_cases h:i<j
 ·rw[decide_eq_true h,decide_eq_true<|by exact KR h]
 rw[decide_eq_false h,decide_eq_false<|by exact ah [_,_,_] (.c 1 0 (.no<|.lt .o .i)<|.g 1 0<|.no<|.lt (.a .u .o)<|.a .u .i) rfl h]
theorem Y6 {i j:Nat}(h:fN b i=fN b j):i=j:=by have:#[gN<|b+i]= #[gN<|b+j]:=congrArg Str.cps h;have:=alb (by simpa using this);exact ah [_,_,_] (.c 1 (-1) (.eq (.a .o .i)<|.a .o .u)<|.ge .i .u) rfl this
theorem Ja b i j:(fN b i==fN b j)=bT i j:=by
 by_cases h:i=j
 ·subst h;rw[Cc];exact beq_self_eq_true _
 have h1:bT i j=false:=by cases hb:bT i j with|false=>rfl|true=>exact absurd (mP hb) h
 exact h1▸beq_eq_false_iff_ne.mpr λe=>h<|Y6 e
theorem zk b i:fN b i≠"":=λh=>by have:=congrArg (λs:Str=>s.cps.size) h;cases this
theorem ald {m s1:Nat}(h0:0<m)(hm:m<=5):kI m s1=(aK m).map (fN (s1%(9-m))):=by
 have hb:s1%(9-m)<9-m:=kg _<|KW hm;unfold kI;generalize s1%(9-m)=b at *;have key:∀m<6,∀b<9,b<9-m->((cQ ja).drop b).take m=(aK m).map (fN b):=by decide +kernel
 exact key m (ah [_] (.le .o (.n 5)<|.gt .o<|.n 6) rfl hm) b (acq hb) hb
def tY:List Nat->Int
 |[]=>0|k::r=>bO k (tY r)
def vt (cs:List Nat)(ln:Int)(z:Str×List Nat×Int×Bool):Prop:=z.2.2.1+tY z.2.1=ln+tY cs∧z.2.1.length<=cs.length
theorem vt.cons {k:Nat}{ln:Int}(h:vt r (bO k ln) z):vt (k::r) ln z:=⟨h.1.trans ((show bO k ln+(tY r)=ln+bO k (tY r) from by
 unfold bO;by_cases h:k=10
 ·rw[if_pos h,if_pos h,Int.add_assoc,Rr 1]
 rw[if_neg h,if_neg h])),Fa h.2⟩
theorem vt.jk {k:Nat}{ln:Int}{t:Str}:vt (k::r) ln (t,r,bO k ln,b):=vt.cons ⟨rfl,aG _⟩
theorem Y7 {k:Nat}{ln:Int}:iN (k::r) false tok ln=if k=34 then(tok,r,bO k ln,true) else if k=92 then iN r true tok (bO k ln) else iN r false (tok++⟨#[k]⟩) (bO k ln):=rfl
theorem Pp {k:Nat}{ln:Int}:e9 (k::r) false tok ln=if eQ k then(tok,r,bO k ln,true) else if k=92 then e9 r true tok (bO k ln) else e9 r false (tok++⟨#[k]⟩) (bO k ln):=rfl
theorem r9 {k:Nat}{ln:Int}:bG (k::r) ln=if eQ k then bG r (bO k ln) else if k=34 then iN r false "" (bO k ln) else if k=92 then e9 r true "" (bO k ln) else e9 r false (""++⟨#[k]⟩) (bO k ln):=rfl
theorem Jb:∀cs e tok ln,vt cs ln (iN cs e tok ln)
 |[],x,u,o=>⟨rfl,aG _⟩|k::r,true,tok,ln=>(Jb r false _ _).cons|k::r,false,tok,ln=>by
  rw[Y7];by_cases h1:k=34
  ·rw[if_pos h1];exact .jk
  rw[if_neg h1];by_cases h2:k=92
  ·rw[if_pos h2];exact(Jb r _ _ _).cons
  rw[if_neg h2];exact(Jb r _ _ _).cons
theorem Eh:∀cs e tok ln,vt cs ln (e9 cs e tok ln)
 |[],x,u,o=>⟨rfl,aG _⟩|k::r,true,tok,ln=>(Eh r false _ _).cons|k::r,false,tok,ln=>by
  rw[Pp];by_cases h1:eQ k=true
  ·rw[if_pos h1];exact .jk
  rw[if_neg h1];by_cases h2:k=92
  ·rw[if_pos h2];exact(Eh r _ _ _).cons
  rw[if_neg h2];exact(Eh r _ _ _).cons
theorem Jc:∀cs ln,vt cs ln (bG cs ln)
 |[],x=>⟨rfl,aG _⟩|k::r,ln=>by
  rw[r9];by_cases h1:eQ k=true
  ·rw[if_pos h1];exact(Jc r _).cons
  rw[if_neg h1];by_cases h2:k=34
  ·rw[if_pos h2];exact(Jb r _ _ _).cons
  rw[if_neg h2];by_cases h3:k=92
  ·rw[if_pos h3];exact(Eh r _ _ _).cons
  rw[if_neg h3];exact(Eh r _ _ _).cons
theorem Pq:∀l r ln,(∀k∈l,eQ k=true)->∃fR,bG (l++r) ln=bG r fR
 |[],r,ln,x=>⟨ln,rfl⟩|k::l,r,ln,h=>by obtain⟨fR,e⟩:=Pq l r (bO k ln) λj hj=>h j<|.tail _ hj;refine⟨fR,?_⟩;rw[fM,r9,if_pos<|h k<|.head _,e]
inductive xb (c:Nat):List Nat->Prop|bare:xb c [92,c]|Y8:xb c [34,92,c,34]|Y9:c≠34->c≠92->xb c [34,c,34]|plain:eQ c=false->c≠34->c≠92->xb c [c]
theorem Y':eQ 34=false:=by decide +kernel
theorem Pr {k:Nat}(h:eQ k=true){ln:Int}:e9 (k::r) false tok ln=(tok,r,bO k ln,true):=by rw[Pp,if_pos h]
theorem alg {s0:Nat}{l:List Nat}(h:xb c l)(hs:eQ s0=true) ln:∃L,(bG (l++s0::R) ln).1=⟨#[c]⟩∧(bG (l++s0::R) ln).2.1=L++R∧∀k∈L,eQ k=true:=by
 have h1:∀k∈[s0],eQ k=true:=λk hk=>by cases gV.mp hk;exact hs
 have n0:¬(eQ 92=true):=by rw[Oj];exact fL
 have n1:¬(eQ 34=true):=Y'▸fL;cases h with
 |bare=>
  have e:bG ([92,c]++s0::R) ln=e9 (s0::R) false ⟨#[c]⟩ (bO c<|bO 92 ln):=by rw[fM,r9,if_neg n0,if_neg (by decide),if_pos rfl];rfl
  exact e▸Pr hs▸⟨[],rfl,rfl,λx h=>nomatch h⟩
 |Y8=>
  have e:bG ([34,92,c,34]++s0::R) ln=(⟨#[c]⟩,s0::R,bO 34<|bO c<|bO 92<|bO 34 ln,true):=by rw[fM,r9,if_neg n1,if_pos rfl];rfl
  exact e▸⟨[s0],rfl,rfl,h1⟩
 |Y9 a b=>
  have e:bG ([34,c,34]++s0::R) ln=(⟨#[c]⟩,s0::R,bO 34<|bO c<|bO 34 ln,true):=by rw[fM,r9,if_neg n1,if_pos rfl,fM,Y7,if_neg a,if_neg b];rfl
  exact e▸⟨[s0],rfl,rfl,h1⟩
 |plain a b d=>
  have e:bG ([c]++s0::R) ln=e9 (s0::R) false ⟨#[c]⟩ (bO c ln):=by rw[fM,r9,if_neg<|a▸fL,if_neg b,if_neg d];rfl
  exact e▸Pr hs▸⟨[],rfl,rfl,λx h=>nomatch h⟩
def Ps (c:Nat)(l:List Nat):Bool:=l==[92,c]||l==[34,92,c,34]||(l==[34,c,34]&&(c != 34&&c != 92))||(l==[c]&&(!eQ c&&(c != 34&&c != 92)))
theorem alh {l:List Nat}(h:Ps c l=true):xb c l:=by
 simp only [Ps,Bool.or_eq_true,bz,beq_iff_eq,bne_iff_ne,E0] at h;rcases h with((h|h)|h)|h
 ·subst h;exact .bare
 ·subst h;exact .Y8
 ·obtain⟨rfl,a,b⟩:=h;exact .Y9 a b
 obtain⟨rfl,a,b,d⟩:=h;exact .plain a b d
def ali (l:List Nat):Bool:=match l with
 |[]=>false|k::r=>eQ k&&r.all eQ
theorem alj:∀j<4,ali (tU.getD j "").cps.toList=true∧(tU.getD j "").length<=2:=by decide +kernel
theorem alk:∀i<8,∀w<4,Ps (gN i) (jE ⟨#[gN i]⟩ ((w:Nat):Int)).cps.toList=true∧(jE ⟨#[gN i]⟩ ((w:Nat):Int)).length<=4:=by decide +kernel
theorem Za {nm:List Str}{k s2 s3:Nat}(hn:nm.getD k ""=fN b k)(hb:b+k<8):(∃l s0 s',xb (gN (b+k)) l∧eQ s0=true∧(∀j∈s',eQ j=true)∧(kK nm s2 s3 k).cps.toList=l++s0::s')∧(kK nm s2 s3 k).length<=6:=by
 obtain⟨a1,a2⟩:=alk (b+k) hb (s2/4^k%4) (kg _<|by decide);obtain⟨b1,b2⟩:=alj (s3/4^k%4) (kg _<|by decide);unfold kK;rw[hn];constructor
 ·rw[vR,z3];generalize (tU.getD (s3/4^k%4) "").cps.toList=q at b1;cases q with|nil=>exact nB b1|cons s0 s'=>have b1:=iR.mp<|b1;exact⟨_,s0,s',alh a1,b1.1,dI.mp b1.2,rfl⟩
 rw[jF];exact Nat.add_le_add a2 b2
noncomputable def gi (cs:List Nat):Nat->List Nat×Int
 |0=>(cs,1)|i+1=>((bG (gi cs i).1 (gi cs i).2).2.1,(bG (gi cs i).1 (gi cs i).2).2.2.1)
theorem Pt cs:∀i,(gi cs i).2+tY (gi cs i).1=1+tY cs∧(gi cs i).1.length<=cs.length
 |0=>⟨rfl,aG _⟩|i+1=>
  have h:=Pt cs i;have k:=Jc (gi cs i).1 (gi cs i).2
  ⟨k.1.trans h.1,fC k.2 h.2⟩
theorem alm {P:Nat->List Nat}{tl:List Nat}{n:Nat}{c:Nat->Nat}(hP:∀k<n,∃l s0 s',xb (c k) l∧eQ s0=true∧(∀j∈s',eQ j=true)∧P k=l++s0::s'){T:List Nat}(hT:T=((aK n).map P).flatten++tl):∀i≤n,(∃L,(∀k∈L,eQ k=true)∧(gi T i).1=L++(((fc i (n-i)).map P).flatten++tl))∧(i<n->(bG (gi T i).1 (gi T i).2).1=⟨#[c i]⟩):=by
 have step:∀i<n,(∃L,(∀k∈L,eQ k=true)∧(gi T i).1=L++(((fc i<|n-i).map P).flatten++tl))->(bG (gi T i).1 (gi T i).2).1=⟨#[c i]⟩∧∃L,(∀k∈L,eQ k=true)∧(bG (gi T i).1 (gi T i).2).2.1=L++(((fc (i+1)<|n-(i+1)).map P).flatten++tl):=by intro i hi ⟨L,hL,e⟩;obtain⟨l,s0,s',h1,h2,h3,h4⟩:=hP i hi;rw[e,show n-i=n-(i+1)+1 from(abV<|aqN hi).symm,mO,eC,RW,h4];obtain⟨fR,e'⟩:=Pq L ((l++s0::s')++((fc (i+1)<|n-(i+1)).map P).flatten++tl) (gi T i).2 hL;rw[e',eJ,eJ,fM];obtain⟨L',q1,q2,q3⟩:=alg h1 h2 fR;refine⟨q1,L'++s',λk hk=>(f7.mp hk).elim (q3 k)<|h3 k,?_⟩;rw[q2,eJ]
 have all:∀i≤n,∃L,(∀k∈L,eQ k=true)∧(gi T i).1=L++(((fc i<|n-i).map P).flatten++tl):=λi=>by induction i with|zero=>intro _;refine⟨[],λx h=>(nomatch h),?_⟩;rwa[xL,vY,<-pW]|succ i ih=>exact λhi=>(step i hi<|ih<|aqO hi).2
 exact λi hi=>⟨all i hi,λh=>(step i h<|all i hi).1⟩
theorem aln (hL:∀k∈L,eQ k=true) ln {j:Nat}(hj:j<4)(ht:tl=(qQ.getD j "").cps.toList):(bG (L++tl) ln).1="z"∧∀fR,(bG (bG (L++tl) ln).2.1 fR).1=""∧(bG (bG (L++tl) ln).2.1 fR).2.1=[]:=by
 obtain⟨l2,e⟩:=Pq L tl ln hL;rw[e];subst ht;have w2:eQ 122=false:=by decide +kernel
 have n0:¬(eQ 122=true):=by rw[w2];exact fL
 have n1:¬(eQ 34=true):=Y'▸fL;have n2:¬(eQ 92=true):=Oj▸fL
 match j,hj with
 |0,u=>
  have e:bG [122] l2=(("z":Str),[],bO 122 l2,false):=by rw[r9,if_neg n0,if_neg (by decide),if_neg<|by decide];rfl
  exact e▸⟨rfl,λx=>⟨rfl,rfl⟩⟩
 |1,u=>
  have e:bG [122,92] l2=(("z":Str),[],bO 92<|bO 122 l2,false):=by rw[r9,if_neg n0,if_neg (by decide),if_neg (by decide),Pp,if_neg n2,if_pos rfl];rfl
  exact e▸⟨rfl,λx=>⟨rfl,rfl⟩⟩
 |2,u=>
  have e:bG [34,122] l2=(("z":Str),[],bO 122<|bO 34 l2,false):=by rw[r9,if_neg n1,if_pos rfl];rfl
  exact e▸⟨rfl,λx=>⟨rfl,rfl⟩⟩
 |3,u=>
  have e:bG [122,32,10] l2=(("z":Str),[10],bO 32<|bO 122 l2,true):=by rw[r9,if_neg n0,if_neg (by decide),if_neg (by decide),Pr<|by decide +kernel];rfl
  show(bG [122,32,10] l2).1=_∧∀fR,(bG (bG [122,32,10] l2).2.1 fR).1=""∧(bG (bG [122,32,10] l2).2.1 fR).2.1=[];rw[e];refine⟨rfl,λl=>?_⟩;rw[r9,if_pos<|by decide +kernel];exact⟨rfl,rfl⟩
theorem Zb:∀cs:List Nat,tY cs=((cs.count 10:Nat):Int)
 |[]=>rfl|k::r=>by
  rw[(show tY (k::r)=bO k (tY r) from rfl),Zb r,iU,bO];by_cases h:k=10
  ·rw[if_pos h,h];rfl
  rw[if_neg h,if_neg<|by simpa using h];rfl
theorem alo {nm:List Str}{m s2 s3:Nat}(hm:m<=5)(hn:nm=(aK m).map (fN b))(hb:b+m<=8){T:Str}(hT:ou nm s2 s3=T):T.length<=1000∧(∀i,(gi T.cps.toList i).1.length<=1000)∧(∀i x,nm[i]?=some x->(bG (gi T.cps.toList i).1 (gi T.cps.toList i).2).1=x)∧∃z1 z2:List Nat×Int×List Str,i8 (gi T.cps.toList m).1 (gi T.cps.toList m).2 []=(("z":Str),z1)∧i8 z1.1 z1.2.1 z1.2.2=(("":Str),z2)∧(z1.1.length<=1000∧z1.2.2.length<=1000)∧z2.2.1=1+sM T "\n":=by
 have hl:nm.length=m:=by rw[hn,aV,fb]
 have hg:∀k<m,nm.getD k ""=fN b k:=λk hk=>by rw[hn,ed,dN,iS hk];rfl
 have eT:T.cps.toList=((aK m).map λk=>(kK nm s2 s3 k).cps.toList).flatten++(qQ.getD (s2/1024%4) "").cps.toList:=by rw[<-hT,ou,vR,z3,Ix,fV,hl];rfl
 have key:=alm (λk hk=>(Za (s2:=s2) (s3:=s3) (hg k hk)<|u3 hb hk).1) eT;have tl3:∀j<4,(qQ.getD j "").length<=3:=by decide +kernel
 have Tl:T.length<=1000:=by
  rw[<-hT,ou,jF];have h1:=Iy (ps:=(aK nm.length).map<|kK nm s2 s3) λp hp=>by obtain⟨k,hk,rfl⟩:=cu.mp hp;rw[hl] at hk;have hk:=gz.mp hk;exact(Za (hg k hk)<|u3 hb hk).2
  rw[aV,fb] at h1;have h2:=tl3 (s2/1024%4) (kg _<|by decide);lia
 have Tc:T.cps.toList.length<=1000:=by rwa[v0]
 refine⟨Tl,λi=>fC (Pt _ i).2 Tc,λi x hx=>?_,?_⟩
 ·have hi:=hl▸(bV.mp hx).1;rw[(key i<|Ff hi).2 hi];rw[hn,dN,iS hi] at hx;exact dE hx
 obtain⟨L,hL,e⟩:=(key m<|aG m).1;rw[fk] at e;have kz:=Pt T.cps.toList m;generalize gi T.cps.toList m=z at e kz;obtain⟨c1,l1⟩:=z;dsimp only at e kz;obtain⟨h1,h2⟩:=aln hL l1 (kg (s2/1024)<|show 0<4 by decide) rfl;have k1:=Jc c1 l1;rw[show c1=L++(qQ.getD (s2/1024%4) "").cps.toList from e] at *;generalize L++(qQ.getD (s2/1024%4) "").cps.toList=c at *;unfold i8;generalize bG c l1=y at *;obtain⟨t,c2,l2,b2⟩:=y;dsimp only at *;obtain⟨h3,h4⟩:=h2 l2;refine⟨(c2,l2,[]),((bG c2 l2).2.1,(bG c2 l2).2.2.1,[]),by rw[h1],by rw[h3],⟨fC k1.2<|fC kz.2 Tc,dQ _⟩,?_⟩;show(bG c2 l2).2.2.1=_;have e1:=(Jc c2 l2).1;rw[h4] at e1;have e2:=k1.1;have e3:=kz.1;rw[show("\n":Str)=⟨#[10]⟩ from rfl,Pe,<-Zb];have:tY []=0:=rfl;dsimp only at e1 e2;lia
section
open Builtin Builtin.Str StrLaws
noncomputable def oy:List Bool->Nat->List Nat
 |[],x=>[]|false::r,i=>oy r (i+1)|true::r,i=>match r with
   |false::r'=>i::oy r' (i+2)|r=>oy r (i+1)
noncomputable def lb:List Bool->List Bool
 |[]=>[]|false::r=>false::lb r|true::r=>match r with
   |false::r'=>lb r'|r=>true::lb r
theorem alq {i:Nat}:oy [] i=[]:=rfl
theorem als:lb []=[]:=rfl
noncomputable def kL:List Bool->Nat->Bool
 |[],o=>bT o 0|true::r,o=>kL r (o+1)|false::r,0=>false|false::r,o+1=>kL r o
noncomputable def Zc:List Bool->Bool
 |true::false::x=>true|_=>false
noncomputable def Pu (b:Bool):Nat:=if b then 40 else 41
theorem Jd bs:(bh bs).cps.toList=bs.map Pu:=rfl
theorem Zd bs  i:subAt (bh bs) "()" i=Zc (bs.drop i):=by
 rw[subAt_eq,Jd,<-rn]
 match bs.drop i with
 |[]=>rfl|[b]=>cases b<;>rfl|b::c::r=>cases b<;>cases c<;>rfl
theorem alv bs:∀n i st,i+n=bs.length->st.1.size+n<=bs.length->st.2<=i->(forIn (fc i (n+1)) st (occBody (bh bs) "()" (bh bs).length ((bh bs).length+1))).run.1.toList=st.1.toList++oy (bs.drop i) i:=by
 have no:∀i st,(st.2<=i->i+2<=bs.length->Zc (bs.drop i)=false)->occBody (bh bs) "()" (bh bs).length ((bh bs).length+1) i st=pure (ForInStep.yield (st.1,st.2)):=λi st h=>if_neg λk=>by have h1:=k.1.2;rw[np] at h1;have:=h k.1.1.2 h1;rw[Zd,this] at k;exact fL k.2
 intro n;induction n using Nat.strongRecOn with
 |_ n ih=>
  intro i st h1 h2 h3;rw[mO,xH];cases hd:bs.drop i with
  |nil=>
   have hn:n=0:=by have:=congrArg oG hd;rwa[jA,<-h1,Nat.add_sub_cancel_left] at this
   subst hn;rw[no i st<|λx x=>by rw[hd];rfl];simp [alq]
  |cons b r=>
   have hl:r.length+1=n:=by have:=congrArg oG hd;rw[jA,<-h1,Nat.add_sub_cancel_left] at this;exact this.symm
   have hr:bs.drop (i+1)=r:=by rw[<-v7,hd];rfl
   obtain⟨k,rfl⟩:∃k,n=k+1:=⟨r.length,hl.symm⟩;have go:=λkD=>by have e:=no i st<|λx x=>hd▸kD;have:=ih k (rg k) (i+1) (st.1,st.2) (xO h1) (by exact ah [_,_,_,_] (.le (.a .o<|.a .i .u) .w<|.gl (.a .o .i) .w) rfl h2)<|uh h3;rw[hr] at this;exact(show(forIn (fc i<|k+1+1) st<|occBody (bh bs) "()" (bh bs).length<|(bh bs).length+1).run.1.toList=st.1.toList++oy r (i+1) by rwa[mO,xH,e,pure_bind])
   rw[mO,xH] at go;cases b with
   |false=>exact go rfl|true=>
    cases r with
    |nil=>exact go rfl|cons c r'=>cases c with|true=>exact go rfl|false=>obtain⟨j,rfl⟩:∃j,k=j+1:=⟨r'.length,by rw[dO] at hl;exact ah [_,_,_] (.c (-1) 1 (.eq (.a .o .i)<|.a .u .i)<|.ge .u .o) rfl hl⟩;have e:occBody (bh bs) "()" (bh bs).length ((bh bs).length+1) i st=pure (ForInStep.yield (st.1.push i,i+("()":Str).length)):=if_pos ⟨⟨⟨by rw[np];exact ah [_,_,_] (.le (.a .o .i) .u<|.gt .o<|.a .u .j) rfl h2,h3⟩,by rw[np];exact ah [_,_,_] (.eq (.a .o<|.a (.a .i .j) .j) .u<|.gl (.a .o<|.n 2) .u) rfl h1⟩,by rw[Zd,hd];rfl⟩;have h4:=ih j (ah [_] (.gt .o<|.a (.a .o .j) .j) rfl) (i+2) (st.1.push i,i+("()":Str).length) (ah [_,_,_] (.c 1 (-1) (.eq (.a .o<|.a (.a .i .j) .j) .u)<|.ge (.a (.a .o<|.n 2) .i) .u) rfl h1) (by rw[RN];exact ah [_,_,_,_] (.le (.a .o<|.a (.a .i .u) .u) .w<|.gl (.a (.a .o .u) .i) .w) rfl h2)<|aG _;rw[show bs.drop (i+2)=r' by rw[<-v7,hd];rfl,aqd,eJ] at h4;rw[e,pure_bind];dsimp only;rwa[mO,xH,no (i+1) (st.1.push i,i+("()":Str).length) (λh=>absurd h<|by exact ah [_] (.g 1 0<|.no<|.le (.a .o<|.n 2)<|.a .o .j) rfl),pure_bind]
theorem Ei bs:∀l a i,bs.drop i=l->a<=i->i<=bs.length->(KA "" (partsFrom (bh bs) 2 a (oy l i))).cps.toList=((((bs.drop a).take (i-a))++lb l).map Pu)
 |[],a,i,hd,ha,hi=>by
  have e:i=bs.length:=by have:=congrArg oG hd;rw[jA] at this;simp at this;exact u11 this hi
  show(strSub (bh bs) a (bh bs).length).cps.toList=_;rw[strSub_toList,Jd,np,<-e,als,dM,oH,rn]
 |false::r,a,i,hd,ha,hi=>by
  have hl:i<bs.length:=by have:=congrArg oG hd;rw[jA,dO] at this;exact u4 this
  rw[(show oy (false::r) i=oy r (i+1) from rfl),Ei bs r a (i+1) (by rw[<-v7,hd];rfl) (uh ha) hl,(show lb (false::r)=false::lb r from rfl),show i+1-a=(i-a)+1 by exact u1 ha,aa2,sL,show a+(i-a)=i by exact u2 ha];have:bs[i]?=some false:=by have:=congrArg (·[0]?) hd;rwa[sL] at this
  rw[this,eJ];rfl
 |true::false::r,a,i,hd,ha,hi=>by
  have hl:i+2<=bs.length:=by have:=congrArg oG hd;rw[jA,dO,dO] at this;omega
  have ih:=Ei bs r (i+2) (i+2) (by rw[<-v7,hd];rfl) (aG _) hl;rw[fk,List.take_zero,xL] at ih;obtain⟨p,q,hp⟩:=partsFrom_ne (bh bs) 2 (i+2)<|oy r<|i+2;rw[hp] at ih;show(KA ""<|strSub (bh bs) a i::partsFrom (bh bs) 2 (i+2) (oy r<|i+2)).cps.toList=_;rw[hp];show(strSub (bh bs) a i++""++KA "" (p::q)).cps.toList=_;rw[vR,vR,z3,z3,ih,strSub_toList,Jd,fU,oH,rn];show _++[]++_=_++fm Pu (lb r);rw[dM]
 |[true],a,i,hd,ha,hi=>by
  have hl:i<bs.length:=by have:=congrArg oG hd;rw[jA,dO] at this;exact u4 this
  show(KA ""<|partsFrom (bh bs) 2 a<|oy []<|i+1).cps.toList=_;rw[Ei bs [] a (i+1) (by rw[<-v7,hd];rfl) (uh ha) hl,show i+1-a=(i-a)+1 by exact u1 ha,aa2,sL,show a+(i-a)=i by exact u2 ha];have:bs[i]?=some true:=by have:=congrArg (·[0]?) hd;rwa[sL] at this
  rw[this,eJ];rfl
 |true::true::r,a,i,hd,ha,hi=>by
  have hl:i<bs.length:=by have:=congrArg oG hd;rw[jA,dO] at this;exact u4 this
  show(KA ""<|partsFrom (bh bs) 2 a<|oy (true::r)<|i+1).cps.toList=_;rw[Ei bs (true::r) a (i+1) (by rw[<-v7,hd];rfl) (uh ha) hl,show i+1-a=(i-a)+1 by exact u1 ha,aa2,sL,show a+(i-a)=i by exact u2 ha];have:bs[i]?=some true:=by have:=congrArg (·[0]?) hd;rwa[sL] at this
  rw[this,eJ];rfl
theorem alw bs:sN (bh bs) "()" ""=bh (lb bs):=by
 refine xC<|Array.ext' ?_;have h1:=alv bs bs.length 0 (#[],0) (lq _) (ah [_] (.gl (.a .k .o) .o) rfl)<|aG _;have h2:=Ei bs bs 0 0 rfl (aG _) (dQ _);have e:occurrences (bh bs) "()" 0 (bh bs).length ((bh bs).length+1)=oy bs 0:=by rw[occ_eq,vY];rw[np] at h1 ⊢;exact h1
 unfold sN;split
 ·rename_i hc;simp at hc;rcases hc with hc|hc
  ·rw[e] at hc;rw[hc] at h2;have h3:(strSub (bh bs) 0 (bh bs).length).cps.toList=_:=h2;rwa[sub_whole] at h3
  exact absurd hc.1 (by decide)
 rwa[e,partsBetween_eq,glued_eq_join]
theorem Ej:∀l o,kL (lb l) o=kL l o
 |[],o=>rfl|false::r,0=>rfl|false::r,o+1=>Ej r o|[true],o=>rfl|true::true::r,o=>Ej (true::r) (o+1)|true::false::r,o=>Ej r o
theorem Ek:∀l:List Bool,(lb l).length<=l.length
 |[]=>aG _|false::r=>z4 (Ek r)|[true]=>aG _|true::true::r=>z4 (Ek<|true::r)|true::false::r=>fC (Ek r)<|vH _ 2
theorem Pv:∀l o,(lb l).length=l.length->kL l o=true->l=cD o false∧lb l=l
 |[],o,x,h=>by cases mP h;exact⟨rfl,rfl⟩|false::r,0,x,h=>by exact nB h|false::r,o+1,e,h=>by obtain⟨h1,h2⟩:=Pv r o (RK e) h;exact⟨congrArg (false::·) h1,congrArg (false::·) h2⟩|[true],o,x,h=>by exact nB h|true::true::r,o,e,h=>by have:=(Pv (true::r) (o+1) (RK e) h).1;cases this|true::false::r,o,e,h=>by have:=Ek r;change (lb r).length=r.length+1+1 at e;lia
def El:Nat->List Bool->List Bool
 |0,l=>l|n+1,l=>El n (lb l)
theorem Ze:∀n l,wJ n (bh l)=bh (El n l)
 |0,l=>rfl|n+1,l=>by show wJ n (sN (bh l) "()" "")=_;rw[alw,Ze n];rfl
theorem Zf:∀n l,kL (El n l) 0=kL l 0
 |0,l=>rfl|n+1,l=>(Zf n<|lb l).trans<|Ej l 0
theorem Pw:∀n l,l.length<=n->kL l 0=true->El n l=[]
 |0,l,h,x=>Fj (Nat.le_zero.mp h)|n+1,l,h,hb=>by
  by_cases he:(lb l).length=l.length
  ·have:=(Pv l 0 he hb).1;subst this;exact Pw n [] (dQ _) rfl
  have:=Ek l;exact Pw n (lb l) (by lia)<|(Ej l 0).trans hb
theorem Zg l:n7 (bh l)=kL l 0:=by
 unfold n7;rw[Ze,Jd,aV];cases hb:kL l 0 with
 |true=>rw[Pw l.length l (aG _) hb];rfl|false=>have:=Zf l.length l;rw[hb] at this;cases hs:El l.length l with|nil=>rw[hs] at this;exact nB' this|cons b r=>cases b<;>rfl
end
noncomputable def vu:Nat->List (List Nat)
 |0=>[[]]|n+1=>(vu n).map (0::·)++(vu n).map (1::·)
theorem alx:vu (n+1)=(vu n).map (0::·)++(vu n).map (1::·):=rfl
noncomputable def kM:Nat->List (List Nat)
 |0=>[[]]|n+1=>kM n++(kM n).map (·++[n])
noncomputable def bp (m s2:Nat):List Nat:=(aK 5).map λk=>if k<m then s2/4^k%2 else 0
noncomputable def xd (rt:Bool)(rk os:List Nat)(r:Nat):List Nat:=match rt with
 |true=>os.filter λx=>bT (rk.getD x 0) r|false=>(os.filter λx=>bT (rk.getD x 0) r).reverse
def eA (rt:Bool)(rk os:List Nat):List Nat:=xd rt rk os 0++xd rt rk os 1
noncomputable def zm (rt:Bool)(rk:List Nat)(x v:Nat):Bool:=match rt with
 |true=>nA (rk.getD v 0) (rk.getD x 0)|false=>ft (rk.getD v 0) (rk.getD x 0)
def Px (rt:Bool)(rk:List Nat)(x:Nat)(row:List Nat):List Nat:=row.take (cM (zm rt rk x) row (row.length+1) 0 row.length)++x::row.drop (cM (zm rt rk x) row (row.length+1) 0 row.length)
noncomputable def Je:List Nat->List Nat->Bool
 |[],[]=>true|a::l,b::r=>bT a b&&Je l r|x,u=>false
theorem Zh:∀{l r},Je l r=true->l=r
 |[],[],x=>rfl|a::l,b::r,h=>by replace h:(bT a b&&Je l r)=true:=h;rw[bz] at h;rw[Zh h.2,mP h.1]|[],x::u,h=>by exact nB h|x::u,[],h=>by exact nB h
def aly (rt:Bool)(rk:List Nat):Bool:=(aK 5).all λn=>(kM n).all λos=>Je (Px rt rk n (eA rt rk os)) (eA rt rk (os++[n]))
theorem alz:([true,false].all λrt=>(vu 5).all (aly rt))=true:=by decide +kernel
def Em (rt:Bool)(rk:List Nat)(x:Nat):Int×Int:=((rk.getD x 0:Nat),D4 rt*(x:Nat))
def zn:List (Int×Int)->Bool
 |[]=>true|p::ps=>ps.all (λq=>lH p q&&!lH q p)&&zn ps
def alB (rt:Bool)(rk:List Nat):Bool:=(kM 5).all λos=>zn ((eA rt rk os).map (Em rt rk))
theorem alC:([true,false].all λrt=>(vu 5).all (alB rt))=true:=by decide +kernel
theorem Zi {m s2:Nat}:bp m s2∈vu 5:=by
 have key:∀(n i),((fc i n).map λk=>if k<m then s2/4^k%2 else 0)∈vu n:=λn=>by
  induction n with
  |zero=>exact λi=>.head _|succ n ih=>
   intro i;rw[mO,eC,alx,f7];have h2:(if i<m then s2/4^i%2 else 0)<2:=by
    split
    ·exact kg _ (by decide)
    decide
   generalize (if i<m then s2/4^i%2 else 0)=q at *
   match q,h2 with
   |0,x=>exact .inl (cu.mpr ⟨_,ih<|i+1,rfl⟩)|1,x=>exact .inr<|cu.mpr ⟨_,ih<|i+1,rfl⟩
 unfold bp;exact pW▸key 5 0
theorem alD {rt:Bool}{m s2 n:Nat}{os:List Nat}(hn:n<5)(ho:os∈kM n):Px rt (bp m s2) n (eA rt (bp m s2) os)=eA rt (bp m s2) (os++[n]):=by exact Zh<|dI.mp (dI.mp (dI.mp (dI.mp alz rt<|by cases rt<;>decide) _<|Zi (m:=m) (s2:=s2)) n<|gz.mpr hn) os ho
theorem alE {rt:Bool}{m s2:Nat}{os:List Nat}(ho:os∈kM 5):zn ((eA rt (bp m s2) os).map (Em rt (bp m s2)))=true:=by exact dI.mp (dI.mp (dI.mp alC rt<|by cases rt<;>decide) _<|Zi (m:=m) (s2:=s2)) os ho
theorem Jf {os:List Nat}{n:Nat}(h:os∈kM n):∀k,os∈kM (n+k)
 |0=>h|k+1=>f7.mpr<|.inl<|Jf h k
theorem Zj {os:List Nat}{n:Nat}(h:os∈kM n):os++[n]∈kM (n+1):=f7.mpr<|.inr<|cu.mpr ⟨os,h,rfl⟩
theorem Jg {p:Nat->Bool}:∀{n} {os},os∈kM n->os.filter p∈kM n
 |0,os,h=>by cases gV.mp h;exact .head _|n+1,os,h=>by
  rcases f7.mp h with h|h
  ·exact f7.mpr<|.inl<|Jg h
  obtain⟨o,ho,rfl⟩:=cu.mp h;rw[aqP,sR];split
  ·exact f7.mpr<|.inr<|cu.mpr ⟨_,Jg ho,rfl⟩
  rw[List.filter_nil,dM];exact f7.mpr<|.inl<|Jg ho
theorem zo:∀{n} {os},os∈kM n->(∀x∈os,x<n)∧os.Nodup
 |0,os,h=>by cases gV.mp h;exact⟨λu h=>(nomatch h),EX⟩|n+1,os,h=>by
  rcases f7.mp h with h|h
  ·exact⟨λx hx=>pT<|(zo h).1 x hx,(zo h).2⟩
  obtain⟨o,ho,rfl⟩:=cu.mp h;obtain⟨h1,h2⟩:=zo ho;refine⟨λx hx=>(f7.mp hx).elim (λh=>pT<|h1 x h) (λh=>by cases gV.mp h;exact rg n),xz.mpr ⟨h2,by simp,λa ha b hb=>?_⟩⟩;cases gV.mp hb;exact pQ<|h1 a ha
theorem Zk {m s2 x:Nat}:(bp m s2).getD x 0=0∨(bp m s2).getD x 0=1:=by
 unfold bp;rw[ed,dN];cases hx:(aK 5)[x]? with
 |none=>exact .inl rfl|some y=>
  show(if y<m then s2/4^y%2 else 0)=0∨(if y<m then s2/4^y%2 else 0)=1;split
  ·have:=kg (s2/4^y) (show 0<2 by decide);lia
  exact .inl rfl
theorem Zl {rt:Bool}{rk os:List Nat}{r:Nat}{p:Nat->Bool}:xd rt rk (os.filter p) r=(xd rt rk os r).filter p:=by cases rt with|true=>show Fo _ _=Fo _ (Fo _ _);rw[RY,RY];congr 1;funext x;exact abg _ _|false=>show(Fo _ _).reverse=Fo _ (Fo _ _).reverse;rw[List.filter_reverse,RY,RY];congr 2;funext x;exact abg _ _
theorem alF {rt:Bool}{rk os:List Nat}{p:Nat->Bool}:eA rt rk (os.filter p)=(eA rt rk os).filter p:=by rw[eA,eA,aqP,Zl,Zl]
theorem Jh {rt:Bool}{rk os:List Nat}{r x:Nat}:x∈xd rt rk os r↔x∈os∧rk.getD x 0=r:=by
 have:x∈os.filter (λx=>bT (rk.getD x 0) r)↔x∈os∧rk.getD x 0=r:=by rw[Ca];exact and_congr Iff.rfl ⟨mP,λh=>h▸Cc _⟩
 cases rt with|true=>exact this|false=>show _∈abW _↔_;rwa[abJ]
theorem xe {rt:Bool}{m s2 x:Nat}{os:List Nat}:x∈eA rt (bp m s2) os↔x∈os:=by rw[eA,f7,Jh,Jh];exact⟨λh=>h.elim (·.1) (·.1),λh=>(Zk).elim (λe=>.inl ⟨h,e⟩) λe=>.inr ⟨h,e⟩⟩
theorem alG {rt:Bool}{m s2:Nat}{os:List Nat}(h:os.Nodup):(eA rt (bp m s2) os).Nodup:=by
 have g:∀r,(xd rt (bp m s2) os r).Nodup:=λr=>by have:(os.filter λx=>bT ((bp m s2).getD x 0) r).Nodup:=List.Pairwise.sublist List.filter_sublist h;cases rt with|true=>exact this|false=>exact List.pairwise_reverse.mpr<|aqa (λh=>rc h) this
 refine xz.mpr ⟨g 0,g 1,λa ha b hb=>?_⟩;rintro rfl;have h1:=(Jh.mp ha).2;have h2:=(Jh.mp hb).2;rw[h1] at h2;cases h2
theorem zp {rt:Bool}{m s2:Nat}:∀os:List Nat,(eA rt (bp m s2) os).length=os.length
 |[]=>by cases rt<;>rfl|x::os=>by
  have ih:=zp (rt:=rt) (m:=m) (s2:=s2) os;have g:∀r,(xd rt (bp m s2) (x::os) r).length=(xd rt (bp m s2) os r).length+if(bp m s2).getD x 0=r then 1 else 0:=λr=>by
   have f:((x::os).filter λx=>bT ((bp m s2).getD x 0) r).length=(os.filter λx=>bT ((bp m s2).getD x 0) r).length+if(bp m s2).getD x 0=r then 1 else 0:=by
    rw[sR];by_cases e:(bp m s2).getD x 0=r
    ·rw[if_pos e,if_pos<|e▸Cc _];rfl
    rw[if_neg e,if_neg λh=>e<|mP h];rfl
   cases rt with|true=>exact f|false=>show(abW _).length=(abW _).length+_;rwa[RT,RT]
  rw[eA,dJ] at ih ⊢;rw[g,g,dO];rcases Zk with e|e<;>rw[e]<;>simp<;>(first|exact u6 ih|exact u7 ih)
theorem Zm:∀{l:List Nat} {j y:Nat},l.Nodup->l[j]?=some y->l.eraseIdx j=l.filter λx=>!bT x y
 |a::l,0,y,h,e=>by
  obtain rfl:=dE e;rw[zJ] at h;rw[List.eraseIdx_cons_zero,sR,if_neg<|by rw[Cc];exact fL];refine(List.filter_eq_self.mpr λx hx=>?_).symm;cases hb:bT x a with
  |false=>rfl|true=>exact absurd (mP hb▸hx) h.1
 |a::l,j+1,y,h,e=>by
  rw[zJ] at h;rw[re] at e;have hb:bT a y=false:=by cases hb:bT a y with|false=>rfl|true=>exact absurd (mP hb▸c8 e) h.1
  rw[RP,Zm h.2 e,sR,if_pos<|by rw[hb];rfl]
 |[],j,y,h,e=>by exact nS e
theorem Zn {α:Type}{lt lt':Nat->Nat->Bool}{n:Nat}(h:∀i j,i<n->j<n->lt i j=lt' i j):∀(t:KasT α),qE lt n t=qE lt' n t
 |.ret x=>rfl|.ask i j k=>by
  rw[Ox,Ox];split
  ·rename_i ii;rw[bz,decide_eq_true_eq,decide_eq_true_eq] at ii;exact h i j ii.1 ii.2▸Zn h _
  rfl
theorem alH p:lH p p=false:=by unfold lH;rw[if_pos<|beq_self_eq_true _,if_pos<|beq_self_eq_true _]
theorem Zo:∀{ps},zn ps=true->∀i j,i<ps.length->j<ps.length->lH (ps.getD i (0,0)) (ps.getD j (0,0))=ft i j
 |[],x,i,j,hi,u=>absurd hi (zY _)|p::ps,h,i,j,hi,hj=>by
  rw[(show zn (p::ps)=(ps.all (λq=>lH p q&&!lH q p)&&zn ps) from rfl),bz] at h;have hq:=λk hk=>by have:=dI.mp h.1 (ps.getD k (0,0)) (by rw[ed,bA hk];exact Rs hk);rwa[bz,E0] at this
  match i,j with
  |0,0=>exact alH p|0,j+1=>exact(hq j<|z5 hj).1|i+1,0=>exact(hq i<|z5 hi).2|i+1,j+1=>show lH (ps.getD i (0,0)) (ps.getD j (0,0))=ft (i+1) (j+1);rw[Zo h.2 i j (z5 hi)<|z5 hj];rfl
theorem alI:∀n<6,(qE ft n (xM n)).map (·.toList)=some (aK n):=by decide +kernel
theorem alJ (h:zn ps=true)(hl:ps.length<=5):tJ ps=some (aK ps.length):=by
 unfold tJ;split
 ·rfl
 unfold yX;rw[Zn<|Zo h];exact alI _<|RS hl
theorem alK {k:Nat}(hk:k<10):bZ (qN cr k)=d5 k:=by
 have h1:∀k<10,bZ ((cQ "ABCDEFGHIJ").getD k "")=d5 k:=by decide +kernel
 have h2:∀k<10,bZ (d5 k)=d5 k:=by decide +kernel
 unfold qN;split
 ·exact h1 k hk
 exact h2 k hk
theorem Ji {k:Nat}(hk:k<10):bZ (la k)=d5 k:=(by decide +kernel:∀k<10,bZ (la k)=d5 k) k hk
theorem alN {k:Nat}(hk:k<10):bZ (d5 k)=d5 k:=(by decide +kernel:∀k<10,bZ (d5 k)=d5 k) k hk
theorem alO {j k:Nat}(hj:j<10)(hk:k<10):d4 (d5 j) (d5 k)=bT j k:=(by decide +kernel:∀j<10,∀k<10,d4 (d5 j) (d5 k)=bT j k) j hj k hk
theorem Jj {α:Type}{lets:α->Str×Str}{pos:α->Nat}(h:∀x,pos x<10->bZ (lets x).1=d5 (pos x)) k (hk:k<10):∀(xs:List α),(∀x∈xs,pos x<10)->eH (xs.map lets) (d5 k)=(xs.find? λx=>bT (pos x) k).map λx=>(lets x).2
 |[],u=>rfl|x::xs,hx=>by have ih:=Jj h k hk xs λy hy=>hx y<|.tail _ hy;have hp:=hx x<|.head _;unfold eH at ih ⊢;rw[eC,vV,vV,h x hp,alO hp hk];cases bT (pos x) k with|true=>rfl|false=>exact ih
def lS (aC:List Str)(k:Nat):Option Str:=(aC[k]?).bind gT
theorem Py aC  cr:d7 aC cr=((aK aC.length).filter λk=>(lS aC k).isSome).map λk=>(qN cr k,(lS aC k).getD ""):=by
 unfold d7;generalize aK aC.length=ks;induction ks with
 |nil=>rfl|cons k ks ih=>
  rw[vT,sR,ih];unfold Bp;cases hw:aC[k]? with
  |none=>simp [lS,hw]|some x=>
   by_cases hx:x=""
   ·simp [lS,hw,gT,hx]
   simp [lS,hw,gT,hx]
theorem Zp {k:Nat}{p:Nat->Bool}:∀(ks:List Nat),(ks.filter p).find? (λx=>bT x k)=if k∈ks∧p k=true then some k else none
 |[]=>by simp|j::ks=>by
  rw[sR];have ih:=Zp (k:=k) (p:=p) ks;by_cases hp:p j=true
  ·rw[if_pos hp,vV,ih];by_cases hj:j=k
   ·subst hj;rw[Cc];simp [hp]
   have:bT j k=false:=by cases hb:bT j k with|false=>rfl|true=>exact absurd (mP hb) hj
   rw[this];have Pz:k≠j:=λe=>hj e.symm;simp [Pz]
  rw[if_neg hp,ih];by_cases hj:j=k
  ·subst hj;simp [hp]
  have Pz:k≠j:=λe=>hj e.symm;simp [Pz]
theorem PI {k:Nat}(hl:aC.length<=10)(hk:k<10):eH (d7 aC cr) (d5 k)=lS aC k:=by
 rw[Py,Jj (λx hx=>alK hx) k hk _ (λx hx=>by have:=gz.mp (Ca.mp hx).1;exact o3 this hl),Zp];unfold lS;by_cases h:k<aC.length
 ·rw[bA h];cases ho:gT aC[k] with|none=>simp [ho]|some y=>simp [bA h,ho,gz.mpr h]
 rw[B5<|by exact o8 h];simp [B5<|show aC.length<=k by exact o8 h]
theorem alP {k:Nat}(hl:aC.length<=10)(hk:k<10):jI (d7 aC cr) k=lS aC k:=by have hb:=zb (x:="aBcDeFgHiJ") (by show k<10;omega);unfold jI;rw[hb];show eH _ (bZ<|la k)=_;rw[Ji hk,PI hl hk]
theorem alQ {x:Str}:eH (hs++ks) x=(eH hs x).or (eH ks x):=by unfold eH;rw[aqJ];cases hs.find? λp=>d4 (bZ p.1) x<;>rfl
theorem alR {k:Nat}{n0 y:Str}(hl:aC.length<=10)(hk:k<10)(hy:lS aC k=some y):tG (d7 aC cr) (mI k) n0=d7 aC cr∧tH (d7 aC cr) (mI k) n0=y:=by have:=PI (cr:=cr) hl hk;rw[hy] at this;unfold tG tH;rw[((by decide +kernel:∀k<10,bZ (mI k)=d5 k) k hk),this];exact⟨rfl,rfl⟩
theorem alS {nm:List Str}{m k:Nat}(hk:k<10){ks:List Nat}(hY:∀j∈ks,j<10)(kD:k∉ks):eH (ks.map (pz nm m)) (d5 k)=none:=by
 rw[Jj (lets:=pz nm m) (pos:=λx=>x) (λx hx=>Ji hx) k hk ks hY];have:ks.find? (λx=>bT x k)=none:=by rw[aqQ];intro j hj hb;have:=mP hb;exact kD<|this▸hj
 rw[this];rfl
theorem alT {nm:List Str}{m k:Nat}{aA:List Nat}(hl:aC.length<=10)(hk:k<10)(he:∀j∈aA,j<10)(hw:k∈aA->(lS aC k).isSome=true):jI (d7 aC cr++aA.map (pz nm m)) k=lS aC k:=by
 have hb:=zb (x:="aBcDeFgHiJ") (by show k<10;omega);unfold jI;rw[hb];show eH _ (bZ<|la k)=_;rw[Ji hk,alQ,PI hl hk];by_cases h:k∈aA
 ·cases hy:lS aC k with|none=>have:=hw h;rw[hy] at this;exact nB this|some y=>rfl
 rw[alS hk he h];cases lS aC k<;>rfl
theorem Zq {out:List (Nat×Str)}(ho:∀p∈out,p.1<10){k:Nat}(hk:k<10):eH (dY out) (d5 k)=(out.find? λp=>bT p.1 k).map (·.2):=
 Jj (lets:=λp:Nat×Str=>(d5 p.1,p.2)) (λp hp=>alN hp) k hk out ho
theorem alU {out:List (Nat×Str)}(ho:∀p∈out,p.1<10):eH (dY out) (bZ "z")=none:=by
 have hz:∀k<10,d4 (bZ<|d5 k) (bZ "z")=false:=by decide +kernel
 unfold eH;have:(dY out).find? (λp=>d4 (bZ p.1)<|bZ "z")=none:=by rw[aqQ];intro p hp;obtain⟨q,hq,rfl⟩:=cu.mp hp;rw[hz q.1<|ho q hq];exact fL
 rw[this];rfl
theorem alV {out:List (Nat×Str)}(ho:∀p∈out,p.1<10){m:Nat}(hm:m<=5):tW (dY out) m=(aK (2*m)).map λk=>((out.find? λp=>bT p.1 k).map (·.2)).getD ("":Str):=by refine vZ λk hk=>?_;have hk:=gz.mp hk;rw[((by decide +kernel:∀k<10,bZ (j7 k)=d5 k) k<|ui hk hm),Zq ho<|by exact ui hk hm]
theorem alW {out:List (Nat×Str)}(ho:∀p∈out,p.1<10){k:Nat}(hk:k<10):jI (dY out) k=(out.find? λp=>bT p.1 k).map (·.2):=by have hb:=zb (x:="aBcDeFgHiJ") (by show k<10;omega);unfold jI;rw[hb];show eH _ (bZ<|la k)=_;rw[Ji hk,Zq ho hk]
noncomputable def ju:Nat->Nat->List (List Bool)
 |0,0=>[[]]|0,x+1=>[]|f+1,0=>(ju f 1).map (true::·)|f+1,o+1=>(if o+1<=f then(ju f (o+2)).map (true::·) else [])++(ju f o).map (false::·)
theorem two_eq (h:a%2=1↔b%2=1):a%2=b%2:=
 (abd a).elim (λe=>(abd b).elim (λf=>e.trans f.symm) λf=>absurd (e.symm.trans<|h.mpr f)<|by decide) λe=>e.trans (h.mp e).symm
theorem alX {k:Nat}(h:k<n):s%2^n/2^k%2=s/2^k%2:=by have h1:=Nat.testBit_mod_two_pow s n k;rw[decide_eq_true h,Bool.true_and,aqR,aqR] at h1;exact two_eq<|decide_eq_decide.mp h1
theorem alY {m:Nat}:gU m s=gU m (s%2^(2*m)):=by
 have key:∀(ks:List Nat) acc,(∀k∈ks,k<2*m)->ks.foldl (tT m s) acc=ks.foldl (tT m<|s%2^(2*m)) acc:=λks=>by
  induction ks with
  |nil=>intro acc _;rfl|cons k ks ih=>
   intro acc h;rw[fu,fu];have e:tT m s acc k=tT m (s%2^(2*m)) acc k:=by unfold tT;rw[alX<|h k<|.head _]
   exact e▸ih _ λj hj=>h j<|.tail _ hj
 exact key _ _ λk hk=>gz.mp hk
theorem alZ:((aK 256).all λr=>(ju 8 0).contains (gU 4 r))=true:=by decide +kernel
theorem al0:((aK 1024).all λr=>(ju 10 0).contains (gU 5 r))=true:=by decide +kernel
theorem al1 {m:Nat}(hm:m=4∨m=5):gU m s∈ju (2*m) 0:=by
 rw[alY];have aZ:s%2^(2*m)<2^(2*m):=kg _ (Nat.pow_pos<|by decide);rcases hm with rfl|rfl
 ·have:=dI.mp alZ _<|gz.mpr aZ;simpa using this
 simpa using (dI.mp al0 _<|gz.mpr aZ)
noncomputable def dS:List Bool->Nat->List (Option Nat)
 |[],x=>[]|true::r,n=>some n::dS r (n+1)|false::r,n=>none::dS r n
theorem Zr:dS (true::r) n=some n::dS r (n+1):=rfl
theorem Zs:dS (false::r) n=none::dS r n:=rfl
theorem En:∀sg n,(dS sg n).length=sg.length
 |[],n=>rfl|true::r,n=>congrArg Nat.succ (En r _)|false::r,n=>congrArg Nat.succ<|En r _
theorem PJ f:∀sg n k,sg.count true<=k->kJ sg ((fc n k).map f)=(dS sg n).map λo=>(o.map f).getD ""
 |[],n,k,x=>rfl|true::r,n,0,h=>by simp at h|true::r,n,k+1,h=>by rw[mO,eC,YK,Zr,eC,PJ f r (n+1) k<|by simpa using h];rfl|false::r,n,k,h=>by rw[YL,Zs,eC,PJ f r n k<|by simpa using h];rfl
theorem al2 {w:List (Option Nat)}:(w.map λo=>(o.map (fN b)).getD "").map gT=w.map (dg (fN b)):=by rw[fV];refine vZ λo x=>?_;cases o with|none=>rfl|some i=>show gT (fN b i)=some (fN b i);unfold gT;rw[if_neg<|zk b i]
def cm (b:Nat)(w:List (Option Nat)):List Str:=w.map λo=>(o.map (fN b)).getD ""
theorem al4 {pl w:List (Option Nat)}(hw:∀k,k<pl.length->j4 k=((w[k]?).getD none).map (fN b)):gh bP (·== ·) (pl.map (dg (fN b))) j4=(gh ft bT pl (λk=>(w[k]?).getD none)).map (fm λp=>(p.1,fN b p.2)):=by rw[<-ak' (alc b) (Ja b)];show((k6 _ (aK (pl.map<|dg<|fN b).length).reverse ([],[])).bind _)=((k6 _ (aK (pl.map<|dg<|fN b).length).reverse ([],[])).bind _);rw[Y5 (aK (pl.map<|dg<|fN b).length).reverse ([],[]) λk hk s=>?_];rw[abJ,gz,aV] at hk;unfold Bj;rw[hw k hk]
noncomputable def Eo (aP:Nat)(p:Nat×Nat):Option Nat:=match ft p.1 aP,nA aP p.2 with
 |true,true=>some p.2|x,u=>none
noncomputable def oz (lt:Nat->Nat->Bool)(x:Nat):List (Nat×Nat)->Nat
 |[]=>0|(y,n)::r=>match lt y x with
   |true=>v8 n (oz lt x r)|false=>oz lt x r
noncomputable def tZ (lt:Nat->Nat->Bool):List Nat->List (Nat×Nat)->Nat->Nat
 |[],o,m=>m|x::r,acc,m=>Nat.rec (motive:=λu=>Nat) (tZ lt r ((x,1)::acc) (v8 m 1)) (λk u=>tZ lt r ((x,k+2)::acc) (v8 m (k+2))) (oz lt x acc)
theorem al5 {lt:Nat->Nat->Bool}{x m:Nat}:tZ lt (x::r) acc m=tZ lt r ((x,1+oz lt x acc)::acc) (v8 m (1+oz lt x acc)):=by show Nat.rec (motive:=λu=>Nat) (tZ lt r ((x,1)::acc)<|v8 m 1) (λk u=>tZ lt r ((x,k+2)::acc)<|v8 m<|k+2) (oz lt x acc)=_;generalize oz lt x acc=n;cases n with|zero=>rfl|succ k=>rw[show 1+(k+1)=k+2 by exact ah [_] (.ge (.a .j<|.a .o .j)<|.a .o<|.n 2) rfl]
theorem Zt l  a:hU (l++[a])=v8 (hU l) a:=by unfold hU;rw[aqS];rfl
theorem PK:∀(l:List Nat) a,l.foldl max a=max a (l.foldl max 0)
 |[],a=>by simp|b::l,a=>by rw[fu,fu,PK l<|max a b,PK l<|max 0 b,Nat.zero_max,Nat.max_assoc]
theorem Zu a  l:hU (a::l)=v8 a (hU l):=by unfold hU;rw[fu,PK l<|max 0 a,Nat.zero_max]
theorem al7 l:hU l.reverse=hU l:=by induction l with|nil=>rfl|cons a l ih=>rw[B3,Zt,Zu,ih];exact Nat.max_comm _ _
noncomputable def ab7 (lt:Nat->Nat->Bool)(x:Nat)(p:Nat×Nat):Option Nat:=if lt p.1 x then some p.2 else none
theorem PN {lt:Nat->Nat->Bool}{x:Nat}:∀l,oz lt x l=hU (l.filterMap (ab7 lt x))
 |[]=>rfl|(y,n)::r=>by show(match lt y x with|true=>v8 n (oz lt x r)|false=>oz lt x r)=_;rw[vT,ab7];cases lt y x with|true=>show v8 n (oz lt x r)=hU (n::r.filterMap (ab7 lt x));rw[Zu,PN r]|false=>exact PN r
theorem Zv {lt:Nat->Nat->Bool}:∀rest pre acc,acc.length=pre.length->tZ lt rest (pre.zip acc).reverse (hU acc)=hU ((fc pre.length rest.length).foldl (k7 lt (pre++rest)) acc)
 |[],pre,acc,h=>rfl|x::rest,pre,acc,h=>by
  rw[al5,dO,mO,fu];have e:k7 lt (pre++x::rest) acc pre.length=acc++[1+oz lt x (pre.zip acc).reverse]:=by unfold k7;rw[(show hU (nl lt (pre++x::rest) acc pre.length)=oz lt x (pre.zip acc).reverse from by
   rw[PN,List.filterMap_reverse,al7,(show pre.zip acc=(aK pre.length).map λi=>((pre++(x::rest)).getD i 0,acc.getD i 0) from by
    refine Ku (by simp [h]) λi h1 h2=>?_;have hi:i<pre.length:=by simp at h2;exact h2
    have hj:i<acc.length:=o1 hi h;simp [d2 hi,hi,hj]),List.filterMap_map]
   have hx:(pre++x::rest).getD pre.length 0=x:=by simp
   unfold nl;rw[hx];rfl)]
  rw[e];have ih:=Zv (lt:=lt) rest (pre++[x]) (acc++[1+oz lt x (pre.zip acc).reverse]) (by rw[dJ,dJ,h];rfl);rwa[List.zip_append h.symm,aqE,Zt,dJ,eJ] at ih
theorem Zw {lt:Nat->Nat->Bool} aA:tZ lt aA [] 0=hU (mF lt aA):=by rw[mF,pW];exact Zv (lt:=lt) aA [] [] rfl
def sb (ps:List (Nat×Nat))(aP:Nat):Nat×Nat:=(tZ ft (ps.filterMap (Eo aP)) [] 0,tZ (λa b=>ft b a) (ps.filterMap (Eo aP)) [] 0)
theorem PP a b:ft a b=decide (a<b):=by
 by_cases h:a<b
 ·rw[decide_eq_true h];exact Kz h
 rw[decide_eq_false h];cases hb:ft a b with|false=>rfl|true=>exact absurd (lj hb) h
theorem Zx ps  aP:jt ps aP=[(sb ps aP).1,(sb ps aP).2]:=by
 have e1:ps.filterMap (Eo aP)=ps.filterMap (lL aP):=by congr 1;funext p;exact (by
  unfold Eo lL;by_cases h1:p.1<aP
  ·rw[show ft p.1 aP=true from Kz h1];by_cases h2:aP<=p.2
   ·rw[Kz h2,if_pos ⟨h1,h2⟩]
   rw[if_neg λh=>h2 h.2];cases hb:nA aP p.2 with|true=>exact absurd (lj hb) h2|false=>rfl
  rw[if_neg λh=>h1 h.1];cases hb:ft p.1 aP with
  |true=>exact absurd (lj hb) h1|false=>rfl)
 have e2:iu=ft:=by funext a b;exact(PP a b).symm
 have e3:jK=λa b=>ft b a:=by funext a b;exact(PP b a).symm
 unfold jt sb;rw[e1,Zw,Zw,e2,e3]
noncomputable def xf:List Bool->Nat->List Nat->List (List (Option Nat))
 |[],u,o=>[[]]|true::r,n,os=>(xf r (n+1) (os++[n])).map (none::·)|false::r,n,os=>os.flatMap λx=>(xf r n (os.filter λy=>!bT y x)).map (some x::·)
noncomputable def dw (w:List (Option Nat))(k:Nat):Option Nat:=(w[k]?).getD none
noncomputable def lc (n:Nat)(out:List (Nat×Nat)):List (Option Nat):=(aK n).map λk=>(out.find? λp=>bT p.1 k).map (·.2)
noncomputable def t3 (pl:List (Option Nat))(x:Nat):Nat:=pl.findIdx λo=>match o with|some y=>bT y x|none=>false
def qV (pl w:List (Option Nat)):List (Nat×Nat):=(aK w.length).filterMap λk=>(dw w k).map λx=>(t3 pl x,k)
def qW (ps:List (Nat×Nat)):Option (List (Nat×Nat)):=match yX (ps.map D6) with
 |none=>none|some js=>if js.all λj=>ft j ps.length then some (js.map λj=>ps.getD j (0,0)) else none
noncomputable def eqO:Option Nat->Option Nat->Bool
 |some a,some b=>bT a b|none,none=>true|x,u=>false
def Jk:List (Option Nat)->List (Option Nat)->Bool
 |[],[]=>true|a::l,b::r=>eqO a b&&Jk l r|x,u=>false
def se (pl w:List (Option Nat)):List (Nat×Nat):=(aK pl.length).filterMap λk=>match dw pl k with
 |some u=>none|none=>(dw w k).map λx=>(k,x)
noncomputable def BD:List (Nat×Nat)->List (Nat×Nat)->Bool
 |[],[]=>true|a::l,b::r=>bT a.1 b.1&&bT a.2 b.2&&BD l r|x,u=>false
noncomputable def BE:List (Option Nat)->Nat
 |[]=>0|none::r=>BE r+1|some x::r=>BE r
noncomputable def PQ (n:Nat)(out:List (Nat×Nat)):Bool:=nA out.length n&&out.all λp=>ft p.1 n&&ft (2*p.2) n
def sf (pl w:List (Option Nat)):Bool:=w.all λo=>match o with
 |none=>true|some x=>ft (2*x) pl.length&&ft (t3 pl x) pl.length
noncomputable def zq (p q:List (Nat×Nat)):Nat->Bool
 |0=>true|g+1=>bT (sb p (g+1)).1 (sb q (g+1)).2&&bT (sb p (g+1)).2 (sb q (g+1)).1&&zq p q g
def Jl (n:Nat)(p0 q0:List (Nat×Nat)):Bool:=nA 2 p0.length&&(nA 2 q0.length&&(match qW p0,qW q0 with
 |some p,some q=>nA p.length n&&(nA q.length n&&zq p q (n-1))|x,u=>false))
def Jm (pl w:List (Option Nat))(out:List (Nat×Nat))(v:List (Option Nat)):Bool:=match gh ft bT pl (dw v) with
 |none=>false|some lR=>PQ pl.length out&&(sf pl w&&(sf pl v&&(bT (2*BE v) pl.length&&(BD lR (se pl w)&&Jl pl.length (qV pl w) (qV pl v)))))
def BF (pl w:List (Option Nat)):Bool:=match gh ft bT pl (dw w) with
 |none=>false|some out=>Jm pl w out (lc pl.length out)
noncomputable def oA:List Bool->Nat->List Nat->List (Option Nat)
 |[],x,u=>[]|true::r,n,os=>none::oA r (n+1) (os++[n])|false::r,n,os=>os.head?::oA r n os.tail
theorem amb {r:List Bool}{n:Nat}{os:List Nat}:oA (true::r) n os=none::oA r (n+1) (os++[n]):=rfl
theorem amc {r:List Bool}{n:Nat}{os:List Nat}:oA (false::r) n os=os.head?::oA r n os.tail:=rfl
noncomputable def vy:List Bool->Nat->List Nat->List (Option Nat)
 |[],x,u=>[]|true::r,n,os=>none::vy r (n+1) (n::os)|false::r,n,os=>os.head?::vy r n os.tail
def Jn (s:List Bool):Bool:=match gh ft bT (dS s 0) (dw (oA s 0 [])) with
 |none=>false|some out=>BD out (se (dS s 0) (vy s 0 []))
theorem amd:(ju 8 0).all Jn=true:=by decide +kernel
theorem ame:(ju 10 0).all Jn=true:=by decide +kernel
theorem PR:∀{l r},BD l r=true->l=r
 |[],[],x=>rfl|a::l,b::r,h=>by replace h:(bT a.1 b.1&&bT a.2 b.2&&BD l r)=true:=h;rw[bz,bz] at h;obtain⟨⟨h1,h2⟩,h3⟩:=h;rw[PR h3,Prod.ext (mP h1)<|mP h2]|[],x::u,h=>by exact nB h|x::u,[],h=>by exact nB h
set_option tactic.hygienic true in
theorem amf {m:Nat}(hm:m=4∨m=5)(hs:s∈ju (2*m) 0):gh ft bT (dS s 0) (dw (oA s 0 []))=some (se (dS s 0) (vy s 0 [])):=by
 have h:Jn s=true:=by
  rcases hm with rfl|rfl
  ·exact dI.mp amd s hs
  exact dI.mp ame s hs
 unfold Jn at h;split at h
 ·exact nB h
 rename_i out ho;rw[ho,PR h]
section
theorem PT {b:Nat}{r:Nat->Nat}{i:Nat}:∀n s,((fc s n).map λk=>(fN b k,af (r k))).lookup (fN b i)=if s<=i∧i<s+n then some (af (r i)) else none
 |0,s=>by rw[if_neg λh=>absurd h.2<|Nat.not_lt.2 h.1];rfl|n+1,s=>by
  rw[mO,eC,nD,Ja,PT n<|s+1];by_cases h:i=s
  ·subst h;rw[Cc];exact(if_pos ⟨aG _,ah [_,_] (.gt .o<|.a .o<|.a .i .j) rfl⟩).symm
  have:bT i s=false:=by cases hb:bT i s with|false=>rfl|true=>exact absurd (mP hb) h
  rw[this,show s+1+n=s+(n+1) from Nat.add_right_comm s 1 n];by_cases h2:s<=i∧i<s+(n+1)
  ·rw[if_pos h2,if_pos ⟨Nat.lt_of_le_of_ne h2.1<|Ne.symm h,h2.2⟩]
  rw[if_neg h2,if_neg λq=>h2 ⟨Nat.le_of_lt q.1,q.2⟩]
theorem Zy {m s2:Nat}{nm:List Str}(hn:nm=(aK m).map (fN b)):d0 nm s2=(fc 0 m).map λk=>(fN b k,af (s2/4^k%2)):=by subst hn;unfold d0;rw[aV,fb,<-pW];refine vZ λk hk=>?_;rw[ed,dN,iS<|gz.mp hk];rfl
section
variable {m b s2:Nat}{nm:List Str}(hn:nm=(aK m).map (fN b))(hm:m<=5)
include hn hm
theorem Zz i:qR (d0 nm s2) (fN b i)=(((bp m s2).getD i 0:Nat):Int):=by
 rw[Zy hn,qR,PT,(show (bp m s2).getD i 0=if i<m then s2/4^i%2 else 0 from by
  unfold bp;rw[ed,dN];by_cases h:i<5
  ·rw[iS h];rfl
  rw[B5<|fb▸o8 h,if_neg<|by exact ah [_,_,_] (.le .o .i<|.c 1 0 (.no<|.lt .u .i)<|.g 1 0<|.no<|.lt .u .o) rfl hm h];rfl),lq]
 by_cases h:i<m
 ·rw[if_pos ⟨dQ _,h⟩,if_pos h];rfl
 rw[if_neg λk=>h k.2,if_neg h];rfl
theorem amh {rt:Bool}{x:Nat}{row:List Nat}:jb rt (d0 nm s2) (fN b x) (row.map (fN b))=(Px rt (bp m s2) x row).map (fN b):=by
 have hr:=λi=>Zz (s2:=s2) hn hm i;generalize bp m s2=rk at *;have h2:∀p:Str->Bool,(∀v,p (fN b v)=zm rt rk x v)->(row.map<|fN b).take (cM p (row.map<|fN b) ((row.map<|fN b).length+1) 0 (row.map<|fN b).length)++fN b x::(row.map<|fN b).drop (cM p (row.map<|fN b) ((row.map<|fN b).length+1) 0 (row.map<|fN b).length)=(row.take (cM (zm rt rk x) row (row.length+1) 0 row.length)++x::row.drop (cM (zm rt rk x) row (row.length+1) 0 row.length)).map (fN b):=λp hp=>by rw[Eg hp,aV,fU,eC,oH,rn]
 cases rt with
 |true=>
  refine h2 _ λv=>?_;rw[hr,hr,zm];cases h:nA (rk.getD v 0) (rk.getD x 0) with
  |true=>rw[decide_eq_false<|sB.mpr<|EV.mpr<|lj h];rfl|false=>rw[decide_eq_true<|xt.mpr<|Nat.lt_of_not_le<|mt Kz<|ne_true_of_eq_false h];rfl
 |false=>refine h2 _ λv=>?_;rw[hr,hr,zm,PP];exact decide_eq_decide.mpr xt
omit hm in
theorem ami {i:Nat}(hi:i<m):nm.findIdx (λx=>x == fN b i)=i:=by
 have key:∀(n s),s<=i->i<s+n->((fc s n).map (fN b)).findIdx (λx=>x == fN b i)=i-s:=by
  intro n
  induction n with
  | zero=>intro s h1 h2;exact absurd h2 (Rw.mpr h1)
  | succ n ih=>
    intro s h1 h2
    rw[mO,eC,List.findIdx_cons,Ja]
    by_cases h:s=i
    · subst h;rw[Cc,fk];rfl
    · have:bT s i=false:=by
       cases hb:bT s i with
       | false=>rfl
       | true=>exact absurd (mP hb) h
      rw[this,ih (s+1) (aqT h1 h) (ah [_,_,_,_] (.lt .o (.a .i (.a .u .w)) (.gt .o (.a (.a .i .w) .u))) rfl h2)]
      exact abV (aqN (aqT h1 h))
 rw[hn,pW]
 exact key m 0 (dQ _) (ah [_,_,_] (.lt .o .i (.gt .o (.a .u .i))) rfl hi)
theorem amj {rt:Bool}{i:Nat}(hi:i<m):vn nm (d0 nm s2) rt (fN b i)=Em rt (bp m s2) i:=by unfold vn Em;rw[Zz hn hm,ami hn hi]
omit hm in
theorem amk:∀v∈nm,∃r:Nat,(d0 nm s2).lookup v=some (af r):=λv hv=>by
 rw[Zy hn]
 rw[hn] at hv
 obtain⟨i,hi,rfl⟩:=cu.mp hv
 rw[PT,if_pos ⟨dQ _,by rw[lq];exact gz.mp hi⟩]
 exact⟨_,rfl⟩
end
structure sh where
 os:List Nat
 fo:List Nat
 n:Nat
 c:Nat
 line:List (Option Nat)
 drawn:List (Option Nat)
section
variable (rt:Bool)(rk:List Nat)(s4:Nat)
def vA (z:sh):Nat:=(eA rt rk z.os).getD (s4/5^z.c%z.os.length) 0
def kN (z:sh):Bool->sh
 |true=>⟨z.os++[z.n],z.fo++[z.n],z.n+1,z.c,z.line++[none],z.drawn++[none]⟩|false=>⟨z.os.filter λy=>!bT y (vA rt rk s4 z),z.fo.tail,z.n,z.c+1,z.line++[z.fo.head?],z.drawn++[some (vA rt rk s4 z)]⟩
noncomputable def BG:sh:=⟨[],[],0,0,[],[]⟩
def oB (sg:List Bool)(i:Nat):sh:=(sg.take i).foldl (kN rt rk s4) BG
def lT (b:Nat)(cs:List Nat)(ln:Int)(z:sh):de:=⟨cs,ln,z.fo.map (fN b),cm b z.line,cm b z.drawn,(eA rt rk z.os).map (fN b),cD z.n false⟩
end
noncomputable def Dy:List Bool->Nat->Prop
 |[],o=>o=0|true::r,o=>Dy r (o+1)|false::r,o=>∃o',o=o'+1∧Dy r o'
theorem xg:∀{f o} {s},s∈ju f o->Dy s o∧s.length=f∧o+s.count true=s.count false
 |0,0,s,h=>by cases gV.mp h;exact⟨rfl,rfl,rfl⟩|0,o+1,s,h=>by cases h|f+1,0,s,h=>by obtain⟨r,hr,rfl⟩:=cu.mp h;obtain⟨h1,h2,h3⟩:=xg hr;exact⟨h1,congrArg (· + 1) h2,by rw[iU,iU];simp;exact ah [_,_,_] (.c 1 (-1) (.eq (.a .o .i) .u)<|.ge (.a .i .o) .u) rfl h3⟩|f+1,o+1,s,h=>by
  rcases f7.mp h with h|h
  ·split at h
   ·obtain⟨r,hr,rfl⟩:=cu.mp h;obtain⟨h1,h2,h3⟩:=xg hr;exact⟨h1,congrArg (· + 1) h2,by rw[iU,iU];simp;exact ah [_,_,_] (.c 1 (-1) (.eq (.a (.a .o<|.n 2) .i) .u)<|.ge (.a (.a .o .j)<|.a .i .j) .u) rfl h3⟩
   cases h
  obtain⟨r,hr,rfl⟩:=cu.mp h;obtain⟨h1,h2,h3⟩:=xg hr;exact⟨⟨o,rfl,h1⟩,congrArg (· + 1) h2,by rw[iU,iU];simp;exact ah [_,_,_,_] (.c 1 (-1) (.eq (.a .o .i) .u)<|.ge (.a (.a .o .w) .i)<|.a .u .w) rfl h3⟩
structure pE (m k:Nat)(z:sh)(r:List Bool):Prop where
 dy:Dy r z.os.length
 fo:z.fo.length=z.os.length
 qX:z.os∈kM z.n
 n:z.n+r.count true=m
 li:z.line.length=k
 dr:z.drawn.length=k
section
variable {rt:Bool}{m s2 s4 k:Nat}{z:sh}{r:List Bool}
theorem Jo (h:0<z.os.length):s4/5^z.c%z.os.length<z.os.length∧(eA rt (bp m s2) z.os)[s4/5^z.c%z.os.length]?=some (vA rt (bp m s2) s4 z)∧vA rt (bp m s2) s4 z∈z.os:=by
 have h1:=kg (s4/5^z.c) h;have h2:(eA rt (bp m s2) z.os)[s4/5^z.c%z.os.length]?=some (vA rt (bp m s2) s4 z):=by rw[vA,ed,bA<|by rwa[zp]];rfl
 exact⟨h1,h2,xe.mp<|c8 h2⟩
theorem ZA (h:0<z.os.length)(hs:z.os∈kM z.n):(eA rt (bp m s2) z.os).eraseIdx (s4/5^z.c%z.os.length)=eA rt (bp m s2) (kN rt (bp m s2) s4 z false).os:=by rw[Zm (alG (zo hs).2) (Jo h).2.1];exact alF.symm
theorem ZB (h:0<z.os.length)(hs:z.os∈kM z.n):(kN rt (bp m s2) s4 z false).os.length+1=z.os.length:=by rw[<-zp,<-ZA h hs,List.length_eraseIdx,zp,if_pos (Jo (rt:=rt) (m:=m) (s2:=s2) h).1];exact abV h
theorem pE.tt (I:pE m k z (true::r)):pE m (k+1) (kN rt (bp m s2) s4 z true) r where
 dy:=by have:=I.dy;show Dy r (z.os++[z.n]).length;rwa[dJ]
 fo:=by show(z.fo++[z.n]).length=(z.os++[z.n]).length;rw[dJ,dJ,I.fo]
 qX:=Zj I.qX
 n:=by have:=I.n;rw[iU] at this;simp at this;exact xO this
 li:=by show(z.line++[none]).length=_;rw[dJ,I.li];rfl
 dr:=by show(z.drawn++[none]).length=_;rw[dJ,I.dr];rfl
theorem pE.pos (I:pE m k z (false::r)):0<z.os.length:=by obtain⟨o,h,_⟩:=I.dy;exact h▸vI _
theorem pE.ff (I:pE m k z (false::r)):pE m (k+1) (kN rt (bp m s2) s4 z false) r where
 dy:=by obtain⟨o,h,d⟩:=I.dy;have:=ZB (rt:=rt) (m:=m) (s2:=s2) (s4:=s4) I.pos I.qX;rwa[show(kN rt (bp m s2) s4 z false).os.length=o by exact ah [_,_,_,_] (.c 1 (-1) (.eq (.a .o .i) .u)<|.c 1 (-1) (.eq .u<|.a .w .i)<|.ge .o .w) rfl this h]
 fo:=by have:=ZB (rt:=rt) (m:=m) (s2:=s2) (s4:=s4) I.pos I.qX;show z.fo.tail.length=_;rw[List.length_tail,I.fo,<-this];rfl
 qX:=Jg I.qX
 n:=by have:=I.n;rw[iU] at this;show z.n+_=_;simp at this;omega
 li:=by show(z.line++[_]).length=_;rw[dJ,I.li];rfl
 dr:=by show(z.drawn++[_]).length=_;rw[dJ,I.dr];rfl
theorem pE.step (I:pE m k z (s::r)):pE m (k+1) (kN rt (bp m s2) s4 z s) r:=by cases s with|true=>exact I.tt|false=>exact I.ff
theorem PW:∀r z,(r.foldl (kN rt (bp m s2) s4) z).line=z.line++oA r z.n z.fo
 |[],z=>(dM _).symm|true::r,z=>by rw[fu,PW r,amb];show(z.line++[none])++_=_;rw[eJ];rfl|false::r,z=>by rw[fu,PW r,amc];show(z.line++[_])++_=_;rw[eJ];rfl
theorem PX:∀r k z,pE m k z r->∃w∈xf r z.n z.os,(r.foldl (kN rt (bp m s2) s4) z).drawn=z.drawn++w
 |[],k,z,I=>⟨[],.head _,(dM _).symm⟩|true::r,k,z,I=>by obtain⟨w,h1,h2⟩:=PX r (k+1) _<|I.tt;refine⟨none::w,cu.mpr ⟨w,h1,rfl⟩,?_⟩;rw[fu,h2];show(z.drawn++[none])++_=_;rw[eJ];rfl|false::r,k,z,I=>by obtain⟨w,h1,h2⟩:=PX r (k+1) _<|I.ff;refine⟨some (vA rt (bp m s2) s4 z)::w,List.mem_flatMap.mpr ⟨_,(Jo I.pos).2.2,cu.mpr ⟨w,h1,rfl⟩⟩,?_⟩;rw[fu,h2];show(z.drawn++[_])++_=_;rw[eJ];rfl
theorem PY:∀(r:List Bool) z,(r.foldl (kN rt (bp m s2) s4) z).n=z.n+r.count true∧(r.foldl (kN rt (bp m s2) s4) z).c=z.c+r.count false
 |[],z=>⟨rfl,rfl⟩|true::r,z=>by
  obtain⟨h1,h2⟩:=PY r<|kN rt (bp m s2) s4 z true;rw[fu,h1,h2,iU,iU];constructor
  ·simp;exact Aa
  show z.c+_=_;simp
 |false::r,z=>by
  obtain⟨h1,h2⟩:=PY r<|kN rt (bp m s2) s4 z false;rw[fu,h1,h2,iU,iU];constructor
  ·show z.n+_=_;simp
  simp;exact Aa
end
theorem Jp:∀sg (c k:Nat),(dS sg c)[k]?=(sg[k]?).map λs=>if s then some (c+(sg.take k).count true) else none
 |[],c,k=>rfl|true::r,c,0=>rfl|false::r,c,0=>rfl|true::r,c,k+1=>by rw[Zr,re,re,Jp r,RV,iU];simp [RR,zR 1]|false::r,c,k+1=>by rw[Zs,re,re,Jp r,RV,iU];simp
theorem Jq b  w v:cm b (w++v)=cm b w++cm b v:=fU
theorem Jr {w:List (Option Nat)}:∀x∈cm b w,x.length<=1:=λx hx=>by obtain⟨o,_,rfl⟩:=cu.mp hx;cases o with|none=>exact dQ _|some i=>exact aG 1
section
variable {rt:Bool}{m b s2 s4:Nat}{sg:List Bool}
theorem ZC {i:Nat}(h:sg[i]?=some s):oB rt (bp m s2) s4 sg (i+1)=kN rt (bp m s2) s4 (oB rt (bp m s2) s4 sg i) s:=by rw[oB,aa2,h,aqS];rfl
theorem Js (hs:sg∈ju (2*m) 0)(hc:sg.count true=m):∀i≤2*m,pE m i (oB rt (bp m s2) s4 sg i) (sg.drop i)
 |0,x=>⟨(xg hs).1,rfl,.head _,by show 0+_=m;rw[lq];exact hc,rfl,rfl⟩|i+1,h=>by
  have hi:i<sg.length:=by rw[(xg hs).2.1];exact h
  have I:=Js hs hc i<|aqO h;rw[Ky hi] at I;rw[ZC<|bA hi];exact I.step
theorem aml {nm:List Str}(hn:nm=(aK m).map (fN b))(hm:m<=5)(hs:sg∈ju (2*m) 0)(hc:sg.count true=m){cs:List Nat} ln (sX:cs.length<=1000){i:Nat}(hi:i<2*m):Br nm (d0 nm s2) rt (cm b (dS sg 0)) sg s4 i (lT rt (bp m s2) b cs ln (oB rt (bp m s2) s4 sg i)) (lT rt (bp m s2) b cs ln (oB rt (bp m s2) s4 sg (i+1))):=by
 have hl:i<sg.length:=by rwa[(xg hs).2.1]
 have I:=Js (rt:=rt) (s2:=s2) (s4:=s4) hs hc i<|Ff hi;rw[Ky hl] at I;have eg:=bA hl;have pa:=Jp sg 0 i;rw[eg,lq] at pa;obtain⟨nn,cc⟩:=PY (sg.take i) BG;rw[ZC eg];change (oB rt (bp m s2) s4 sg i).n=0+_ at nn;change (oB rt (bp m s2) s4 sg i).c=0+_ at cc;rw[lq] at nn cc;generalize oB rt (bp m s2) s4 sg i=z at *;have zr:(cm b<|dS sg 0)[i]?=((if sg[i] then some ((sg.take i).count true) else none).map<|fN b).getD "":=by rw[cm,dN,pa];rfl
 have wB:z.os.length<=5:=by
  have h1:=(zo<|Jf I.qX<|5-z.n);have h2:=I.n;rw[show z.n+(5-z.n)=5 by exact u8 h2 hm] at h1;have h3:∀os∈kM 5,os.length<=5:=by decide
  exact h3 _ (by have:=Jf I.qX<|5-z.n;rwa[show z.n+(5-z.n)=5 by exact u8 h2 hm] at this)
 have qY:∀w:List (Option Nat),(cm b w).length=w.length:=λw=>aV ..;have Jt:z.line.length<=100∧z.drawn.length<=100:=by rw[I.li,I.dr];lia
 have gw:((eA rt (bp m s2) z.os).map<|fN b).length=z.os.length:=by rw[aV,zp]
 have PZ:=I.n;cases si:sg[i] with
 |true=>
  rw[si] at I zr;rw[if_pos rfl,<-nn] at zr;have n5:z.n<m:=by rw[iU] at PZ;simp [si] at PZ;exact FL PZ
  have Ju:jb rt (d0 nm s2) (fN b z.n) ((eA rt (bp m s2) z.os).map<|fN b)=(eA rt (bp m s2)<|z.os++[z.n]).map (fN b):=by rw[amh hn hm,alD (by exact o3 n5 hm) I.qX]
  have my:=λx hx=>hn▸cu.mpr ⟨x,gz.mpr hx,rfl⟩;have e:lT rt (bp m s2) b cs ln (kN rt (bp m s2) s4 z true)= {lT rt (bp m s2) b cs ln z with pb:=(lT rt (bp m s2) b cs ln z).pb++[fN b z.n],line:=(lT rt (bp m s2) b cs ln z).line++[("":Str)],drawn:=(lT rt (bp m s2) b cs ln z).drawn++[("":Str)],row:=jb rt (d0 nm s2) (fN b z.n) (lT rt (bp m s2) b cs ln z).row,eM:=(lT rt (bp m s2) b cs ln z).eM++[false]}:=by show de.mk cs ln ((z.fo++[z.n]).map<|fN b) (cm b<|z.line++[none]) (cm b<|z.drawn++[none]) ((eA rt (bp m s2)<|z.os++[z.n]).map<|fN b) (cD (z.n+1) false)=de.mk cs ln _ _ _ (jb rt (d0 nm s2) (fN b z.n)<|(eA rt (bp m s2) z.os).map<|fN b) _;rw[Ju,fU,Jq,Jq,aqF];rfl
  rw[e];have hm1:∀v,v∈(eA rt (bp m s2)<|z.os++[z.n]).map (fN b)↔v=fN b z.n∨v∈(eA rt (bp m s2) z.os).map (fN b):=λv=>by
   rw[cu,cu];constructor
   ·rintro ⟨y,hy,rfl⟩;rcases f7.mp (xe.mp hy) with h|h
    ·exact .inr ⟨y,xe.mpr h,rfl⟩
    cases gV.mp h;exact .inl rfl
   rintro (rfl|⟨y,hy,rfl⟩)
   ·exact⟨_,xe.mpr<|f7.mpr<|.inr<|.head _,rfl⟩
   exact⟨y,xe.mpr<|f7.mpr<|.inl<|xe.mp hy,rfl⟩
  have wx:=Zj I.qX;have h5:z.os++[z.n]∈kM 5:=by have:=Jf wx<|5-(z.n+1);rwa[show z.n+1+(5-(z.n+1))=5 by lia] at this
  have bJ:((eA rt (bp m s2)<|z.os++[z.n]).map<|fN b).length=z.os.length+1:=by rw[aV,zp,dJ];rfl
  have P1:z.os.length+1<=5:=by
   have h3:∀os∈kM 5,os.length<=5:=by decide
   have:=h3 _ h5;rwa[dJ] at this
  refine .mA zr (zk b _) (by show 1<2^17;decide) (my _ n5) (λv hv=>?_) (by show(z.fo.map<|fN b).length<=100;rw[aV,I.fo];exact ah [_,_] (.le (.a .o .i) (.n 5)<|.gl .o<|.n 100) rfl P1) (by show(cm b z.line).length<=100;rw[qY];exact Jt.1) (by show(cm b z.drawn).length<=100;rw[qY];exact Jt.2) (by show(cD z.n false).length<=100;exact Fm▸ah [_,_] (.lt .o .i<|.le .i (.n 5)<|.gl .o<|.n 100) rfl n5 hm) (by show((eA rt (bp m s2) z.os).map<|fN b).length<=10;exact gw▸ah [_,_] (.le (.a .o .i) (.n 5)<|.gl .o .t) rfl P1) ?_ ?_ ?_
  ·obtain⟨y,hy,rfl⟩:=cu.mp hv;exact my y<|xu ((zo I.qX).1 y<|xe.mp hy) n5
  ·show tJ ((jb rt (d0 nm s2) (fN b z.n)<|(eA rt (bp m s2) z.os).map<|fN b).map _)=some (aK (jb rt (d0 nm s2) (fN b z.n)<|(eA rt (bp m s2) z.os).map<|fN b).length);rw[Ju];have ek:((eA rt (bp m s2)<|z.os++[z.n]).map<|fN b).map (vn nm (d0 nm s2) rt)=(eA rt (bp m s2)<|z.os++[z.n]).map (Em rt<|bp m s2):=by rw[fV];exact vZ λy hy=>amj hn hm (by have:=(zo wx).1 y<|xe.mp hy;exact ah [_,_,_] (.lt .o (.a .i .j)<|.lt .i .u<|.gt .o .u) rfl this n5)
   have:=alJ (alE (rt:=rt) (m:=m) (s2:=s2) h5) (by rwa[aV,zp,dJ]);rw[ek,this,aV,aV]
  ·intro v;exact Ju▸hm1 v
  show(jb rt (d0 nm s2) (fN b z.n)<|(eA rt (bp m s2) z.os).map<|fN b).length=((eA rt (bp m s2) z.os).map<|fN b).length+1;rw[Ju,bJ,gw]
 |false=>
  rw[si] at I zr;have hp:=I.pos;cases Qa:z.fo with
  |nil=>have:=I.fo;rw[Qa] at this;rw[<-this] at hp;exact absurd hp (J' _)|cons p ps=>
   obtain⟨p1,p2,p3⟩:=Jo hp;have e:lT rt (bp m s2) b cs ln (kN rt (bp m s2) s4 z false)= {lT rt (bp m s2) b cs ln z with pb:=ps.map<|fN b,line:=(lT rt (bp m s2) b cs ln z).line++[fN b p],drawn:=(lT rt (bp m s2) b cs ln z).drawn++[fN b<|vA rt (bp m s2) s4 z],row:=(lT rt (bp m s2) b cs ln z).row.eraseIdx (s4/5^z.c%z.os.length)}:=by show de.mk cs ln (z.fo.tail.map<|fN b) (cm b<|z.line++[z.fo.head?]) (cm b<|z.drawn++[some<|vA rt (bp m s2) s4 z]) ((eA rt (bp m s2) (kN rt (bp m s2) s4 z false).os).map<|fN b) (cD z.n false)=de.mk cs ln _ _ _ (((eA rt (bp m s2) z.os).map<|fN b).eraseIdx _) _;rw[<-Pi,ZA hp I.qX,Jq,Jq,Qa];rfl
   rw[e];exact .cls zr (Ff hl) (by show z.fo.map (fN b)=_;rw[Qa];rfl) (by show _=s4/5^((sg.take i).count false)%((eA rt (bp m s2) z.os).map<|fN b).length;rw[gw,cc]) (by show((eA rt (bp m s2) z.os).map<|fN b)[_]?=_;rw[dN,p2];rfl) sX (by show(z.fo.map<|fN b).length<=100;rw[aV,I.fo];exact ah [_] (.le .o (.n 5)<|.gl .o<|.n 100) rfl wB) (by show(cm b z.line).length<=100;rw[qY];exact Jt.1) (by show(cm b z.drawn).length<=100;rw[qY];exact Jt.2) (by show((eA rt (bp m s2) z.os).map<|fN b).length<=10;exact gw▸KY wB)
theorem amn (hs:sg∈ju (2*m) 0)(hc:sg.count true=m):∃w∈xf sg 0 [],∀cs ln,lT rt (bp m s2) b cs ln (oB rt (bp m s2) s4 sg (2*m))=⟨cs,ln,[],cm b (oA sg 0 []),cm b w,[],cD m false⟩:=by
 have hl:=(xg hs).2.1;have I:=Js (rt:=rt) (s2:=s2) (s4:=s4) hs hc (2*m)<|aG _;rw[<-hl,List.drop_length] at I;obtain⟨w,h1,h2⟩:=PX (rt:=rt) (s2:=s2) (s4:=s4) sg 0 BG<|Js (rt:=rt) (s2:=s2) (s4:=s4) hs hc 0<|dQ _;have h3:=PW (rt:=rt) (m:=m) (s2:=s2) (s4:=s4) sg BG;refine⟨w,h1,λcs ln=>?_⟩;have ea:oB rt (bp m s2) s4 sg (2*m)=sg.foldl (kN rt (bp m s2) s4) BG:=by rw[oB,<-hl,B7]
 rw[<-hl] at ea;rw[<-hl,ea];rw[ea] at I;generalize sg.foldl (kN rt (bp m s2) s4) BG=z at *;have o0:=Fj I.dy;have f0:=Fj (by rw[I.fo,o0];rfl);have n0:z.n=m:=I.n;show de.mk cs ln (z.fo.map<|fN b) (cm b z.line) (cm b z.drawn) ((eA rt (bp m s2) z.os).map<|fN b) (cD z.n false)=_;rw[f0,o0,n0,h2,h3];cases rt<;>rfl
end
end
section
open Builtin Builtin.Str StrLaws
theorem ZD {x:Str}(oQ:a<=b)(hb:b<=x.length):(gD x (some (a:Int)) (some (b:Int))).cps.toList=(x.cps.toList.drop a).take (b-a):=by have:gD x (some a) (some b)=sliceText x (some a) (some b):=rfl;rw[this,sliceText_nat x oQ hb]
theorem amo {x:Str}(ha:a<=x.length):(gD x (some (a:Int)) none).cps.toList=x.cps.toList.drop a:=by
 have:gD x (some a) none=gD x (some a) (some<|x.length):=by unfold gD;rw[sliceIdx_none_hi]
 rw[this,ZD ha<|aG _];apply uc;rw[jA,v0];exact aG _
inductive UL:List Bool->List Nat->List Nat->Prop|nil:UL [] [] []|mA {bs r t} (c:Nat):UL bs r t->UL (true::bs) (40::92::c::r) (40::92::c::t)|cls {bs r t}:UL bs r t->UL (false::bs) (41::r) (41::t)|fY {bs r t}:UL bs r t->UL (false::bs) (41::92::41::r) (41::92::41::t)|q1 {bs r t} (k:Nat):k≠34->k≠92->UL bs r t->UL (false::bs) (41::34::k::34::r) (41::t)|q2 {bs r t}:UL bs r t->UL (false::bs) (41::34::92::34::41::34::r) (41::t)|q0 {bs r t}:UL bs r t->UL (false::bs) (41::34::34::r) (41::t)
noncomputable def nt (aE:List Str):List Nat:=(aE.map λp=>p.cps.toList).flatten
theorem kO {i k:Nat}(h:k≠92):gS i false (k::r)=(i,⟨#[k]⟩)::gS (i+1) false r:=if_neg h
theorem Ep {i k:Nat}:gS i false (92::k::r)=(i+1,m7++⟨#[k]⟩)::gS (i+2) false r:=rfl
theorem BH {x:Str}{p:Nat}(h:d4 s dq=false):eK x z (p,s)=z:=by unfold eK;rw[if_neg<|h▸fL]
theorem amp {k:Nat}(h:k≠34):d4 ⟨#[k]⟩ dq=false:=by rw[show dq=⟨#[34]⟩ from rfl,n9];exact decide_eq_false h
theorem BI {x:Str}{p:Nat}:eK x z (p,⟨#[41]⟩)=z:=BH rfl
theorem amq {x:Str}{p:Nat}:eK x z (p,⟨#[40]⟩)=z:=BH rfl
theorem Qb k:d4 (m7++⟨#[k]⟩) dq=false:=rfl
theorem Qc {x:Str}{st p:Nat}{aE:List Str}:eK x ⟨st,none,aE⟩ (p,dq)=⟨st,some p,aE⟩:=rfl
theorem Qd {x:Str}{st o p:Nat}{aE:List Str}(h:st≠o):eK x ⟨st,some o,aE⟩ (p,dq)=⟨p+1,none,aE++[gD x (some (st:Int)) (some (o:Int))]⟩:=by unfold eK;rw[if_pos<|show d4 dq dq=true from rfl];dsimp only;rw[if_neg h]
theorem ZE aE  s:nt (aE++[s])=nt aE++s.cps.toList:=by unfold nt;rw[fU,List.flatten_append,eC,abQ,RW,List.flatten_nil,dM]
theorem ZF {α:Type}{xs u r:List α}{s i n:Nat}(hs:s<=i)(hd:xs.drop i=u++r)(hn:u.length=n):(xs.drop s).take (i+n-s)=(xs.drop s).take (i-s)++u:=by
 have e:(xs.drop s).drop (i-s)=u++r:=by rwa[v7,show s+(i-s)=i by exact u2 hs]
 rw[show i+n-s=(i-s)+n by exact u1 hs,List.take_add,e,<-hn,List.take_left]
theorem ZG {α:Type}{xs u r:List α}{i n:Nat}(hd:xs.drop i=u++r)(hn:u.length=n):xs.drop (i+n)=r:=by rw[<-v7,hd,<-hn,List.drop_left]
theorem amr {x:Str}:∀{bs} {r t},UL bs r t->∀i s aE,x.cps.toList.drop i=r->s<=i->i<=x.length->∃s' lf,(gS i false r).foldl (eK x) ⟨s,none,aE⟩=⟨s',none,lf⟩∧s'<=x.length∧nt lf++x.cps.toList.drop s'=nt aE++(x.cps.toList.drop s).take (i-s)++t:=by
 have bJ:x.length=x.cps.toList.length:=v0.symm;have lt:∀{u r:List Nat} {i n:Nat},x.cps.toList.drop i=u++r->u.length=n->i<=x.length->i+n<=x.length:=λ{u r i n} h hn hi=>by have:=congrArg oG h;rw[jA,dJ,hn] at this;rw[bJ] at hi ⊢;exact Nat.add_le_of_le_sub' hi<|this▸vH n r.length
 have plain:∀{bs:List Bool} {u r t:List Nat} {n:Nat},u.length=n->(∀(i s) aE,x.cps.toList.drop i=r->s<=i->i<=x.length->∃s' lf,(gS i false r).foldl (eK x) ⟨s,none,aE⟩=⟨s',none,lf⟩∧s'<=x.length∧nt lf++x.cps.toList.drop s'=nt aE++(x.cps.toList.drop s).take (i-s)++t)->
  (∀i s aE,(gS i false<|u++r).foldl (eK x) ⟨s,none,aE⟩=(gS (i+n) false r).foldl (eK x) ⟨s,none,aE⟩)->∀(i s) aE,x.cps.toList.drop i=u++r->s<=i->i<=x.length->∃s' lf,(gS i false<|u++r).foldl (eK x) ⟨s,none,aE⟩=⟨s',none,lf⟩∧s'<=x.length∧nt lf++x.cps.toList.drop s'=nt aE++(x.cps.toList.drop s).take (i-s)++(u++t):=by
  intro bs u r t n hn ih h i s aE hd hs hi;obtain⟨s',lf,h1,h2,h3⟩:=ih (i+n) s aE (ZG hd hn) (uh hs)<|lt hd hn hi;refine⟨s',lf,by rw[h,h1],h2,?_⟩;rw[h3,ZF hs hd hn,eJ,eJ,eJ]
 have Qe:∀{bs:List Bool} {u r t:List Nat} {n:Nat},u.length+1=n->(∀(i s) aE,x.cps.toList.drop i=r->s<=i->i<=x.length->∃s' lf,(gS i false r).foldl (eK x) ⟨s,none,aE⟩=⟨s',none,lf⟩∧s'<=x.length∧nt lf++x.cps.toList.drop s'=nt aE++(x.cps.toList.drop s).take (i-s)++t)->
  (∀i s aE,s≠i+1->(gS i false<|41::u++r).foldl (eK x) ⟨s,none,aE⟩=(gS (i+n) false r).foldl (eK x) ⟨i+n,none,aE++[gD x (some s)<|some<|(i+1:Nat)]⟩)->∀(i s) aE,x.cps.toList.drop i=41::u++r->s<=i->i<=x.length->∃s' lf,(gS i false<|41::u++r).foldl (eK x) ⟨s,none,aE⟩=⟨s',none,lf⟩∧s'<=x.length∧nt lf++x.cps.toList.drop s'=nt aE++(x.cps.toList.drop s).take (i-s)++(41::t):=by
  intro bs u r t n hn ih h i s aE hd hs hi;have mU:=hn;have d6:=lt hd mU hi;obtain⟨s',lf,h1,h2,h3⟩:=ih (i+n) (i+n) (aE++[gD x (some s)<|some<|(i+1:Nat)]) (ZG hd mU) (aG _) d6;refine⟨s',lf,by rw[h i s aE<|ah [_,_] (.le .o .i<|.g (-1) 0<|.no<|.eq .o<|.a .i .j) rfl hs,h1],h2,?_⟩;rw[h3,fk,List.take_zero,dM,ZE,ZD (by exact uh hs) (by exact ah [_,_,_,_,_] (.eq (.a .o .i) .u<|.le (.a .w .u) .x<|.gl (.a .w .i) .x) rfl hn d6),ZF (u:=[41]) (n:=1) hs hd rfl,eJ,eJ,eJ];rfl
 intro bs r t h;induction h with|nil=>intro i s aE hd hs hi;refine⟨s,aE,rfl,by exact acb hs hi,?_⟩;rw[dM,uc];have:=congrArg oG hd;rw[jA] at this;exact jA▸Nat.sub_le_sub_right (ap2 this) s|@mA bs r t c h ih=>exact plain (bs:=bs) (u:=[40,92,c]) (n:=3) rfl ih λi s aE=>by rw[fM,kO (by decide),fM,fM,Ep,fu,fu,amq,BH<|Qb c];rfl|@cls bs r t h ih=>exact plain (bs:=bs) (u:=[41]) (n:=1) rfl ih λi s aE=>by rw[fM,kO (by decide),fu,BI];rfl|@fY bs r t h ih=>exact plain (bs:=bs) (u:=[41,92,41]) (n:=3) rfl ih λi s aE=>by rw[fM,kO (by decide),fM,fM,Ep,fu,fu,BI,BH<|Qb 41];rfl|@q1 bs r t k h1 h2 h ih=>exact Qe (bs:=bs) (u:=[34,k,34]) (n:=4) rfl ih λi s aE cz=>by rw[fM,kO (by decide),fM,kO (by decide),fM,kO h2,fM,kO (by decide),fu,fu,fu,fu,BI];show abX _ (eK x (eK x (eK x ⟨s,none,aE⟩ (i+1,dq)) _) (i+1+1+1,dq)) _=_;rw[Qc,BH<|amp h1,Qd cz];rfl|@q2 bs r t h ih=>exact Qe (bs:=bs) (u:=[34,92,34,41,34]) rfl ih λi s aE cz=>by rw[fM,kO (by decide),fM,kO (by decide),fM,fM,Ep,fM,kO (by decide),fM,kO (by decide),fu,fu,fu,fu,fu,BI];show abX _ (eK x (eK x (eK x (eK x ⟨s,none,aE⟩ (i,⟨#[41]⟩)) (i+1,dq)) _) (i+5,dq)) _=_;rw[BI,Qc,BH<|Qb 34,Qd cz];rfl|@q0 bs r t h ih=>exact Qe (bs:=bs) (u:=[34,34]) (n:=3) rfl ih λi s aE cz=>by rw[fM,kO (by decide),fM,kO (by decide),fM,kO (by decide),fu,fu,fu,BI];show abX _ (eK x (eK x ⟨s,none,aE⟩ (i+1,dq)) (i+1+1,dq)) _=_;rw[Qc,Qd cz];rfl
theorem ZH {t:List Nat}(h:UL bs r t):pf false r=false∧pf false t=false:=by induction h with|nil=>exact⟨rfl,rfl⟩|mA c h ih=>exact ih|cls h ih=>exact ih|fY h ih=>exact ih|q1 k h1 h2 h ih=>exact⟨by show pf (k==92) (34::_)=false;rw[beq_eq_false_iff_ne.mpr h2];exact ih.1,ih.2⟩|q2 h ih=>exact ih|q0 h ih=>exact ih
theorem ams {t:List Nat}(h:UL bs r t):34∈r∨r=t:=by induction h with|nil=>exact .inr rfl|mA c h ih=>exact ih.elim (λh=>.inl<|.tail _<|.tail _<|.tail _ h) λh=>.inr (by rw[h])|cls h ih=>exact ih.elim (λh=>.inl<|.tail _ h) λh=>.inr (by rw[h])|fY h ih=>exact ih.elim (λh=>.inl<|.tail _<|.tail _<|.tail _ h) λh=>.inr (by rw[h])|q1 k h1 h2 h ih=>exact .inl (.tail _<|.head _)|q2 h ih=>exact .inl (.tail _<|.head _)|q0 h ih=>exact .inl<|.tail _<|.head _
noncomputable def cpB (o:Option Int):Bool:=match o with
 |none=>false|some o=>o==0
theorem amw {p:Nat}{o:Int}:j1 ((p,⟨#[40]⟩)::r) o=j1 r (o+1):=by rw[Dx,if_pos<|show d4 ⟨#[40]⟩ mA=true from rfl]
theorem ZI {p:Nat}{o:Int}(h1:d4 s mA=false)(h2:d4 s cls=false):j1 ((p,s)::r) o=j1 r o:=by rw[Dx,if_neg (by rw[h1];exact fL),if_neg<|by rw[h2];exact fL]
theorem ZJ {p:Nat}:j1 ((p,⟨#[41]⟩)::r) 0=none:=by rw[Dx,if_neg (by rw[show d4 ⟨#[41]⟩ mA=false from rfl];exact fL),if_pos (show d4 ⟨#[41]⟩ cls=true from rfl),if_pos<|by decide]
theorem ZK {p:Nat}{o:Nat}:j1 ((p,⟨#[41]⟩)::r) ((o+1:Nat):Int)=j1 r (o:Int):=by rw[Dx,if_neg (by rw[show d4 ⟨#[41]⟩ mA=false from rfl];exact fL),if_pos (show d4 ⟨#[41]⟩ cls=true from rfl),if_neg<|by exact ah [_] (.g 1 0<|.no<|.it (.s (.c<|.a .o .j) .j) .k) rfl];congr 1;exact ah [_] (.g 1 1<|.ie (.s (.c<|.a .o .j) .j)<|.c .o) rfl
set_option tactic.hygienic true in
theorem amx:∀{bs} {r t},UL bs r t->∀(i o:Nat),cpB (j1 (gS i false t) (o:Int))=kL bs o:=by
 intro bs r t h;induction h with
 |nil=>intro i o;cases o<;>rfl|mA c h ih=>intro i o;rw[kO (by decide),Ep,amw,ZI rfl rfl];exact ih (i+1+2) (o+1)|fY h ih=>
  intro i o;cases o with
  |zero=>rw[kO (by decide),show((0:Nat):Int)=0 from rfl,ZJ];rfl|succ o=>rw[kO (by decide),Ep,ZK,ZI rfl rfl];exact ih _ o
 |_=>rename_i ih;intro i o;cases o with|zero=>rw[kO (by decide),show((0:Nat):Int)=0 from rfl,ZJ];rfl|succ o=>rw[kO (by decide),ZK];exact ih _ o
theorem ZL {x:Str}{t:List Nat}(h:UL bs x.cps.toList t):m9 x=kL bs 0:=by
 have e:=(show (j0 x).cps.toList=t from by
  unfold j0;by_cases hq:ko dq x=true
  ·rw[if_pos hq,Ix];have he:kG x=gS 0 false x.cps.toList:=by rw[kG,(ZH h).1,if_neg fL,dM]
   obtain⟨s,aE,h1,h2,h3⟩:=amr h 0 0 [] rfl (aG _) (dQ _);have e:pg x=⟨s,none,aE⟩:=by rw[pg,he,h1]
   change nt (tE x)=t;have h4:nt aE++x.cps.toList.drop s=t:=h3;rw[tE,e];dsimp only;split
   ·rw[ZE,amo h2,h4]
   rw[<-h4,abp<|v0▸Q0 (by assumption),dM]
  rw[if_neg hq];exact(ams h).elim (λh=>absurd ((by apply(found_iff x dq).mpr;obtain⟨i,hi,e⟩:=pN.mp h;refine⟨i,by rw[show dq.length=1 from rfl];rw[v0] at hi;exact hi,?_⟩;rw[subAt_eq,show dq.length=1 from rfl];exact(take1_drop (c:=34)).mpr<|by rw[bA hi,e])) hq) id)
 have:kG (j0 x)=gS 0 false t:=by rw[kG,e,(ZH h).2,if_neg fL,dM]
 rw[<-amx h 0 0,<-this];rfl
theorem ZM:∀j<6,∀{bs} {r t},UL bs r t->∃t',UL (false::bs) ((((")":Str)++iP.getD j "").cps.toList)++r) t'
 |0,x,u,z,w,h=>⟨_,.cls h⟩|1,x,u,z,w,h=>⟨_,.q1 41 (by decide) (by decide) h⟩|2,x,u,z,w,h=>⟨_,.q1 40 (by decide) (by decide) h⟩|3,x,u,z,w,h=>⟨_,.fY h⟩|4,x,u,z,w,h=>⟨_,.q2 h⟩|5,x,u,z,w,h=>⟨_,.q0 h⟩|n+6,hn,x,u,z,w=>absurd hn<|ah [_,_] (.g 1 0<|.no<|.lt (.a .o .i) .i) rfl
section
variable {b ph:Nat}{j:Nat}(hj:j<6){sg:List Bool}
include hj
theorem amy {k:Nat}{t:List Nat}(hk:k<sg.length)(h:UL bs r t):∃t',UL (sg.getD k false::bs) ((lN (cm b (dS sg 0)) (iP.getD j "") ph k).cps.toList++r) t':=by
 have pa:=Jp sg 0 k;rw[bA hk] at pa;have e1:sg.getD k false=sg[k]:=by rw[ed,bA hk];rfl
 have zr:(cm b<|dS sg 0).getD k ""=((if sg[k] then some (0+(sg.take k).count true) else none).map<|fN b).getD "":=by rw[ed,cm,dN,pa];rfl
 unfold lN;rw[zr,e1];cases sg[k] with
 |true=>rw[if_pos rfl];show∃t',UL (true::bs) ((if fN b _="" then _ else("(\\")++fN b _).cps.toList++r) t';exact if_neg (zk b _)▸⟨_,.mA _ h⟩|false=>
  rw[if_neg fL];show∃t',UL (false::bs) ((if("":Str)="" then(")")++(if k%3=ph then iP.getD j "" else"") else _).cps.toList++r) t';rw[if_pos rfl];split
  ·exact ZM j hj h
  exact ZM 0 (by decide) h
theorem Qf:∀(ks:List Nat),(∀k∈ks,k<sg.length)->∃t,UL (ks.map λk=>sg.getD k false) (gY "" (ks.map (lN (cm b (dS sg 0)) (iP.getD j "") ph))).cps.toList t
 |[],x=>⟨[],.nil⟩|k::ks,h=>by obtain⟨t,u⟩:=Qf ks λq hq=>h q<|.tail _ hq;obtain⟨t',u'⟩:=amy hj (h k<|.head _) u;rw[Ix] at u' ⊢;exact⟨t',u'⟩
omit hj in
theorem ZN:(aK sg.length).map (λk=>sg.getD k false)=sg:=by
 refine Ku (by simp) λi h1 h2=>?_
 rw[List.getElem_map,List.getElem_range,ed,bA h2];rfl
theorem amz {units:List Str}{n:Nat}(hn:sg.length=n)(hu:(aK n).map (lN (cm b (dS sg 0)) (iP.getD j "") ph)=units) p q:m9 (gY "" (jc units p q))=kL (k9 sg p q) 0:=by
 subst hn;subst hu;obtain⟨t,u⟩:=Qf hj (((aK sg.length).drop p).take<|q+1-p) λk hk=>gz.mp<|Sa<|B4 hk;have e1:(((aK sg.length).drop p).take<|q+1-p).map (λk=>sg.getD k false)=k9 sg p q:=by rw[oH,rn,ZN];rfl
 rw[e1,oH,rn] at u;exact ZL u
theorem amA {units:List Str}{n:Nat}(hn:sg.length=n)(hu:(aK n).map (lN (cm b (dS sg 0)) (iP.getD j "") ph)=units) r:m9 (gY "" (fK units r))=kL (fK sg r) 0:=by
 subst hn;subst hu;obtain⟨t,u⟩:=Qf hj (fK (aK sg.length) r) λk hk=>gz.mp<|(f7.mp hk).elim Sa B4;have e1:(fK (aK sg.length) r).map (λk=>sg.getD k false)=fK sg r:=by rw[fK,fU,oH,rn,ZN];rfl
 have e2:(fK (aK sg.length) r).map (lN (cm b<|dS sg 0) (iP.getD j "") ph)=fK ((aK sg.length).map<|lN (cm b<|dS sg 0) (iP.getD j "") ph) r:=by rw[fK,fK,fU,oH,rn]
 rw[e1,e2] at u;exact ZL u
end
end
noncomputable def Jv (n:Nat)(k:Nat->γ):γ:=Nat.rec (motive:=λx=>γ) (k 0) (λm x=>k (m+1)) n
theorem Qg n (k:Nat->γ):Jv n k=k n:=by cases n<;>rfl
def BJ:List (Option Nat)->(List (Option Nat)->γ)->γ
 |[],k=>k []|none::r,k=>BJ r λr'=>k (none::r')|some n::r,k=>Jv n λn'=>BJ r λr'=>k (some n'::r')
theorem Es:∀l (k:List (Option Nat)->γ),BJ l k=k l
 |[],k=>rfl|none::r,k=>Es r _|some n::r,k=>(Qg n _).trans<|Es r _
def BK:List (Nat×Nat)->(List (Nat×Nat)->γ)->γ
 |[],k=>k []|(a,b)::r,k=>Jv a λa'=>Jv b λb'=>BK r λr'=>k ((a',b')::r')
theorem Et:∀l (k:List (Nat×Nat)->γ),BK l k=k l
 |[],k=>rfl|(a,b)::r,k=>(Qg a _).trans<|(Qg b _).trans<|Et r _
def Qh (n:Nat)(p0 q0:List (Nat×Nat)):Bool:=nA 2 p0.length&&(nA 2 q0.length&&BK p0 λp0=>BK q0 λq0=>(match qW p0,qW q0 with
 |some p,some q=>BK p λp=>BK q λq=>nA p.length n&&(nA q.length n&&zq p q (n-1))|x,u=>false))
theorem amB n  p0 q0:Qh n p0 q0=Jl n p0 q0:=by
 unfold Qh Jl;rw[Et,Et];cases qW p0 with
 |none=>rfl|some p=>cases qW q0 with|none=>rfl|some q=>dsimp only;rw[Et,Et]
def Qi (n:Nat)(pl w:List (Option Nat)):Bool:=match gh ft bT pl (dw w) with
 |none=>false|some out=>BJ (lc n out) λv=>match gh ft bT pl (dw v) with
   |none=>false|some lR=>PQ n out&&(sf pl w&&(sf pl v&&(bT (2*BE v) n&&(BD lR (se pl w)&&Qh n (qV pl w) (qV pl v)))))
theorem amC pl w:Qi pl.length pl w=BF pl w:=by
 unfold Qi BF;cases gh ft bT pl (dw w) with
 |none=>rfl|some out=>dsimp only;rw[Es,Jm];cases gh ft bT pl (dw<|lc pl.length out) with|none=>rfl|some lR=>rw[amB]
def pF (n:Nat)(s:List Bool):Bool:=BJ (dS s 0) λpl=>(xf s 0 []).all λw=>BJ w (Qi n pl)
theorem ZO (hs:s.length=n)(h:pF n s=true){w:List (Option Nat)}(hw:w∈xf s 0 []):BF (dS s 0) w=true:=by unfold pF at h;rw[Es] at h;have:=dI.mp h w hw;rwa[Es,<-hs,<-En s 0,amC] at this
noncomputable def xh:List Bool->List (Option Nat)->Bool
 |[],[]=>true|true::r,none::w=>xh r w|false::r,some x::w=>xh r w|x,u=>false
theorem Qj:∀{r} {n} {os} {w},w∈xf r n os->xh r w=true
 |[],n,os,w,h=>by cases gV.mp h;rfl|true::r,n,os,w,h=>by obtain⟨v,hv,rfl⟩:=cu.mp h;exact Qj (r:=r) (w:=v) hv|false::r,n,os,w,h=>by obtain⟨x,_,h⟩:=List.mem_flatMap.mp h;obtain⟨v,hv,rfl⟩:=cu.mp h;exact Qj (r:=r) (w:=v) hv
theorem Eu:∀{r} {w},xh r w=true->w.length=r.length
 |[],[],x=>rfl|[],x::u,h=>by exact nB h|true::r,none::w,h=>congrArg (· + 1) (Eu h)|false::r,some x::w,h=>congrArg (· + 1) (Eu h)|true::r,some x::w,h=>by exact nB h|false::r,none::w,h=>by exact nB h|true::r,[],h=>by exact nB h|false::r,[],h=>by exact nB h
theorem Jw:∀{r} {w} n k,xh r w=true->k<r.length->(dw (dS r n) k).isNone=(dw w k).isSome
 |true::r,none::w,n,0,h,x=>rfl|true::r,none::w,n,k+1,h,hk=>Jw (n+1) k h (z5 hk)|false::r,some x::w,n,0,h,u=>rfl|false::r,some x::w,n,k+1,h,hk=>Jw n k h (z5 hk)|[],x,n,k,u,hk=>absurd hk (zY _)|true::r,some x::w,u,o,h,z=>by exact nB h|false::r,none::w,x,u,h,o=>by exact nB h|true::r,[],x,u,h,o=>by exact nB h|false::r,[],x,u,h,o=>by exact nB h
theorem xi b  w  k:(cm b w).getD k ""=((dw w k).map (fN b)).getD "":=by unfold dw cm;rw[ed,dN];cases w[k]?<;>rfl
theorem Ev b  w  k:fA (cm b w) k=(dw w k).isSome:=by unfold fA;rw[xi];cases dw w k with|none=>rfl|some x=>show(!decide (fN b x=""))=true;rw[decide_eq_false<|zk b x];rfl
theorem ZP b  w  k:pw (cm b w) k=(dw w k).isNone:=by have:=Ev b w k;unfold fA at this;unfold pw;rw[<-abk (decide _),this];cases dw w k<;>rfl
def pG (b:Nat)(p:Nat×Nat):Nat×Str:=(p.1,fN b p.2)
def sj (P:List (Option Nat)):List Nat:=(aK P.length).filter λk=>(dw P k).isNone
theorem amD {m:Nat}{P:List (Option Nat)}(hP:P.length=2*m):D5 (cm b P) m=sj P:=by unfold D5 sj;rw[hP];congr 1;funext k;exact ZP b P k
theorem ZQ {w:List (Option Nat)}(h:xh r w=true):dY ((se (dS r n) w).map (pG b))=mH (sj (dS r n)) (cm b w):=by
 unfold dY se mH sj;rw[fV,En];have key:∀ks:List Nat,(∀k∈ks,k<r.length)->((ks.filterMap λk=>match dw (dS r n) k with
  |some u=>none|none=>(dw w k).map λx=>(k,x)).map<|(λp:Nat×Str=>(d5 p.1,p.2)) ∘ pG b)=(ks.filter λk=>(dw (dS r n) k).isNone).map λk=>(d5 k,(cm b w).getD k ""):=λks=>by
  induction ks with
  |nil=>intro _;rfl|cons k ks ih=>
   intro hk;have h1:=Jw n k h<|hk k<|.head _;have ih:=ih λj hj=>hk j<|.tail _ hj;rw[vT,sR];cases hp:dw (dS r n) k with
   |some x=>exact ih|none=>
    rw[hp] at h1;cases hw:dw w k with
    |none=>rw[hw] at h1;exact nB' h1|some x=>
     have e:(cm b w).getD k ""=fN b x:=by rw[xi,hw];rfl
     show(d5 k,fN b x)::_=(d5 k,(cm b w).getD k "")::_;rw[e];exact congrArg ((d5 k,fN b x)::·) ih
 exact key _ λk hk=>gz.mp hk
theorem ZR {k:Nat}(out:List (Nat×Nat)):((out.map (pG b)).find? λp=>bT p.1 k).map (·.2)=((out.find? λp=>bT p.1 k).map (·.2)).map (fN b):=by
 induction out with
 |nil=>rfl|cons p out ih=>rw[eC,vV,vV];show(match bT p.1 k with|true=>some (pG b p)|false=>(out.map<|pG b).find? λp=>bT p.1 k:Option (Nat×Str)).map (·.2)=_;cases bT p.1 k with|true=>rfl|false=>exact ih
theorem amE {k:Nat}{out:List (Nat×Nat)}(hk:k<n):dw (lc n out) k=(out.find? λp=>bT p.1 k).map (·.2):=by unfold dw lc;rw[dN,iS hk];rfl
theorem Qk n  out:(lc n out).length=n:=by rw[lc,aV,fb]
theorem amF {m:Nat}{out:List (Nat×Nat)}(ho:∀p∈out,p.1<10)(hm:m<=5):tW (dY (out.map (pG b))) m=cm b (lc (2*m) out):=by rw[alV (λp hp=>by obtain⟨q,hq,rfl⟩:=cu.mp hp;exact ho q hq) hm,cm,lc,fV];refine vZ λk hk=>?_;rw[ZR];rfl
theorem Jx {P w:List (Option Nat)}(hw:w.length=n):lP (cm b w) (λk=>t3 P ((dw w k).getD 0)) (aK n)=qV P w:=by
 subst hw;unfold lP qV;generalize aK w.length=ks;induction ks with
 |nil=>rfl|cons k ks ih=>rw[sR,vT,<-ih,Ev];cases hg:dw w k with|none=>rfl|some x=>show(t3 P<|(dw w k).getD 0,k)::_=(t3 P x,k)::_;rw[hg];rfl
theorem ZS {P:List (Option Nat)}{x:Nat}(h:t3 P x<P.length):(cm b P).findIdx? (λy=>y==fN b x)=some (t3 P x):=by
 have e:∀P:List (Option Nat),(cm b P).findIdx? (λy=>y==fN b x)=P.findIdx? λo=>match o with|some y=>bT y x|none=>false:=λP=>by unfold cm;rw[RX];congr 1;funext o;cases o with|none=>exact beq_eq_false_iff_ne.mpr λh=>zk b x h.symm|some y=>exact Ja b y x
 rw[e,aqU];exact⟨h,rfl⟩
theorem Jy {P w:List (Option Nat)}(h:sf P w=true){k x:Nat}(hx:dw w k=some x):2*x<P.length∧t3 P x<P.length:=by
 have hm:some x∈w:=by unfold dw at hx;cases hk:w[k]? with|none=>rw[hk] at hx;exact nS hx|some o=>rw[hk] at hx;subst hx;exact c8 hk
 have:=dI.mp h _ hm;have:=iR.mp this;exact⟨lj this.1,lj this.2⟩
theorem Ql:∀w:List (Option Nat),((cm b w).map CV.str).countP (λx=>gQ x (.str ""))=BE w
 |[]=>rfl|none::w=>by have ih:=Ql (b:=b) w;show List.countP _ (CV.str ""::(cm b w).map CV.str)=_;rw[List.countP_cons_of_pos rfl,ih];rfl|some x::w=>by show List.countP _ (CV.str (fN b x)::(cm b w).map CV.str)=_;rw[List.countP_cons_of_neg (by show¬(fN b x=="")=true;rw[beq_eq_false_iff_ne.mpr<|zk b x];exact fL),Ql (b:=b) w];rfl
set_option tactic.hygienic true in
theorem ZT {p:List (Nat×Nat)}(h:qW ps=some p):vq ps p:=by
 unfold qW at h;split at h
 ·exact nS h
 rename_i js hj;split at h
 ·rename_i ha;obtain rfl:=dE h;exact⟨js,hj,λj hj=>lj<|dI.mp ha j hj,rfl⟩
 exact nS h
theorem ZU {p:List (Nat×Nat)}:∀{g},zq p q g=true->∀k,1<=k->k<=g->jt p k=(jt q k).reverse
 |0,x,k,h1,h2=>by lia|g+1,h,k,h1,h2=>by
  rw[(show zq p q (g+1)=(bT (sb p<|g+1).1 (sb q<|g+1).2&&bT (sb p<|g+1).2 (sb q<|g+1).1&&zq p q g) from rfl),bz,bz] at h;by_cases e:k=g+1
  ·subst e;rw[Zx,Zx,mP h.1.1,mP h.1.2];rfl
  exact ZU h.2 k h1 (by lia)
def Qm (s:List Bool):List (Option Nat):=((aK s.length).filter λk=>(dw (dS s 0) k).isSome).foldl (λnest p=>match((fc (p+1) (s.length-(p+1))).filter λk=>(dw (dS s 0) k).isNone).find? λq=>kL (k9 s p q) 0 with
 |some q=>nest.set q (dw (dS s 0) p)|none=>nest) (cD s.length none)
def Jz (m:Nat)(s:List Bool):Bool:=Jk (Qm s) (vy s 0 [])&&(Jk ((sj (dS s 0)).map (dw (oA s 0 []))) ((aK m).map some)&&(xh s (oA s 0 [])&&(xh s (vy s 0 [])&&(sf (dS s 0) (oA s 0 [])&&sf (dS s 0) (vy s 0 [])))))
theorem amG:(ju 8 0).all (Jz 4)=true:=by decide +kernel
theorem amH:(ju 10 0).all (Jz 5)=true:=by decide +kernel
theorem Qn:∀{l r},Jk l r=true->l=r
 |[],[],u=>rfl|a::l,b::r,h=>by
  have h:=iR.mp h;rw[Qn h.2];congr 1
  match a,b,h.1 with
  |none,none,u=>rfl|some x,some y,e=>rw[mP e]
 |[],u::o,h=>by exact nB h|u::o,[],h=>by exact nB h
theorem amI {m:Nat}(hs:s.length=2*m):vo (λp q=>kL (k9 s p q) 0) (cm b (dS s 0)) m (lO (cm b (dS s 0)) m) (cD (2*m) "")=cm b (Qm s):=by
 unfold vo Qm lO;rw[hs,show(λk=>(dw (dS s 0) k).isSome)=fA (cm b<|dS s 0) from funext λk=>(Ev b _ k).symm,show cD (2*m) ("":Str)=cm b (cD (2*m) none) from by rw[cm,Kx];rfl];generalize (aK<|2*m).filter (fA<|cm b<|dS s 0)=ps;generalize cD (2*m) none=v;induction ps generalizing v with
 |nil=>rfl|cons p ps ih=>rw[fu,fu,<-ih];congr 1;unfold r5 mG;rw[show pw (cm b<|dS s 0)=λk=>(dw (dS s 0) k).isNone from funext λk=>ZP b _ k,xi];cases ((fc (p+1)<|2*m-(p+1)).filter λk=>(dw (dS s 0) k).isNone).find? λq=>kL (k9 s p q) 0 with|none=>rfl|some q=>exact(rp ..).symm
theorem amJ {p:α->Bool}{l:List α} n (h1:(l.take n).all p=true)(h2:(l.drop n).all p=true):l.all p=true:=by rw[<-E5 n l,RO,h1,h2];rfl
theorem w4:(ju 8 0).all (pF 8)=true:=by decide +kernel
def xj (i:Nat):List (List Bool):=((ju 10 0).drop i).take 6
theorem amK:(xj 0).all (pF 10)=true:=by decide +kernel
theorem amL:(xj 6).all (pF 10)=true:=by decide +kernel
theorem amM:(xj 12).all (pF 10)=true:=by decide +kernel
theorem amN:(xj 18).all (pF 10)=true:=by decide +kernel
theorem amO:(xj 24).all (pF 10)=true:=by decide +kernel
theorem amP:(xj 30).all (pF 10)=true:=by decide +kernel
theorem amQ:(xj 36).all (pF 10)=true:=by decide +kernel
theorem w5:(ju 10 0).all (pF 10)=true:=by
 have e:((ju 10 0).drop 42)=[]:=by decide +kernel
 have c:=λ{i:Nat} h1 (h2:((ju 10 0).drop<|i+6).all (pF 10)=true)=>amJ (l:=(ju 10 0).drop i) 6 h1 (by rwa[v7]);exact c amK (c amL<|c amM<|c amN<|c amO<|c amP<|c amQ<|by rw[e];rfl)
theorem amR {m:Nat}(hm:m=4∨m=5)(hs:s∈ju (2*m) 0)(hl:s.length=2*m){w:List (Option Nat)}(hw:w∈xf s 0 []):BF (dS s 0) w=true:=by
 rcases hm with rfl|rfl
 ·exact ZO hl (dI.mp w4 s hs) hw
 exact ZO hl (dI.mp w5 s hs) hw
theorem amS {P w:List (Option Nat)}(h:BF P w=true):∃out p q,gh ft bT P (dw w)=some out∧gh ft bT P (dw (lc P.length out))=some (se P w)∧PQ P.length out=true∧sf P w=true∧sf P (lc P.length out)=true∧2*BE (lc P.length out)=P.length∧2<=(qV P w).length∧2<=(qV P (lc P.length out)).length∧qW (qV P w)=some p∧qW (qV P (lc P.length out))=some q∧p.length<=P.length∧q.length<=P.length∧zq p q (P.length-1)=true:=by
 unfold BF at h;cases ho:gh ft bT P (dw w) with
 |none=>rw[ho] at h;exact nB h|some out=>
  rw[ho] at h;change Jm P w out _=true at h;unfold Jm at h;cases h2:gh ft bT P (dw<|lc P.length out) with
  |none=>rw[h2] at h;exact nB h|some lR=>
   rw[h2] at h;rw[bz,bz,bz,bz,bz] at h;obtain⟨a1,a2,a3,a4,a5,a6⟩:=h;unfold Jl at a6;rw[bz,bz] at a6;obtain⟨b1,b2,b3⟩:=a6;cases hp:qW (qV P w) with
   |none=>rw[hp] at b3;exact nB b3|some p=>cases hq:qW (qV P<|lc P.length out) with|none=>rw[hp,hq] at b3;exact nB b3|some q=>rw[hp,hq] at b3;rw[bz,bz] at b3;exact⟨out,p,q,rfl,by rw[h2,PR a5],a1,a2,a3,mP a4,lj b1,lj b2,rfl,hq,lj b3.1,lj b3.2.1,b3.2.2⟩
section
structure Ew:Prop where
 A:∀k,k<10->bY (mI k)
 B:∀k,k<10->bY (la k)
 C:∀k,k<10->bY (j7 k)
 S:∀k,k<10->bY (d5 k)
 z:bY "z"∧bY "Z"
 v:∀i<8,dH ⟨#[gN i]⟩
 y:dH "y"
section
variable (V:Ew){b m:Nat}(hb:b+m<=8)(hm:m<=5)
include V in
theorem Ew.name {x:Nat}(h:b+x<8):dH (fN b x):=V.v _ h
include V in
theorem Ew.G {g k:Nat}(h:k<10):bY (qN g k):=by
 unfold qN
 split
 · exact V.C k h
 · exact V.S k h
theorem BL {w:List (Option Nat)}{k:Nat}:lS (cm b w) k=(dw w k).map (fN b):=(show lS (cm b w) k=((w[k]?).getD none).map (fN b) from by
 unfold lS cm;rw[dN];cases w[k]? with
 |none=>rfl|some o=>cases o with
  |none=>rfl|some i=>show gT (fN b i)=some (fN b i);unfold gT;rw[if_neg<|zk b i])
include V hb hm in
theorem Qo {P w:List (Option Nat)}(hP:P.length=2*m)(hl:sf P w=true)(hw:w.length=2*m){g:Nat}:∀p∈d7 (cm b w) g,bY p.1∧dH p.2:=λp hp=>by
 rw[Py] at hp
 obtain⟨k,hk,rfl⟩:=cu.mp hp
 obtain⟨h1,h2⟩:=Ca.mp hk
 have h1:=gz.mp h1
 rw[cm,aV,hw] at h1
 refine⟨V.G (by exact ui h1 hm),?_⟩
 rw[BL] at h2 ⊢
 cases hx:dw w k with
 | none=>rw[hx] at h2;exact nB h2
 | some x=>
   have:=(Jy hl hx).1
   exact V.name (by exact u9 this hP hb)
theorem amT {P w:List (Option Nat)}{p:Nat×Nat}(h:p∈se P w):dw w p.1=some p.2:=by
 obtain⟨k,_,hk⟩:=E7.mp h;split at hk
 ·exact nS hk
 cases hx:dw w k with|none=>rw[hx] at hk;exact nS hk|some x=>rw[hx] at hk;obtain rfl:=dE hk;exact hx
include V hb hm in
theorem ZV {P w:List (Option Nat)}(hP:P.length=2*m)(hl:sf P w=true):∀p∈(se P w).map (pG b),dH p.2:=λp hp=>by
 obtain⟨q,hq,rfl⟩:=cu.mp hp
 have:=(Jy hl (amT hq)).1
 exact V.name (by exact u9 this hP hb)
theorem Qp {P w:List (Option Nat)}{out:List (Nat×Nat)}(ho:gh ft bT P (dw w)=some out)(hw:∀k,k<P.length->j4 k=(dw w k).map (fN b)):gh bP (·== ·) ((cm b P).map gT) j4=some (out.map (pG b)):=by rw[show(cm b P).map gT=P.map (dg<|fN b) from al2,al4 hw];show(gh ft bT P<|dw w).map _=_;rw[ho];rfl
theorem Qq:∀s:List Bool,s.count true+s.count false=s.length
 |[]=>rfl|true::s=>by have:=Qq s;rw[iU,iU];simp;exact u6 this|false::s=>by rw[iU,iU];simp;exact u7<|Qq s
end
end
theorem am1:Ew where
 A:=(by decide +kernel:∀k<10,qC.contains (mI k)=true)
 B:=(by decide +kernel:∀k<10,qC.contains (la k)=true)
 C:=(by decide +kernel:∀k<10,qC.contains (j7 k)=true)
 S:=(by decide +kernel:∀k<10,qC.contains (d5 k)=true)
 z:=(by decide +kernel:qC.contains "z"=true∧qC.contains "Z"=true)
 v:=(by decide +kernel:∀i<8,DC.contains ⟨#[gN i]⟩=true)
 y:=(by decide +kernel:DC.contains "y"=true)
theorem ad6 (a:α):∃x,x=a:=⟨a,rfl⟩
noncomputable def gW (a:α):α:=(ad6 a).choose
theorem gp:gW a=a:=(ad6 a).choose_spec
def m:Nat:=gW (if(fq e0.zs).length>3 then 5 else 4)
def sK (k:Nat):Nat:=gW ((qT (fq e0.zs)).getD k 0)
abbrev s0:Nat:=sK 0
abbrev s1:Nat:=sK 1
abbrev s2:Nat:=sK 2
abbrev s3:Nat:=sK 3
abbrev s4:Nat:=sK 4
abbrev s5:Nat:=sK 5
def ss:List Nat:=gW (qT (fq e0.zs))
theorem F0.hmm:(if(fq e0.zs).length>3 then 5 else 4)=m:=gp.symm
theorem F0.ss0:qT (fq e0.zs)=ss:=gp.symm
theorem F0.pq:ss=[s0,s1,s2,s3,s4,s5]:=by show gW _=[gW _,gW _,gW _,gW _,gW _,gW _];rw[gp,gp,gp,gp,gp,gp,gp];rfl
theorem m45:m=4∨m=5:=by
 rw[<-F0.hmm];by_cases h:(fq e0.zs).length>3
 ·rw[if_pos h];exact .inr rfl
 rw[if_neg h];exact .inl rfl
theorem F0.m0:0<m:=m45.elim (λh=>by rw[h];decide) λh=>by rw[h];decide
theorem F0.m5:m<=5:=m45.elim (λh=>by rw[h];decide) λh=>by rw[h];decide
def sg:List Bool:=gW (gU m s0)
theorem F0.xl:gU m s0=sg:=gp.symm
theorem sgD:sg∈ju (2*m) 0:=F0.xl▸al1 m45
theorem F0.D7:sg.length=2*m:=(xg sgD).2.1
theorem F0.vr:sg.count true=m:=by exact ah [_,_,_,_] (.c 1 (-1) (.eq (.a .k .o) .i)<|.c 1 (-1) (.eq (.a .o .i) .u)<|.c 1 (-1) (.eq .u<|.m 2 .w)<|.g 2 2<|.eq .o .w) rfl (xg sgD).2.2 (Qq sg) F0.D7
theorem aav:Jk (Qm sg) (vy sg 0 [])=true∧Jk ((sj (dS sg 0)).map (dw (oA sg 0 []))) ((aK m).map some)=true∧xh sg (oA sg 0 [])=true∧xh sg (vy sg 0 [])=true∧sf (dS sg 0) (oA sg 0 [])=true∧sf (dS sg 0) (vy sg 0 [])=true:=by
 have h:Jz m sg=true:=by
  have hs:=sgD;generalize sg=s at *;rcases m45 with h|h<;>rw[h] at hs ⊢
  ·exact dI.mp amG _ hs
  exact dI.mp amH _ hs
 rwa[Jz,bz,bz,bz,bz,bz] at h
def bN:Nat:=gW (s1%(9-m))
theorem bm8:bN+m<=8:=by have:=kg s1 (by exact KW F0.m5:9-m>0);rw[bN,gp];omega
def nm:List Str:=gW (kI m s1)
theorem F0.qU:kI m s1=nm:=gp.symm
theorem r0:nm=(aK m).map (fN bN):=by rw[<-F0.qU,bN,gp];exact ald F0.m0 F0.m5
theorem F0.w8:nm.length=m:=by rw[r0,aV,fb]
theorem F0.IB:nm.Nodup:=by exact r0▸Rf _ (λx x h e=>h<|Y6 e) xF
theorem F0.D8:∀x∈nm,x.length<=5∧dH x:=λx hx=>by rw[r0] at hx;obtain⟨i,hi,rfl⟩:=cu.mp hx;have:=gz.mp hi;exact⟨by show 1<=5;decide,am1.name<|u3 bm8 this⟩
def rk:List (Str×CV):=gW (d0 nm s2)
theorem F0.Z3:d0 nm s2=rk:=gp.symm
theorem F0.Bs:∀v∈nm,∃r:Nat,rk.lookup v=some (af r):=F0.Z3▸amk r0
def PL:List (Option Nat):=gW (dS sg 0)
theorem Fd:dS sg 0=PL:=gp.symm
theorem aaU:PL.length=2*m:=Fd▸(En sg 0).trans F0.D7
def pl:List Str:=gW (cm bN PL)
theorem aaP:pl=cm bN PL:=gp
theorem F0.cp:kJ sg nm=pl:=by rw[aaP,r0,pW,PJ (fN bN) sg 0 m<|ll F0.vr,Fd];rfl
theorem abU {w:List (Option Nat)}:∀x∈cm bN w,x.length<=5:=λx hx=>fC (Jr x hx) (by decide)
theorem F0.Bt:∀x∈pl,x.length<=5:=aaP▸abU
def T:Str:=gW (ou nm s2 s3)
theorem F0.hT:ou nm s2 s3=T:=gp.symm
def zc (i:Nat):List Nat:=(gi T.cps.toList i).1
def zl (i:Nat):Int:=(gi T.cps.toList i).2
theorem F0.Tl:T.length<=1000:=(alo F0.m5 r0 bm8 F0.hT).1
theorem F0.z0:zc 0=T.cps.toList∧zl 0=1:=⟨rfl,rfl⟩
theorem F0.w9:∀i,(zc i).length<=1000:=(alo F0.m5 r0 bm8 F0.hT).2.1
theorem F0.zg:∀i x,nm[i]?=some x->(bG (zc i) (zl i)).1=x∧(bG (zc i) (zl i)).2.1=zc (i+1)∧(bG (zc i) (zl i)).2.2.1=zl (i+1):=λi x hx=>⟨(alo F0.m5 r0 bm8 F0.hT).2.2.1 i x hx,rfl,rfl⟩
abbrev cs:List Nat:=zc m
abbrev ln:Int:=zl m
noncomputable def z1:List Nat×Int×List Str:=(alo F0.m5 r0 bm8 F0.hT).2.2.2.choose
noncomputable def z2:List Nat×Int×List Str:=(alo F0.m5 r0 bm8 F0.hT).2.2.2.choose_spec.choose
theorem zZ:i8 cs ln []=(("z":Str),z1)∧i8 z1.1 z1.2.1 z1.2.2=(("":Str),z2)∧(z1.1.length<=1000∧z1.2.2.length<=1000)∧z2.2.1=1+sM T "\n":=(alo F0.m5 r0 bm8 F0.hT).2.2.2.choose_spec.choose_spec
def rt:Bool:=gW (s1/15%2==0)
theorem F0.Ex:(s1/15%2==0)=rt:=gp.symm
def DD (i:Nat):de:=lT rt (bp m s2) bN cs ln (oB rt (bp m s2) s4 sg i)
theorem ao5 {k:List Nat}{l:Int}:lT r k b c l (oB r k q s 0)=⟨c,l,[],[],[],[],[]⟩:=by cases r<;>rfl
theorem F0.D0:DD 0=⟨zc m,zl m,[],[],[],[],[]⟩:=ao5
theorem F0.IE:cs.length<=1000:=F0.w9 m
theorem F0.IC:∀i,i<2*m->Br nm rk rt pl sg s4 i (DD i) (DD (i+1)):=λi hi=>by rw[<-F0.Z3,aaP,<-Fd];exact aml r0 F0.m5 sgD F0.vr ln F0.IE hi
def dW:List (Option Nat):=(amn (rt:=rt) (b:=bN) (s2:=s2) (s4:=s4) sgD F0.vr).choose
theorem aer:dW∈xf sg 0 []:=(amn sgD F0.vr).choose_spec.1
def line:List Str:=gW (cm bN (oA sg 0 []))
theorem aa4:line=cm bN (oA sg 0 []):=gp
def drawn:List Str:=gW (cm bN dW)
theorem J7:drawn=cm bN dW:=gp
def row:List Str:=gW []
def wn:Nat:=gW m
theorem F0.DE:DD (2*m)=⟨cs,ln,[],line,drawn,row,cD wn false⟩:=by rw[aa4,J7,row,wn,gp,gp];exact(amn sgD F0.vr).choose_spec.2 _ _
theorem F0.ID:wn<=10:=by rw[wn,gp];exact fC F0.m5 (by decide)
theorem aaQ:xh sg dW=true:=Qj aer
theorem aa5 {w:List (Option Nat)}:(cm bN w).length=w.length:=aV ..
theorem aaV {w:List (Option Nat)}(h:xh sg w=true):w.length=2*m:=(Eu h).trans F0.D7
theorem F0.Bu:line.length=2*m:=by rw[aa4,aa5,aaV aav.2.2.1]
theorem F0.Bv:drawn.length=2*m:=by rw[J7,aa5,aaV aaQ]
theorem F0.IF:∀x∈line,x.length<=5:=aa4▸abU
theorem F0.D9:∀x∈drawn,x.length<=5:=J7▸abU
def pc:Str:=gW (iP.getD (s3/1024%6) "")
theorem F0.Z4:iP.getD (s3/1024%6) ""=pc:=gp.symm
theorem am8:pc.length<=10:=F0.Z4▸YZ
def units:List Str:=gW ((aK (2*m)).map (lN pl pc (s1/5%3)))
theorem F0.lQ:(aK (2*m)).map (lN pl pc (s1/5%3))=units:=gp.symm
theorem F0.Bw:∀u∈units,u.length<=20:=λu hu=>by
 rw[<-F0.lQ] at hu;obtain⟨k,_,rfl⟩:=cu.mp hu;have h2:(pl.getD k "").length<=1:=by rw[aaP,xi];cases dw PL k with|none=>exact dQ _|some x=>exact aG 1
 unfold lN;split
 ·rw[jF];split
  ·exact ah [_] (.le .o .t<|.gl (.a .j .o)<|.n 20) rfl am8
  decide
 rw[jF];exact ah [_] (.le .o .j<|.gl (.a (.n 2) .o)<|.n 20) rfl h2
def tb (p q:Nat):Bool:=gW (kL (k9 sg p q) 0)
def tr (r:Nat):Bool:=gW (kL (fK sg r) 0)
theorem unE:(aK (2*m)).map (lN (cm bN (dS sg 0)) (iP.getD (s3/1024%6) "") (s1/5%3))=units:=Fd▸aaP▸F0.Z4▸F0.lQ
theorem F0.IG:∀p q,p<=q->q<units.length->m9 (gY "" (jc units p q))=tb p q:=λp q x x=>(amz (kg _<|by decide) F0.D7 unE p q).trans gp.symm
theorem F0.IH:∀p q,p<=q->q<sg.length->n7 (bh (k9 sg p q))=tb p q:=λp q x x=>(Zg _).trans gp.symm
theorem F0.Ea:∀r,r<2*m->m9 (gY "" (fK units r))=tr r:=λr x=>(amA (kg _<|by decide) F0.D7 unE r).trans gp.symm
theorem F0.Eb:∀r,r<2*m->n7 (bh (fK sg r))=tr r:=λr x=>(Zg _).trans gp.symm
def nest:List Str:=gW (cm bN (vy sg 0 []))
theorem ab8:nest=cm bN (vy sg 0 []):=gp
theorem F0.cz:vo tb pl m (lO pl m) (cD (2*m) "")=nest:=by rw[show tb=_ from funext λp=>funext λq=>gp,aaP,ab8,<-Fd,amI F0.D7,Qn aav.1]
theorem F0.Ec:nest.length=2*m:=by rw[ab8,aa5,aaV aav.2.2.2.1]
def aA:List Nat:=gW (sj PL)
theorem aa6:aA=sj PL:=gp
theorem F0.II:D5 pl m=aA:=aaP▸aa6▸amD aaU
theorem r2:(sj PL).map (dw (oA sg 0 []))=(aK m).map some:=Fd▸Qn aav.2.1
theorem ZX:aA.length=m:=by rw[aa6];have:=congrArg oG r2;rwa[aV,aV,fb] at this
theorem F0.r7:aA.length<=10:=ZX▸fC F0.m5 (by decide)
theorem enW:∀k∈aA,k<2*m∧(dw PL k).isNone=true:=λk hk=>by rw[aa6] at hk;obtain⟨h1,h2⟩:=Ca.mp hk;rw[gz,aaU] at h1;exact⟨h1,h2⟩
theorem F0.pA:∀k∈aA,k<2*m:=λk hk=>(enW k hk).1
theorem ab9 {k:Nat}(h:k∈aA):k<10:=by exact ui (F0.pA k h) F0.m5
theorem F0.IJ:aA.map (λk=>line.getD k "")=nm:=by have:=congrArg (fm λo:Option Nat=>(o.map<|fN bN).getD "") r2;rw[fV,fV] at this;rw[r0,aa6,aa4];exact Eq.trans (vZ λk x=>xi bN _ k) this
theorem acD {w:List (Option Nat)}(h:xh sg w=true):(cm bN w).length<=10:=aa5▸aaV h▸K4 F0.m5
theorem aeu {w:List (Option Nat)}(hl:sf PL w=true)(h:xh sg w=true):∀p∈d7 (cm bN w) s5,bY p.1∧dH p.2:=Qo am1 bm8 F0.m5 aaU hl<|aaV h
theorem F0.IK:∀p∈d7 line s5,bY p.1∧dH p.2:=aa4▸aeu (Fd▸aav.2.2.2.2.1) aav.2.2.1
def aaW (l:List (Nat×Nat)):List (Nat×Str):=gW (l.map (pG bN))
theorem acO {l:List (Nat×Nat)}:aaW l=l.map (pG bN):=gp
theorem aex {w:List (Option Nat)}(hl:sf PL w=true):∀p∈aaW (se PL w),dH p.2:=acO▸ZV am1 bm8 F0.m5 aaU hl
abbrev pC:List (Nat×Str):=aaW (se PL (vy sg 0 []))
theorem F0.IL:∀p∈pC,dH p.2:=aex<|Fd▸aav.2.2.2.2.2
theorem ac3 {w:List (Option Nat)}{l:List (Nat×Nat)}(h:gh ft bT PL (dw w)=some l)(hf:∀k,k<10->k<2*m->f k=(dw w k).map (fN bN)):gh bP (·== ·) (pl.map gT) f=some (aaW l):=by rw[aaP,acO];exact Qp h λk hk=>hf k (u5 hk aaU F0.m5) (by rwa[aaU] at hk)
theorem F0.IM:gh bP (·== ·) (pl.map gT) (jI (d7 line s5))=some pC:=
 ac3 (Fd▸amf m45 sgD) λk hk x=>by rw[aa4,alP (acD aav.2.2.1) hk,BL]
theorem aeH {w:List (Option Nat)}(h:xh sg w=true):dY (aaW (se PL w))=mH aA (cm bN w):=acO▸aa6▸Fd▸ZQ h
theorem F0.IN:dY pC=mH aA nest:=ab8▸aeH aav.2.2.2.1
theorem hck:BF PL dW=true:=Fd▸amR m45 sgD F0.D7 aer
noncomputable def out:List (Nat×Nat):=(amS hck).choose
noncomputable def gH:List (Nat×Nat):=(amS hck).choose_spec.choose
noncomputable def gI:List (Nat×Nat):=(amS hck).choose_spec.choose_spec.choose
theorem co:gh ft bT PL (dw dW)=some out∧gh ft bT PL (dw (lc (2*m) out))=some (se PL dW)∧PQ (2*m) out=true∧sf PL dW=true∧sf PL (lc (2*m) out)=true∧2*BE (lc (2*m) out)=2*m∧2<=(qV PL dW).length∧2<=(qV PL (lc (2*m) out)).length∧qW (qV PL dW)=some gH∧qW (qV PL (lc (2*m) out))=some gI∧gH.length<=2*m∧gI.length<=2*m∧zq gH gI (2*m-1)=true:=aaU▸(amS hck).choose_spec.choose_spec.choose_spec
theorem F0.Ed:∀p∈d7 drawn s5,bY p.1∧dH p.2:=J7▸aeu co.2.2.2.1 aaQ
theorem dAt k (h:k<2*m):(dw PL k).isNone=(dw dW k).isSome:=Fd▸Jw 0 k aaQ (by rwa[F0.D7])
theorem F0.Ee:(d7 drawn s5).length=m:=by rw[J7,Py,aV,<-ZX,aa6,sj,aa5,aaV aaQ,aaU];refine congrArg oG<|List.filter_congr λk hk=>?_;rw[BL,Option.isSome_map,dAt k<|gz.mp hk]
def n0:Str:=gW (fN bN 0)
theorem F0.ze:nm[0]?=some n0:=by rw[r0,dN,iS F0.m0,n0,gp];rfl
theorem aeM {k:Nat}(h:k∈aA):∃x,dw dW k=some x:=Kk.mp<|(dAt k<|F0.pA k h).symm.trans (enW k h).2
theorem F0.IP:∀k∈aA,tG (d7 drawn s5) (mI k) n0=d7 drawn s5∧tH (d7 drawn s5) (mI k) n0=drawn.getD k "":=λk hk=>by obtain⟨x,hx⟩:=aeM hk;rw[J7,xi,hx];exact alR (acD aaQ) (ab9 hk) (by rw[BL,hx];rfl)
def td:List (Str×Str):=gW (d7 drawn s5++aA.map (pz nm m))
theorem F0.Bx:d7 drawn s5++aA.map (pz nm m)=td:=gp.symm
theorem F0.IQ:∀p∈td,bY p.1:=λp hp=>by
 rw[<-F0.Bx] at hp;rcases f7.mp hp with h|h
 ·exact(F0.Ed p h).1
 obtain⟨k,hk,rfl⟩:=cu.mp h;exact am1.B k<|ab9 hk
abbrev lR:List (Nat×Str):=aaW out
theorem abt:lR=out.map (pG bN):=gp
theorem ZW:∀p∈out,p.1<10∧p.2<m:=λp hp=>by have:=iR.mp<|dI.mp (iR.mp co.2.2.1).2 p hp;have h2:=lj this.2;exact⟨ui (lj this.1) F0.m5,by lia⟩
theorem F0.IR:∀p∈lR,dH p.2:=λp hp=>by rw[abt] at hp;obtain⟨q,hq,rfl⟩:=cu.mp hp;exact am1.name<|u3 bm8<|(ZW q hq).2
theorem F0.IS:gh bP (·== ·) (pl.map gT) (jI td)=some lR:=
 ac3 co.1 λk hk u=>by rw[<-F0.Bx,J7,alT (acD aaQ) hk (λj hj=>ab9 hj) (λh=>by obtain⟨x,hx⟩:=aeM h;rw[BL,hx];rfl),BL]
def ro:List (Str×Str):=gW (dY lR)
theorem F0.By:dY lR=ro:=gp.symm
theorem adk:∀p∈lR,p.1<10:=λp hp=>by rw[abt] at hp;obtain⟨q,hq,rfl⟩:=cu.mp hp;exact(ZW q hq).1
theorem F0.xa:∀p∈ro,bY p.1:=λp hp=>by rw[<-F0.By] at hp;obtain⟨q,hq,rfl⟩:=cu.mp hp;exact am1.S _<|adk q hq
theorem F0.Ef:ro.length<=10:=by have:=lj (iR.mp co.2.2.1).1;have:=F0.m5;rw[<-F0.By,dY,aV,abt,aV];lia
def ot:List Str:=gW (cm bN (lc (2*m) out))
theorem aa0:ot=cm bN (lc (2*m) out):=gp
theorem F0.IT:tW ro m=ot:=F0.By▸aa0▸abt▸amF (λp hp=>(ZW p hp).1) F0.m5
theorem F0.IU:ot.length=2*m:=by rw[aa0,aa5,Qk]
theorem F0.IV:∀x∈ot,x.length<=5:=aa0▸abU
def ix (w:List (Option Nat))(k:Nat):Nat:=t3 PL ((dw w k).getD 0)
abbrev ow:Nat->Nat:=ix dW
abbrev ox:Nat->Nat:=ix (lc (2*m) out)
theorem ED {w:List (Option Nat)}(h:sf PL w=true):∀k<2*m,fA (cm bN w) k=true->pl.findIdx? (λx=>x==(cm bN w).getD k "")=some (ix w k):=λk u hk=>by rw[Ev] at hk;obtain⟨x,hx⟩:=Kk.mp hk;rw[xi,hx,aaP,ix,hx];exact ZS (Jy h hx).2
theorem F0.IW:∀k<2*m,fA drawn k=true->pl.findIdx? (λx=>x==drawn.getD k "")=some (ow k):=J7▸ED co.2.2.2.1
theorem F0.IX:∀k<2*m,fA ot k=true->pl.findIdx? (λx=>x==ot.getD k "")=some (ox k):=aa0▸ED co.2.2.2.2.1
theorem prE {w:List (Option Nat)}(h:w.length=2*m):lP (cm bN w) (ix w) (aK (2*m))=qV PL w:=Jx h
theorem F0.IY:2<=(lP drawn ow (aK (2*m))).length:=J7▸prE (aaV aaQ)▸co.2.2.2.2.2.2.1
theorem F0.IZ:2<=(lP ot ox (aK (2*m))).length:=aa0▸prE (Qk _ _)▸co.2.2.2.2.2.2.2.1
theorem F0.Bz:vq (lP drawn ow (aK (2*m))) gH:=J7▸prE (aaV aaQ)▸ZT co.2.2.2.2.2.2.2.2.1
theorem F0.zf:vq (lP ot ox (aK (2*m))) gI:=aa0▸prE (Qk _ _)▸ZT co.2.2.2.2.2.2.2.2.2.1
theorem F0.zh:gH.length<=10:=by exact TV co.2.2.2.2.2.2.2.2.2.2.1 F0.m5
theorem F0.zi:gI.length<=10:=by exact TV co.2.2.2.2.2.2.2.2.2.2.2.1 F0.m5
theorem F0.I3:(ot.map CV.str).countP (λx=>gQ x (.str ""))=m:=by have:=co.2.2.2.2.2.1;rw[aa0,Ql];lia
theorem F0.I4:∀k,1<=k->k<2*m->jt gH k=(jt gI k).reverse:=λk h1 h2=>ZU co.2.2.2.2.2.2.2.2.2.2.2.2 k h1<|aca h2
abbrev pD:List (Nat×Str):=aaW (se PL dW)
theorem F0.I5:∀p∈pD,dH p.2:=aex co.2.2.2.1
theorem F0.I6:gh bP (·== ·) (pl.map gT) (jI ro)=some pD:=
 ac3 co.2.1 λk hk h2=>by rw[<-F0.By,alW adk hk,abt,ZR,amE h2]
theorem F0.I7:dY pD=mH aA drawn:=J7▸aeH aaQ
theorem F0.kz:bY "z"∧bY "Z"∧dH "y":=⟨am1.z.1,am1.z.2,am1.y⟩
theorem F0.I8:eH ro (bZ "z")=none:=F0.By▸alU adk
def g1:List Str:=gW (cQ ja)
theorem F0.Mb:cQ ja=g1:=gp.symm
def g2:List Str:=gW (g1.drop (s1%(9-m)))
theorem F0.hg2:g1.drop (s1%(9-m))=g2:=gp.symm
def left:List Str:=gW (nm.drop (gG sg sg.length))
theorem F0.am5:nm.drop (gG sg sg.length)=left:=gp.symm
def g3:List Str:=gW ((aK nm.length).map (kK nm s2 s3))
theorem F0.Hc:(aK nm.length).map (kK nm s2 s3)=g3:=gp.symm
theorem F0.kA:∀k,k<10->bY (mI k):=am1.A
theorem F0.kB:∀k,k<10->bY (la k):=am1.B
theorem F0.kC:∀k,k<10->bY (j7 k):=am1.C
theorem F0.BA:i8 cs ln []=(("z":Str),z1):=zZ.1
theorem F0.BB:i8 z1.1 z1.2.1 z1.2.2=(("":Str),z2):=zZ.2.1
theorem F0.zj:z1.1.length<=1000∧z1.2.2.length<=1000:=zZ.2.2.1
theorem F0.BC:z2.2.1=1+sM T "\n":=zZ.2.2.2
theorem g9:ss.length=6:=(congrArg oG F0.pq).trans rfl
theorem hs0:ss[0]?=some s0:=by rw[F0.pq];rfl
theorem zu:ss[1]?=some s1:=by rw[F0.pq];rfl
theorem Qu:ss[2]?=some s2:=by rw[F0.pq];rfl
theorem Z6:ss[3]?=some s3:=by rw[F0.pq];rfl
theorem hs4:ss[4]?=some s4:=by rw[F0.pq];rfl
theorem Z7:ss[5]?=some s5:=by rw[F0.pq];rfl
theorem AS:∀p∈rk,p.2.lo 0=true:=λp hp=>by rw[<-F0.Z3] at hp;exact ak3 p hp
theorem dz:m<=5:=F0.m5
theorem Qv:0<m:=F0.m0
theorem qZ:sg.length=2*m:=F0.D7
theorem q4:nm.length=m:=F0.w8
theorem sk:pl.length=2*m:=by rw[<-F0.cp,y9];exact F0.D7
theorem BM:units.length=2*m:=ak4 F0.lQ
theorem Ey:nm.length<=5:=F0.w8▸F0.m5
theorem pH:sg.length<=10:=by have:=qZ;have:=dz;lia
theorem zw:pl.length<=10:=by have:=sk;have:=dz;lia
theorem Qw:∀x∈nm,x.length<=5:=λx hx=>(F0.D8 x hx).1
theorem ym:∀x∈nm,dH x:=λx hx=>(F0.D8 x hx).2
set_option hygiene false in
local macro_rules | `(tactic| walk_at "ob1") => `(tactic| first | walk_at "oa" | decide | (have := dz; have := q4; have := qZ; exact ⟨by omega, by omega, by decide⟩))
section
variable {d:Nat}
structure Cl where
 left:Option CV:=none
 aj:Option CV:=none
 pI:Option CV:=none
 line:Option CV:=none
 drawn:Option CV:=none
 JA:Option CV:=none
 nest:Option CV:=none
 table:Option CV:=none
 JB:Option CV:=none
 names:Option CV:=none
 JC:Option CV:=none
 JD:Option CV:=none
def pB (vars:List (Str×CV))(c:Cl):List ae:=[a0 ss,.frame vars,.cell (some (.ab 0)),.cell (some (af m)),.cell c.left,.cell c.aj,.cell c.pI,.cell c.line,.cell c.drawn,.cell c.JA,.cell c.nest,.cell c.table,.cell c.JB,.cell c.names,.cell c.JC,.cell c.JD]
abbrev ba:aY:=da cH.scope 1 (some (327,325))
def q5:aq×aq×List bl:=dc cH.body
theorem am' {k c:Nat}{s:Str}{fv:CV}(hk:k<10)(hs:s.length<=100)(hc:sM s "("=(c:Int)){b:Bool}(hb:((decide (c<m)&&(s0/2^k%2==1))||(2*c==k))=b):∃jJ,aI d ba q5.2.2 (pB (v1 (af k) fv s) {}) .next (pB (v1 (af k) jJ (s++(if b then("(":Str) else")"))) {}):=by
 have hd:=Bo (b:=2) (c:=2) (s:=s0) (k:=k) (bi:=2) (ci:=2) rfl rfl;have hp:=DX (x:=(s0:Int)) (b:=2) (k:=k) (bi:=2) rfl (by decide) (by decide) (by exact xN hk);have bJ:∀x:Str,x.length<=1->(s++x).length<=cX:=λx h=>by rw[jF];show _<=2^24;exact ah [_,_] (.le .o .j<|.le .i (.n 100)<|.gl (.a .i .o)<|.n<|2^24) rfl h hs
 have cc:∀st:List ae,bk d (.bi "str.count") [.str s,.str "("] [] st (.int (c:Int)) st:=λst=>hc▸MP;have Qx:∀st:List ae,∀e,st[0]?=some (a0 ss)->fF d e (.ab 0) (.int 0) st (af s0) st:=λst e h=>jL (j:=0) h hs0 (by exact o7 g9);have hz:∀q:Bool,decide (s0/2^k%2=1)=q->(((s0:Int).fdiv<|2^(k:Int).toNat).fmod 2 != 0)=q:=λq hq=>by
  rw[hd,<-hq];have:s0/2^k%2<2:=kg _ (by decide);by_cases h:s0/2^k%2=1
  ·rw[h];rfl
  rw[show s0/2^k%2=0 by exact TO h];rfl
 have JE:∀q:Bool,decide (2*c=k)=q->((2:Int)*(c:Int)==(k:Int))=q:=λq hq=>by
  rw[<-hq];by_cases h:2*c=k
  ·simp [h];lia
  simp [h];lia
 have Ez:∀q:Bool,decide (c<m)=q->decide ((c:Int)<(m:Int))=q:=λq hq=>by rw[<-hq];simp
 by_cases h1:c<m
 ·by_cases h2:s0/2^k%2=1
  ·have:b=true:=by rw[<-hb];simp [h1,h2]
   subst this;refine⟨.int<|((s0:Int).fdiv<|2^(k:Int).toNat).fmod 2,aW (sc:=[.bg (.bi "str.count") [.str s],.val<|.int c,.yes,.val<|af s0,.yes,.cw]) (by rfl) ?_⟩;walk_at "obs";all_goals first|exact bJ _ (by decide)|exact hz _ (by simp [h2])|exact hp|exact Qx _ _ rfl|exact Ez _ (by simp [h1])|exact cc _|exact yy
  by_cases h3:2*c=k
  ·have:b=true:=by rw[<-hb];simp [h3]
   subst this;refine⟨.int<|((s0:Int).fdiv<|2^(k:Int).toNat).fmod 2,aW (sc:=[.bg (.bi "str.count") [.str s],.val<|.int c,.yes,.val<|af s0,.no,.bg (.bi "str.count") [.str s],.val<|.int c,.yes,.cw]) (by rfl) ?_⟩;walk_at "obs";all_goals first|exact bJ _ (by decide)|exact hz _ (by simp [h2])|exact hp|exact Qx _ _ rfl|exact Ez _ (by simp [h1])|exact cc _|exact yy|exact JE _ (by simp [h3])|exact oK (by decide)
  have:b=false:=by rw[<-hb];simp [h2,h3]
  subst this;refine⟨.int<|((s0:Int).fdiv<|2^(k:Int).toNat).fmod 2,aW (sc:=[.bg (.bi "str.count") [.str s],.val<|.int c,.yes,.val<|af s0,.no,.bg (.bi "str.count") [.str s],.val<|.int c,.no,.cw]) (by rfl) ?_⟩;walk_at "obs";all_goals first|exact bJ _ (by decide)|exact hz _ (by simp [h2])|exact hp|exact Qx _ _ rfl|exact Ez _ (by simp [h1])|exact cc _|exact yy|exact JE _ (by simp [h3])|exact oK (by decide)
 by_cases h3:2*c=k
 ·have:b=true:=by rw[<-hb];simp [h3]
  subst this;refine⟨.bool<|decide ((c:Int)<(m:Int)),aW (sc:=[.bg (.bi "str.count") [.str s],.val<|.int c,.no,.no,.bg (.bi "str.count") [.str s],.val<|.int c,.yes,.cw]) rfl ?_⟩;walk_at "obs";all_goals first|exact bJ _ (by decide)|exact Ez _ (by simp [h1])|exact cc _|exact yy|exact JE _ (by simp [h3])|exact oK (by decide)
 have:b=false:=by rw[<-hb];simp [h1,h3]
 subst this;refine⟨.bool<|decide ((c:Int)<(m:Int)),aW (sc:=[.bg (.bi "str.count") [.str s],.val<|.int c,.no,.no,.bg (.bi "str.count") [.str s],.val<|.int c,.no,.cw]) (by rfl') ?_⟩;walk_at "obs";all_goals first|exact bJ _ (by decide)|exact Ez _ (by simp [h1])|exact cc _|exact yy|exact JE _ (by simp [h3])|exact oK (by decide)
end
section
variable {d:Nat}
theorem Z8:∀n k acc kv fv,k+n<=10->acc.length=k->∃i9 jJ,fG d ba q5.1 q5.2.2 (λx=>True) ((fc k n).map af) (pB (v1 kv fv (bh acc)) {}) .next (pB (v1 i9 jJ (bh ((fc k n).foldl (tT m s0) acc))) {})
 |0,k,acc,kv,fv,z,w=>⟨kv,fv,.nil trivial⟩|n+1,k,acc,kv,fv,h1,h2=>by obtain⟨fv1,T⟩:=am' (k:=k) (SV h1) (by rw[np];exact ah [_,_,_] (.le (.a .o .i) .t<|.eq .u .o<|.gl .u<|.n 100) rfl h1 h2) (akG acc) rfl;rw[akI] at T;obtain⟨i9,jJ,R⟩:=Z8 n (k+1) (tT m s0 acc k) (af k) fv1 (FF h1) (by rw[(show (tT m s0 acc k).length=acc.length+1 from by rw[tT,dJ];rfl),h2]);exact⟨i9,jJ,.cons trivial ((i4 (sc:=[]) (by rfl) aX)) T (.inl rfl) R⟩
def Qy:List ae:=pB [] {}
theorem anb:aI d ba (cH.body.take 2) Qy .next (pB (v1 .any .any (bh (gU m s0))) {}):=by
 obtain⟨kv,fv,L⟩:=Z8 (2*m) 0 [] .any .any (ah [_] (.c 2 0 (.le .o<|.n 5)<|.gl (.a .k<|.m 2 .o) .t) rfl dz) rfl;rw[<-pW] at L;have L:=L;have F:∀{tt i:aq} {b:List bl} {p:Pos},tt=q5.1->b=q5.2.2->i=q5.2.1->dB d ba (.For tt i b [] p) (pB [("signs",.str "")] {}) .next (pB (v1 kv fv<|bh<|gU m s0) {}):=by
  intro tt i b p h1 h2 h3;subst h1;subst h2;subst h3;obtain⟨sr⟩:=mE (2*m)<|rA dz;have e:(2*m)=((2*m:Nat):Int):=SW;have W:dB d ba (.For q5.1 q5.2.1 q5.2.2 [] p) (pB (v1 .any .any "") {}) .next (pB (v1 kv fv<|bh<|gU m s0) {}):=by refine mq sr rfl (dk (sc:=[.val<|.fW 0 (2*m:Int) 1]) rfl ?_) trivial L;walk_at "obs";exact oK (by decide)
  exact W.pre ["k","free"] (i:=1) (vars:=[("signs",.str "")]) (st:=pB [("signs",.str "")] {}) rfl
 generalize bh (gU m s0)=s at *;have G:=aW (d:=d) (c:=ba) (body:=cH.body.take 2) (st:=Qy) (ag:=pB (v1 kv fv s) {}) (sc:=[.fl .next (λx=>pB (v1 kv fv s) {})]) (f:=.next) rfl (by walk_at "obs";exact F rfl rfl rfl);have W:=G.fj ["k","free"] (i:=1) rfl;exact W
theorem BN {st:List ae}{e:aq}{k:Nat}{xs:List Str}{x y:CV}{lo hi:Option Int}(hk:st[k]?=some (ax xs))(h1:qt x=some lo)(h2:qt y=some hi)(hl:xs.length<=2^20):fF d e (.ab k) (.sl [x,y,.none]) st (.ab st.length) (st++[ax ((xs.drop (eZ lo xs.length)).take (i5 hi xs.length-eZ lo xs.length))]):=by have:=Dd (d:=d) (e:=e) hk h1 h2 (z:=.none) rfl (by decide) (by rw[aV];exact SX hl);rwa[Hf,aV,<-rn,<-oH] at this
theorem anc:aI d ba ((cH.body.drop 2).take 1) (pB (v1 .any .any s) {}) .next (pB (v1 .any .any s) {names:=some (.ab 18)}++[ax (cQ ja),ax ((cQ ja).drop (s1%(9-m))),ax (kI m s1)]):=by
 have hd:=Pb (c:=9-m) (s:=s1) (ci:=9-(m:Int)) (by have:=dz;lia);have ht:(cQ ja).length=8:=by decide
 have aZ:s1%(9-m)<9-m:=kg _<|KW dz;have e1:eZ (some<|(s1:Int).fmod<|9-(m:Int)) 8=s1%(9-m):=by rw[hd];show nH 8 _=_;rw[uP];lia
 refine aW (sc:=[.c7 (.ab 16)<|λst=>st++[ax<|cQ ja],.val<|af s1,.c7 (.ab 17)<|λst=>st++[ax<|(cQ ja).drop<|s1%(9-m)],.c7 (.ab 18)<|λst=>st++[ax<|kI m s1]]) rfl ?_;walk_at "obs"
 ·have hl:(rq (s1%(9-m))<|cQ ja).length<=8:=by rw[jA,ht];exact acf
  have:=BN (d:=d) (e:=.Slice none none none default) (st:=(pB (v1 .any .any s) {}++[ax<|cQ ja])++[ax<|(cQ ja).drop<|s1%(9-m)]) (k:=17) (x:=.none) (y:=af m) (lo:=none) (hi:=some (m:Int)) rfl rfl rfl (ah [_] (.le .o (.n 8)<|.gl .o<|.n<|2^20) rfl hl);have e2:((rq (s1%(9-m))<|cQ ja).drop<|eZ none (rq (s1%(9-m))<|cQ ja).length).take (i5 (some (m:Int)) (rq (s1%(9-m))<|cQ ja).length-eZ none (rq (s1%(9-m))<|cQ ja).length)=kI m s1:=by show z6 (nH _ _-0) (rq 0 _)=_;rw[sQ,vY,uP,kI,<-List.take_take,B7]
  rw[e2] at this;exact λA own s x y q S r1 r2=>this A own s x y q S r1 r2
 ·have:=BN (d:=d) (e:=.Slice none none none default) (st:=pB (v1 .any .any s) {}++[ax<|cQ ja]) (k:=16) (x:=.int<|(s1:Int).fmod<|9-(m:Int)) (y:=.none) rfl rfl rfl (by rw[ht];decide);have e2:((cQ ja).drop<|eZ (some<|(s1:Int).fmod<|9-(m:Int)) (cQ ja).length).take (i5 none (cQ ja).length-eZ (some<|(s1:Int).fmod<|9-(m:Int)) (cQ ja).length)=(cQ ja).drop (s1%(9-m)):=by rw[ht,e1];show z6 (8-_) _=_;rw[uc<|jA▸ht▸aG _]
  rw[e2] at this;exact λA own s x y q S r1 r2=>this A own s x y q S r1 r2
 ·lia
 ·exact jL rfl zu (o7 g9)
 exact Wm (by decide)
def EA:Cl:={names:=some (.ab 18),JC:=some (.ab 19),left:=some (.ab 20)}
def j8 (s:Str)(g1 g2:List Str):List ae:=pB (v1 .any .any s) {names:=some (.ab 18)}++[ax g1,ax g2,ax nm]
def oC:aq:=ew (iL (g7 cH.body 3)) 0
theorem Z9 {g1 g2:List Str}:∀n k fv,k+n=m->(fv=[]∨∃v:CV,fv=[(("k":Str),v)])->∃jJ,jS d (cI ba (fH oC) 20 [("sums",2),("names",13)]) oC 19 0 (λz=>True) ((fc k n).map af) (j8 s g1 g2++[ae.map ((d0 nm s2).take k),.frame fv]) (j8 s g1 g2++[ae.map ((d0 nm s2).take (k+n)),.frame jJ])
 |0,k,fv,h1,h2=>⟨fv,.nil trivial⟩|n+1,k,fv,h1,h2=>by
  obtain⟨jJ,R⟩:=Z9 (g1:=g1) (g2:=g2) (s:=s) n (k+1) [("k",af k)] (by exact xO h1)<|.inr ⟨_,rfl⟩;have hk:k<nm.length:=by exact ah [_,_,_,_] (.eq (.a .o<|.a .i .j) .u<|.c (-1) 0 (.eq .w .u)<|.gt .o .w) rfl h1 q4
  have EB:nm[k]?=some nm[k]:=bA hk;have A:∀p,dj d (cI ba (fH oC) 20 [("sums",2),("names",13)]) (.Name "k" p) (af k) (j8 s g1 g2++[ae.map<|(d0 nm s2).take k,.frame fv]) (j8 s g1 g2++[ae.map<|(d0 nm s2).take k,.frame [("k",af k)]]):=λp=>by
   have:=y4 (d:=d) (c:=cI ba (fH oC) 20 [("sums",2),("names",13)]) (x:="k") (pos:=p) (T:=j8 s g1 g2) (g:=[]) (n:=19) (o:=.map<|(d0 nm s2).take k) (fv:=fv) (v:=af k) rfl rfl (by rfl');rcases h2 with rfl|⟨v,rfl⟩
   ·exact this
   exact this
  have hd:=Bo (b:=4) (c:=2) (s:=s2) (k:=k) (bi:=4) (ci:=2) rfl rfl;have hp:=DX (x:=(s2:Int)) (b:=4) (k:=k) (bi:=4) rfl (by decide) (by decide) (by exact ah [_,_,_] (.eq (.a .o .i) .u<|.le .u (.n 5)<|.gl .o .t) rfl h1 dz);have E1:=dk (d:=d) (c:=cI ba (fH oC) 20 [("sums",2),("names",13)]) (e:=ew oC 0) (st:=j8 s g1 g2++[ae.map<|(d0 nm s2).take k,.frame [("k",af k)]]) (sc:=[.val<|.str nm[k]]) (v:=.str nm[k]) (by rfl') (by walk_at "obs";exact e8 (ns:=nm) (by rfl') rfl EB (by exact SY q4 dz));have E2:=dk (d:=d) (c:=cI ba (fH oC) 20 [("sums",2),("names",13)]) (e:=ew oC 1) (st:=j8 s g1 g2++[ae.map<|(d0 nm s2).take k,.frame [("k",af k)]]) (sc:=[.val<|af s2]) (v:=.int<|((s2:Int).fdiv<|4^(k:Int).toNat).fmod 2) (by rfl') (by
   walk_at "obs"
   ·exact hp
   exact jL (j:=2) (by rfl') Qu<|by exact o7 g9)
  rw[hd] at E2;have ane:yw ((d0 nm s2).take k) nm[k] (af<|s2/4^k%2)=(d0 nm s2).take (k+1):=by
   rw[akK,aa2]
   ·have:(d0 nm s2)[k]?=some (nm[k],af<|s2/4^k%2):=by rw[d0,dN,iS hk,Km,ed,EB];rfl
    rw[this];rfl
   intro p hp e;obtain⟨i,hi,he⟩:=pN.mp hp;rw[nG] at hi;have h1:(d0 nm s2)[i]?=some p:=by rw[<-he,List.getElem_take,bA<|by omega]
   rw[d0,dN,iS (by omega),Km] at h1;obtain rfl:=dE h1;have h3:nm.getD i ""=nm[k]:=e;rw[ed,bA<|by omega] at h3;exact absurd (List.getElem_inj F0.IB |>.mp h3) (by exact acg hi)
  have M:∀kx vx gens sc p,kx=(ew oC 0)->vx=(ew oC 1)->sZ d (cI ba (fH oC) 20 [("sums",2),("names",13)]) (.DictComp kx vx gens sc p) 19
   (j8 s g1 g2++[ae.map<|(d0 nm s2).take k,.frame [("k",af k)]]) (j8 s g1 g2++[ae.map<|(d0 nm s2).take<|k+1,.frame [("k",af k)]]):=λkx vx gens sc p h1 h2=>by
   subst h1;subst h2;have:=afm (gens:=gens) (sc:=sc) (pos:=p) (k:=19) E1 E2 rfl (by rw[nG];show _<=2^24;exact ach h1 dz);have anf:yw ((d0 nm s2).take k) nm[k] (.int ((s2/4^k%2:Nat):Int))=(d0 nm s2).take (k+1):=ane;rw[anf] at this;exact this
  refine⟨jJ,?_⟩;rw[show k+(n+1)=k+1+n by exact z9];with_unfolding_all exact .wk trivial rfl rfl (A _) oT (M _ _ _ _ _ rfl rfl) R
theorem ang:(ae.map (d0 nm s2)).lo n=true:=by show((d0 nm s2).all λp=>p.2.lo n)=true;rw[dI];intro p hp;obtain⟨k,_,rfl⟩:=cu.mp hp;rfl
theorem t4 (h0:1<=n)(hv:(vars.all λp=>p.2.lo n)=true)(hc:([c.left,c.aj,c.pI,c.line,c.drawn,c.JA,c.nest,c.table,c.JB,c.names,c.JC,c.JD].all λo=>(ae.cell o).lo n)=true):((pB vars c).all λo=>o.lo n)=true:=by simp [bU,cG,cP,bz] at hc;simp [pB,bU,cG,cP,bz];exact⟨k8 _,hv,decide_eq_true<|SZ h0,rfl,hc⟩
theorem anh {g1 g2:List Str}:a8 d ba oC (j8 s g1 g2) (.ab 19) (j8 s g1 g2++[ae.map (d0 nm s2)]):=by
 obtain⟨jJ,R⟩:=Z9 m 0 [] (KG)<|.inl rfl;rw[<-pW,lq] at R;have gw:(d0 nm s2).length=m:=by rw[d0,aV,fb,q4]
 have e:(d0 nm s2).take m=d0 nm s2:=gw▸B7;rw[e] at R;have iter:=dk (d:=d) (c:=ba) (st:=j8 s g1 g2) (sc:=[.val<|.fW 0 m 1]) (e:=(kZ oC)) rfl (by walk_at "obs");have b9:((j8 s g1 g2++[ae.map<|d0 nm s2]).all λo=>o.lo 20)=true:=by refine cC (cC (t4 (by decide) rfl rfl) ?_) (by rw[bU,cG,cP];exact ang);simp [bz];exact⟨cJ _,cJ _,cJ _⟩
 refine GN {sc:=rfl,cls:=rfl,qp:=rfl,kind:=rfl,names:=rfl,d3:=rfl,iter:=iter,src:=mE m<|FG dz,GK:=trivial,run:=R,fr:=⟨jJ,rfl⟩,qr:=?_};have:=X5 (m:=20) (k:=19) (o:=.frame jJ) (v:=.ab 19) rfl (by decide) b9 rfl;exact this
end
section
variable {d:Nat}
section
variable {pl:List Str}
theorem ani (hD:a8 d ba oC (j8 (bh sg) g1 g2) (.ab 19) (j8 (bh sg) g1 g2++[ae.map rk])):aI d ba ((cH.body.drop 3).take 1) (j8 (bh sg) g1 g2) .next (pB (v1 .any .any (bh sg)) EA++[ax g1,ax g2,ax nm,.map rk,ax nm]):=by
 apply aW (sc:=[.c7 (.ab 19)<|λst=>st++[ae.map rk],.c7 (.ab 20)<|λst=>st++[ax nm]]) rfl;walk_at "obs"
 ·have:=BN (d:=d) (e:=.Slice none none none default) (st:=j8 (bh sg) g1 g2++[ae.map rk]) (k:=18) (x:=.none) (y:=.none) rfl rfl rfl (FG Ey);have e2:(nm.drop<|eZ none nm.length).take (i5 none nm.length-eZ none nm.length)=nm:=by show z6 (nm.length-0) (rq 0 nm)=nm;rw[sQ,vY,B7]
  rw[e2] at this;exact λA own s x y q S r1 r2=>this A own s x y q S r1 r2
 exact hD
def pJ (left:List Str):List ae:=pB (v1 .any .any (bh sg)) EA++[ax g1,ax g2,ax nm,.map rk,ax left]
def BO:aq:=iL (g7 cH.body 4)
theorem BP:(ae.map rk).lo n=true:=by show(rk.all λp=>p.2.lo n)=true;rw[dI];exact λp hp=>CV.mD (dQ _) _<|AS p hp
theorem anj {left:List Str}(hn:21<=n):((pJ left).all λo=>o.lo n)=true:=by
 refine cC (t4 (ah [_] (.le (.n 21) .o<|.gl .j .o) rfl hn) rfl ?_) ?_
 ·simp only [EA,bU,cG,cP,bz];exact⟨decide_eq_true<|ah [_] (.le (.n 21) .o<|.gt (.n 20) .o) rfl hn,rfl,rfl,rfl,rfl,rfl,rfl,rfl,rfl,decide_eq_true<|ah [_] (.le (.n 21) .o<|.gt (.n 18) .o) rfl hn,decide_eq_true<|ah [_] (.le (.n 21) .o<|.gt (.n 19) .o) rfl hn,rfl⟩
 simp [bU,cG,cP,bz];exact⟨cJ _,cJ _,cJ _,BP,cJ _⟩
theorem ank (qU:nm.length=sg.count true):a8 d ba BO (pJ nm) (.ab 21) (pJ (nm.drop (gG sg sg.length))++[ax (kJ sg nm)])∧lx d ba BO (pJ nm) (.ab 21) (pJ (nm.drop (gG sg sg.length))++[ax (kJ sg nm)]):=by
 have hc:∀i,gG sg i<=10:=λi=>fC (YN i)<|fC abY pH;have e:ax (kJ sg nm)=.list (ex (λi q=>((kJ sg nm)[i]?).map CV.str) 0<|sg.map λb=>CV.str<|if b then"(" else")"):=by rw[D2 _ 0 (by rw[aV,y9,lq]),sQ];rfl
 have zx:(sg.map λb=>CV.str<|if b then"(" else")").length=sg.length:=aV _;rw[e,<-zx];have iter:=dk (d:=d) (c:=ba) (st:=pJ nm) (sc:=[]) (e:=(kZ BO)) rfl aX;have src:Nonempty (iY (.str<|bh sg) (sg.map λb=>CV.str<|if b then"(" else")")<|λq=>True):=YO▸⟨Gw _⟩;have hw:∀v:CV,Internal.fj ["sign"] [("sign",v)]=[(("sign":Str),CV.any)]:=λv=>by rfl'
 refine H7 (cl:=[("left",4)]) (T:=λi=>pJ<|nm.drop<|gG sg i) (m:=0) ⟨rfl,rfl,rfl,rfl,rfl⟩ iter src trivial trivial (λq=>rfl) rfl hw (λq q=>trivial) ?_ ?_ ?_ ?_ (by exact KN zx pH) (by show 21<=21;decide) ?_
 ·intro i v acc hv;have:=y4 (d:=d) (c:=cI ba (fH BO) 22 [("left",4)]) (x:="sign") (pos:=(AT (uL BO).target)) (T:=pJ<|nm.drop<|gG sg i) (g:=[]) (o:=.list acc) (fv:=[("sign",.any)]) (v:=v) rfl rfl (by rfl);exact this
 ·intro i v acc du hv hs;have hi:i<sg.length:=by have:=(bV.mp hv).1;simpa using this
  rw[bA<|by rwa[y9]] at hs;cases hs
 ·intro i v acc y du hv hs;have hi:i<sg.length:=by have:=(bV.mp hv).1;simpa using this
  have si:sg[i]?=some sg[i]:=bA hi;rw[dN,si] at hv;refine⟨_,oT,?_⟩;cases hb:sg[i] with
  |true=>
   rw[hb] at hv si;have lE:=YM si;have aZ:gG sg i<nm.length:=by have:=YN (sg:=sg)<|i+1;simp [if_true] at lE;exact ah [_,_,_,_] (.c (-1) 0 (.eq .o<|.a .i .j)<|.le .o .u<|.c (-1) 0 (.eq .w .u)<|.gt .i .w) rfl lE this qU
   have hp:=Pf sg nm i si aZ;have hx:=bA aZ;have hp:=hp.trans hx;rw[hp] at hs;obtain rfl:=dE hs;obtain rfl:=dE hv;have hdr:=Ky aZ;have lE:=lE;rw[lE];generalize nm[gG sg i]=x at *;apply dk (sc:=[.yes,.bg (.bi "list.pop") [.ab 20],.c7 (.str x)<|λst=>st.set 20<|ax<|nm.drop<|gG sg i+1]) (by rfl);walk_at "obs"
   ·have h20:(pJ (nm.drop<|gG sg i)++[ae.list acc,ae.frame [("sign",.str "(")]])[20]?=some (.list<|CV.str x::(nm.drop<|gG sg i+1).map CV.str):=by show some (ax<|nm.drop<|gG sg i)=_;rw[hdr];rfl
    have pu:(nm.drop<|gG sg i+1).length<=10:=by rw[jA];have:=abY (l:=sg) (a:=true);exact acp qU this pH
    exact GP (j:=0) h20 (by decide) (rM<|vI _) rfl (by rw[dO,aV];show _<=2^24;exact ah [_] (.le .o .t<|.gl (.a .o .j)<|.n<|2^24) rfl pu)
   exact A4 (by rfl)
  |false=>rw[hb] at hv si;have lE:=YM si;rw[Iu sg nm i si] at hs;obtain rfl:=dE hs;obtain rfl:=dE hv;rw[lE];apply dk (sc:=[.no]) (by rfl);walk_at "obs"
 ·intro i v y hv hs;obtain⟨z,_,rfl⟩:=oI.mp hs;rfl
 apply cC (anj<|by decide);rw[D2 _ 0 (by rw[aV,y9,lq]),sQ,bU,cG,cP];exact cJ _
end
end
section
variable {d:Nat}
def lg (n:Nat)(cs:List Nat)(ln:Int)(pb:List Str):List ae:=[.cell (some (.ab (n+1))),.list (cs.map jR),.d3 (eY ef.body 0).args (eY ef.body 0).body (eY ef.body 0).scope [] (some (n+4)),.d3 (eY ef.body 1).args (eY ef.body 1).body (eY ef.body 1).scope [("signs",n)] none,.bt [("read",.ab (n+3))],.bt [("lineno",.int ln),("instream",.ab (n+2)),("whitespace",.str k5),("pushback",.ab (n+7))],.bE 283 (n+5),ax pb]
def t5 (st:List ae)(n:Nat)(cs:List Nat)(ln:Int)(pb:List Str):Prop:=∀i,i<8->st[n+i]?=(lg n cs ln pb)[i]?
def vB (st:List ae)(n:Nat)(cs:List Nat)(ln:Int)(pb:List Str):List ae:=((st.set (n+1) (.list (cs.map jR))).set (n+5) (.bt [("lineno",.int ln),("instream",.ab (n+2)),("whitespace",.str k5),("pushback",.ab (n+7))])).set (n+7) (ax pb)
section
variable {d:Nat}{st:List ae}{a:ai}{rest:List CV}{n:Nat}{cs iJ:List Nat}{ln fR:Int}{pb qP:List Str}{v:CV}
theorem Qz {m:Nat}(hf:∀i<8,f (n+i)=some (m+i)):∀(i:Nat) o,(lg n cs ln pb)[i]?=some o->∃o',(lg m cs ln pb)[i]?=some o'∧o.bI f=some o'
 |0,o,e=>by obtain rfl:=dE e;exact⟨_,rfl,Uf<|hf 1<|by decide⟩|1,o,e=>by obtain rfl:=dE e;exact⟨_,rfl,fz<|W5 _ _⟩|2,o,e=>by obtain rfl:=dE e;exact⟨_,rfl,FZ rfl (congrArg (dg some)<|hf 4<|by decide)⟩|3,o,e=>by obtain rfl:=dE e;exact⟨_,rfl,FZ (Ug (hf 0<|by decide) rfl) rfl⟩|4,o,e=>by obtain rfl:=dE e;exact⟨_,rfl,uv<|hf 3<|by decide⟩|5,o,e=>by obtain rfl:=dE e;exact⟨_,rfl,(congrArg (dg ae.bt)<|Iw rfl (Iw (ij<|hf 2<|by decide)<|Iw rfl (Iw (ij<|hf 7<|by decide) rfl)))⟩|6,o,e=>by obtain rfl:=dE e;exact⟨_,rfl,rE<|hf 5<|by decide⟩|7,o,e=>by obtain rfl:=dE e;exact⟨_,rfl,fz<|yM _ _⟩|i+8,o,e=>by exact nS e
theorem Z':dR cs ln pb=lg 0 cs ln pb:=rfl
theorem aaa (h:bM d (.aH a) (.ab 6::rest) [] (dR cs ln pb) v (dR iJ fR qP))(hD:t5 st n cs ln pb)(hr:CV.cV 0 rest=true)(hv:v.lo 0=true):bM d (.aH a) (.ab (n+6)::rest) [] st v (vB st n iJ fR qP):=by
 obtain⟨s1,s2,s3⟩:=(show (vB st n iJ fR qP).length=st.length∧(∀i,i<8->(vB st n iJ fR qP)[n+i]?=(lg n iJ fR qP)[i]?)∧∀k,(∀i<8,k≠n+i)->(vB st n iJ fR qP)[k]?=st[k]? from by
  have hl:=λi hi=>by have h:=hD i hi;have:i<(lg n cs ln pb).length:=hi;rw[bA this] at h;exact(bV.mp h).1
  have ne:∀{i j:Nat},i≠j->n+i≠n+j:=λh e=>h<|Rg e;refine⟨by simp [vB],λi hi=>?_,λk hk=>?_⟩
  ·unfold vB;by_cases h7:i=7
   ·subst h7;rw[vM<|by simpa using hl 7 hi];rfl
   rw[lZ<|ne<|rc h7];by_cases h5:i=5
   ·subst h5;rw[vM<|by simpa using hl 5 hi];rfl
   rw[lZ<|ne<|rc h5];by_cases h1:i=1
   ·subst h1;rw[vM<|hl 1 hi];rfl
   rw[lZ<|ne<|rc h1,hD i hi];exact D3 (P:=λi=>i≠1->i≠5->i≠7->(lg n cs ln pb)[i]?=(lg n iJ fR qP)[i]?) (λx x x=>rfl) (λh x x=>absurd rfl h) (λx x x=>rfl) (λx x x=>rfl) (λx x x=>rfl) (λx h x=>absurd rfl h) (λx x x=>rfl) (λx x h=>absurd rfl h) i hi h1 h5 h7
  unfold vB;rw[lZ (rc<|hk 7<|by decide),lZ (rc<|hk 5<|by decide),lZ<|rc<|hk 1<|by decide])
 have hp:∀i<8,eW (za n) (n+i)=some (0+i):=λi hi=>by rw[lq];exact gr _ i _ (Pg n)<|Iv hi
 refine h.at (za n) (Pg n) ?_ rfl (gC (ij<|hp 6<|by decide)<|tM hr) rfl ?_ (HX hv)
 ·unfold g4;refine wI rfl λi k o e1 e2=>?_;have hi:=(bV.mp e2).1;rw[Iv hi] at e1;obtain rfl:=dE e1;have hd:=hD i hi;cases hq:(lg n cs ln pb)[i]? with|none=>have:i<(lg n cs ln pb).length:=hi;rw[bA this] at hq;cases hq|some o1=>rw[hq] at hd;rw[hd];obtain⟨o',h1,h2⟩:=Qz hp i o1 hq;rw[Z',h1] at e2;obtain rfl:=dE e2;exact h2
 refine HT rfl s1 (Pg n) (λi k e=>?_) λk hk=>s3 k λi hi e=>hk<|e▸cu.mpr ⟨i,gz.mpr hi,rfl⟩;have hi:i<8:=by have:=(bV.mp e).1;rwa[za,aV,fb] at this
 rw[Iv hi] at e;obtain rfl:=dE e;have hb:∀i<8,jT (za n) st.length (0+i)=some (n+i):=λi hi=>by rw[lq];unfold jT;rw[Iv hi]
 cases hq:(lg 0 iJ fR qP)[i]? with|none=>have:=hi;rw[bA this] at hq;cases hq|some o1=>obtain⟨o',h1,h2⟩:=Qz hb i o1 hq;exact⟨o1,o',hq,h2,by rw[s2 i hi,h1]⟩
end
theorem anp:jz X.K (.ref 294)=true:=iG (by kernel_rfl)
theorem JF:jz X.K (.ref 273)=true:=iG (by kernel_rfl)
theorem anq:jz X.K (.ref 280)=true:=iG (by kernel_rfl)
theorem anr:∀{d} {st} {x},x.length<=1000000->bk (d+5) (.aH 294) [.str x] [] st (.ab (st.length+6)) (st++lg st.length x.cps.toList 1 []):=λ{d st x} hx=>by refine(bM.wR (ext:=dR x.cps.toList 1 []) [] (aiw (d:=d) (λst k j=>qA (λv1 v2 S=>by kernel_rfl) gF) (by kernel_rfl) rfl hx (pe (λv1 S=>by kernel_rfl) gF)) (by simp) rfl rfl rfl rfl ?_ (ij<|nf (j:=6) (i:=6) rfl)).call;rw[Z'];refine wI rfl λi o o' e1 e2=>?_;obtain⟨o2,h1,h2⟩:=Qz (f:=jT [] st.length) (λi hi=>nf rfl) i o e1;rw[h1] at e2;obtain rfl:=dE e2;exact h2
theorem JG:∀{d} {st} {n} {cs} {ln} {pb},t5 st n cs ln pb->gM d "get_token" (.ab (n+6)) st (.aH 273) [.ab (n+6)]:=λhD=>ta (Hr) (hD 6<|by decide) (hD 5<|by decide) rfl (NO).find (NO).ty
theorem ans:∀{d} {st} {n} {cs} {ln} {pb},t5 st n cs ln pb->gM d "push_token" (.ab (n+6)) st (.aH 280) [.ab (n+6)]:=λhD=>ta (Hr) (hD 6<|by decide) (hD 5<|by decide) rfl (NP).find (NP).ty
theorem ant:∀{d} {st} {n} {cs} {ln} {pb},t5 st n cs ln pb->rG d "lineno" (.ab (n+6)) st (.int ln) st:=λhD=>MR (Hr) (hD 6<|by decide) (hD 5<|by decide) rfl ((uU).yz "lineno"<|.head _).1 rfl rfl
theorem JH:∀{d} {st} {n} {cs} {ln} {pb},t5 st n cs ln pb->cs.length<=1000000->pb.length<=1000000->bk (d+7) (.aH 273) [.ab (n+6)] [] st (.str (i8 cs ln pb).1) (vB st n (i8 cs ln pb).2.1 (i8 cs ln pb).2.2.1 (i8 cs ln pb).2.2.2):=λ{d st n cs ln pb} hD hc hp=>(aaa (air (λst k=>pe (λv1 S=>by kernel_rfl) gF) hc hp) hD rfl rfl).call
theorem anu:∀{d} {st} {n} {cs} {ln} {pb} {x},t5 st n cs ln pb->pb.length<=1000000->bk (d+2) (.aH 280) [.ab (n+6),.str x] [] st .none (vB st n cs ln (pb++[x])):=λ{d st n cs ln pb x} hD hp=>(aaa (ais (λst k x=>qA (λv1 v2 S=>by kernel_rfl) gF) hp) hD rfl rfl).call
theorem anv:jz X.K (.ref 301)=true:=iG (by kernel_rfl)
theorem anw:∀{d} {st} {name} {aC},aC<4->name.length<=100->bk (d+2) (.aH 301) [.str name,af aC] [] st (.str (jE name aC)) st:=λ{d st name aC} hw hn=>OO ((by obtain⟨g,B⟩:=ahR hw hn;exact aho.code (qA (λv1 v2 S=>by kernel_rfl) gF) (by kernel_rfl) (λq h=>by exact nS h) B (.inl rfl) (aG _) rfl rfl)) rfl rfl rfl
def JI:Cl:={EA with aj:=some (.ab 21)}
def sm:List ae:=pB (v1 .any .any (bh sg)) JI++[ax g1,ax g2,ax nm,.map rk,ax left,ax pl]
theorem anx (hJ:lx d ba BO (pJ nm) (.ab 21) (pJ left++[ax pl])):aI d ba ((cH.body.drop 4).take 1) (pJ nm) .next sm:=by apply aW (sc:=[.aE (.ab 21)<|pJ left++[ax pl]]) rfl;walk_at "obs";exact hJ
end
section
variable {d:Nat}
def v5 (T:Str):List (Str×CV):=[("k",.any),("free",.any),("signs",.str (bh sg)),("text",.str T)]
def BQ:aq:=ew (iL (g7 cH.body 5)) 0
theorem aab (hn:22<=n):((sm).all λo=>o.lo n)=true:=by
 refine cC (t4 (ah [_] (.le (.n 22) .o<|.gl .j .o) rfl hn) rfl ?_) ?_
 ·simp only [JI,EA,bU,cG,cP,bz];exact⟨decide_eq_true<|ah [_] (.le (.n 22) .o<|.gt (.n 20) .o) rfl hn,decide_eq_true<|ah [_] (.le (.n 22) .o<|.gt (.n 21) .o) rfl hn,rfl,rfl,rfl,rfl,rfl,rfl,rfl,decide_eq_true<|ah [_] (.le (.n 22) .o<|.gt (.n 18) .o) rfl hn,decide_eq_true<|ah [_] (.le (.n 22) .o<|.gt (.n 19) .o) rfl hn,rfl⟩
 simp [bU,cG,cP,bz];exact⟨cJ _,cJ _,cJ _,BP,cJ _,cJ _⟩
theorem anz {k:Nat}(hk:k<nm.length)(du:CV.cV 22 acc=true):∀cc e,cc=cI ba (fH BQ) 23 [("sums",2),("names",13)]->e=(ew BQ 0)->a8 (d+2) cc e (sm++[.list acc,.frame [("k",af k)]]) (.str (kK nm s2 s3 k)) (sm++[.list acc,.frame [("k",af k)]]):=by
 intro cc e h1 h2;subst h1;subst h2;have EB:nm[k]?=some (nm.getD k ""):=by rw[ed,bA hk];rfl
 have cp:=YP (s2:=s2) (s3:=s3) Qw k;rw[kK] at cp ⊢;have dD:=Qw _<|c8 EB;have wN:=Bo (b:=4) (c:=4) (s:=s2) (k:=k) (bi:=4) (ci:=4) rfl rfl;have HS:=Bo (b:=4) (c:=4) (s:=s3) (k:=k) (bi:=4) (ci:=4) rfl rfl;have hp:=λx=>DX (x:=x) (b:=4) rfl (by decide) (by decide) (ah [_,_] (.lt .o .i<|.le .i (.n 5)<|.gl .o .t) rfl hk Ey);have h4:s3/4^k%4<4:=kg _ (by decide);have QA:s2/4^k%4<4:=kg _ (by decide);generalize nm.getD k ""=x at *;generalize s2/4^k%4=w2 at *;generalize s3/4^k%4=w3 at *;have G:=dk (d:=d+2) (c:=cI ba (fH BQ) 23 [("sums",2),("names",13)]) (e:=ew BQ 0) (st:=sm++[.list acc,.frame [("k",af k)]])
  (sc:=[.val<|.str x,.val<|af s2,.val<|.str<|jE x w2,.val<|af s3,.val<|.str<|tU.getD w3 ""]) (v:=.str<|jE x w2++tU.getD w3 "") rfl (by
   walk_at "obs"
   ·exact ah [_] (.le .o (.n 14)<|.gl .o<|.n<|2^24) rfl cp
   ·exact e8 (ns:=tU) rfl HS (by rw[ed,bA<|h4];rfl) (by decide)
   ·exact hp _
   ·exact jL (by rfl) Z6<|o7 g9
   ·rw[wN];exact anw QA<|ah [_] (.le .o (.n 5)<|.gl .o<|.n 100) rfl dD
   ·exact cK anv
   ·exact hp _
   ·exact jL (by rfl) Qu<|o7 g9
   exact e8 rfl rfl EB (ah [_] (.le .o (.n 5)<|.gt .o<|.n<|2^40) rfl Ey))
 refine a8.drop G (aG _) ?_ rfl;apply cC (aab<|by show 22<=24;decide);rw[bU,bU,cG,cP,bz];exact⟨CV.vh (by show 22<=24;decide) _ du,rfl⟩
theorem anA:a8 (d+2) ba BQ sm (.ab 22) (sm++[ax ((aK nm.length).map (kK nm s2 s3))]):=by rw[ax,fV,q4];exact oJ<|b31 (cl:=[("sums",2),("names",13)]) _ af ⟨⟨rfl,rfl,rfl,rfl,rfl⟩,rfl,dk (d:=d+2) (c:=ba) (st:=sm) (sc:=[.val<|.fW 0 m 1]) (e:=(kZ BQ)) (by rfl') (by walk_at "obs"),mE m<|FG dz,λx=>trivial,rfl,aG _,aab (by decide),by rw[aV,fb];exact FG dz⟩ λi hi acc du=>⟨by exact anz (o1 (gz.mp hi) q4) du _ _ rfl rfl,rfl⟩
def aac (T:Str)(g3:List Str):List ae:=pB (v5 T) JI++[ax g1,ax g2,ax nm,.map rk,ax left,ax pl,ax g3,ax qQ]
theorem anB:aI (d+2) ba ((cH.body.drop 5).take 2) sm .next (aac (ou nm s2 s3) ((aK nm.length).map (kK nm s2 s3))):=by
 have P:=anA (d:=d);have hd:=DW (c:=1024) (e:=4) (s:=s2) rfl rfl;have h4:s2/1024%4<4:=kg _ (by decide);have hB:∀x∈(aK nm.length).map (kK nm s2 s3),x.length<=14:=λx hx=>by obtain⟨k,_,rfl⟩:=cu.mp hx;exact YP Qw k
 have bJ:((aK nm.length).map<|kK nm s2 s3).length<=5:=by rw[aV,fb];exact o36 q4 dz
 unfold ou;generalize (aK nm.length).map (kK nm s2 s3)=ps at *;have hJ:=Hz hB (by lia);have hTl:(gY "" ps).length<=100:=by have:=Iy hB;lia
 have ht:(qQ.getD (s2/1024%4) "").length<=3:=by
  generalize s2/1024%4=j at *
  match j,h4 with
  |0,u=>decide|1,u=>decide|2,u=>decide|3,u=>decide
 have cj:=λ(st:List ae) (h:st[22]?=some (.list<|ps.map CV.str))=>AR (d:=d+2) h hJ;generalize gY "" ps=J at *;apply aW (sc:=[.bg (.bi "str.join") [.str ""],.c7 (.ab 22)<|λst=>st++[ax ps],.val<|.str J,.val<|af s2,.val<|.str<|qQ.getD (s2/1024%4) ""]) (by rfl);walk_at "obs"
 ·rw[jF];exact ah [_,_] (.le .o (.n 100)<|.le .i (.n 3)<|.gl (.a .o .i)<|.n<|2^24) rfl hTl ht
 ·exact e8 (ns:=qQ) (by rfl) hd (by rw[ed,bA<|h4];rfl) (by decide)
 ·exact jL rfl Qu (o7 g9)
 ·exact cj _ rfl
 ·exact P
 exact yx
end
section
variable {d:Nat}
def v6:List (Str×CV):=[("k",.any),("free",.any),("signs",.str (bh sg)),("text",.str T),("row",.ab 34),("wrong",.ab 35)]
def gy:Cl:={JI with pI:=some (.ab 30),line:=some (.ab 32),drawn:=some (.ab 33)}
noncomputable def sq (xs:List Bool):ae:=.list (xs.map CV.bool)
def a7:List ae:=[ax g1,ax g2,ax nm,.map rk,ax left,ax pl,ax g3,ax qQ]
def vC (D:de):List ae:=lg 24 D.cs D.ln D.pb++[ax D.line,ax D.drawn,ax D.row,sq D.eM]
def lU (vars:List (Str×CV))(c:Cl)(G:List ae)(D:de):List ae:=pB vars c++(G++vC D)
theorem anE:aI (d+5) ba ((cH.body.drop 7).take 1) (aac T g3) .next (lU v6 gy a7 ⟨T.cps.toList,1,[],[],[],[],[]⟩):=by
 apply aW (sc:=[.c7 (.ab 30)<|λst=>st++lg 24 T.cps.toList 1 []]) rfl;walk_at "obs"
 ·exact anr<|sS F0.Tl
 exact cK anp
def EC:aq:=iL (g7 cH.body 8)
theorem anF {cs:List Nat}{ln:Int}(hn:32<=n):((lg 24 cs ln pb).all λo=>o.lo n)=true:=by have hd:∀i,i<32->(CV.ab i).lo n=true:=λi hi=>decide_eq_true<|o3 hi hn;have lC:∀i,i<32->decide (i<n)=true:=λi hi=>decide_eq_true<|o3 hi hn;simp [lg,cP];exact⟨hd 25 (by decide),Dz cs,(by show(true&&decide (28<n))=true;rw[lC 28<|by decide];rfl),(by show((decide (24<n)&&true)&&true)=true;rw[lC 24<|by decide];rfl),(by show((CV.ab 27).lo n&&true)=true;rw[hd 27<|by decide];rfl),(by show(true&&((CV.ab 26).lo n&&(true&&((CV.ab 31).lo n&&true))))=true;rw[hd 26 (by decide),hd 31<|by decide];rfl),lC 29 (by decide),cJ pb⟩
theorem zz (hn:32<=n):((vC D).all λo=>o.lo n)=true:=by apply cC<|anF hn;simp [bU,cG,cP,bz];exact⟨cJ _,cJ _,cJ _,YR _⟩
theorem zA:((a7).all λo=>o.lo n)=true:=by simp [a7,bU,cG,cP,bz];exact⟨cJ _,cJ _,cJ _,BP,cJ _,cJ _,cJ _,cJ _⟩
theorem anH (hn:36<=n):((lU v6 gy a7 D).all λo=>o.lo n)=true:=
 cC (t4 (ah [_] (.le (.n 36) .o<|.gl .j .o) rfl hn) ((by
  have hd:∀i,i<36->(CV.ab i).lo n=true:=λi hi=>decide_eq_true<|o3 hi hn;simp only [v6,bU,cG,cP,bz];exact⟨rfl,rfl,rfl,rfl,hd 34 (by decide),hd 35<|by decide⟩)) ((by
  have hd:∀i,i<36->(CV.ab i).lo n=true:=λi hi=>decide_eq_true<|o3 hi hn;simp [bU,cG,cP,bz];exact⟨hd 20 (by decide),hd 21 (by decide),hd 30 (by decide),hd 32 (by decide),hd 33 (by decide),rfl,rfl,rfl,rfl,hd 18 (by decide),hd 19 (by decide),rfl⟩))) (cC zA<|zz<|ah [_] (.le (.n 36) .o<|.gl (.n 32) .o) rfl hn)
theorem anI {zc:Nat->List Nat}{zl:Nat->Int}(hzc:∀i,(zc i).length<=1000)(hz:∀i x,nm[i]?=some x->(bG (zc i) (zl i)).1=x∧(bG (zc i) (zl i)).2.1=zc (i+1)∧(bG (zc i) (zl i)).2.2.1=zl (i+1)):a8 (d+7) ba EC (lU v6 gy a7 ⟨zc 0,zl 0,[],[],[],[],[]⟩) (.ab 36) (lU v6 gy a7 ⟨zc nm.length,zl nm.length,[],[],[],[],[]⟩++[ax nm])∧lx (d+7) ba EC (lU v6 gy a7 ⟨zc 0,zl 0,[],[],[],[],[]⟩) (.ab 36) (lU v6 gy a7 ⟨zc nm.length,zl nm.length,[],[],[],[],[]⟩++[ax nm]):=by
 have e:ax nm=.list (ex (λi u=>(nm[i]?).map CV.str) 0<|nm.map CV.str):=by rw[D2 _ 0 (by rw[aV,lq]),sQ];rfl
 have zx:(nm.map CV.str).length=nm.length:=aV _;conv=>enter [1];rw[e]
 conv=>enter [2];rw[e]
 rw[<-zx];have hw:∀v:CV,Internal.fj ["name"] [("name",v)]=[(("name":Str),CV.any)]:=λv=>by rfl'
 have hP:∀i (g:List ae),(lU v6 gy a7 ⟨zc i,zl i,[],[],[],[],[]⟩++g)[18]?=some (.list<|nm.map CV.str):=λi g=>rfl;refine H7 (cl:=[("desk",6)]) (P:=λst=>st[18]?=some (.list<|nm.map CV.str)) (T:=λi=>lU v6 gy a7 ⟨zc i,zl i,[],[],[],[],[]⟩) (m:=0) ⟨rfl,rfl,rfl,rfl,rfl⟩ (eu rfl rfl rfl) ⟨rI 18 _⟩ rfl rfl (λu=>rfl) rfl hw (λu u=>rfl) ?_ ?_ ?_ ?_ (ah [_,_] (.eq .o .i<|.le .i (.n 5)<|.gl .o<|.n<|2^20) rfl zx Ey) (by show 36<=36;decide) ?_
 ·intro i v acc hv;have:=y4 (d:=d+7) (c:=cI ba (fH EC) 37 [("desk",6)]) (x:="name") (pos:=(AT (uL EC).target)) (T:=lU v6 gy a7 ⟨zc i,zl i,[],[],[],[],[]⟩) (g:=[]) (o:=.list acc) (fv:=[("name",.any)]) (v:=v) rfl rfl (by rfl);exact this
 ·intro i v acc du hv hs;rw[dN] at hv;cases hx:nm[i]? with|none=>rw[hx] at hv;exact nS hv|some x=>rw[hx] at hs;cases hs
 ·intro i v acc y du hv hs;obtain⟨x,hx,rfl⟩:=oI.mp hs;obtain⟨h1,h2,h3⟩:=hz i x hx;have G:=JH (d:=d) (st:=lU v6 gy a7 ⟨zc i,zl i,[],[],[],[],[]⟩++[.list acc,.frame [("name",v)]]) (n:=24) (cs:=zc i) (ln:=zl i) (pb:=[]) (D3 rfl rfl rfl rfl rfl rfl rfl rfl) (by exact sS<|hzc i) (by decide);have e1:i8 (zc i) (zl i) []=(x,zc<|i+1,zl<|i+1,[]):=by rw[i8,h1,h2,h3]
  rw[e1] at G;refine⟨_,oT,dk (sc:=[.bg (.aH 273) [.ab 30],.aE (.str x)<|lU v6 gy a7 ⟨zc<|i+1,zl<|i+1,[],[],[],[],[]⟩++[.list acc,.frame [("name",v)]]]) (by rfl) ?_⟩;walk_at "obs"
  ·exact G
  ·exact cK JF
  exact JG (d:=d+7) (st:=lU v6 gy a7 ⟨zc i,zl i,[],[],[],[],[]⟩++[.list acc,.frame [("name",v)]]) (n:=24) (cs:=zc i) (ln:=zl i) (pb:=[])<|D3 rfl rfl rfl rfl rfl rfl rfl rfl
 ·intro i v y hv hs;obtain⟨z,_,rfl⟩:=oI.mp hs;rfl
 apply cC (anH<|by decide);rw[D2 _ 0 (by rw[aV,lq]),sQ,bU,cG,cP];exact cJ _
end
section
variable {d:Nat}
def sv:aq×aq×List bl:=dc (cH.body.drop 10)
def aad:List bl:=rO sv.2.2 0
def xm:G1:=MT (ep (Wx (iL (g7 aad 1))))
def t6:G1:=MT (ep (Wx (ew (ew (iL (g7 aad 2)) 0) 1)))
def j9 (p:Nat):ae:=.d3 xm.args xm.body xm.scope [("rank",p)] none
def sy (p q r:Nat):ae:=.d3 t6.args t6.body t6.scope [("sense",p),("rank",q),("names",r)] none
structure anK:Prop where
 bR:∀st nm qu cl pm cv ct (v:Str),db (vJ nm qu xm.args xm.body xm.scope cl pm cv ct) st [.str v] [] [("name",.str v)] st
 bQ:∀st nm qu cl pm cv ct (v:Str),db (vJ nm qu t6.args t6.body t6.scope cl pm cv ct) st [.str v] [] [("name",.str v)] st
theorem aae:anK:=⟨λst nm qu cl pm cv ct v=>pe (x1:="name") (λv1 S=>by kernel_rfl) gF,λst nm qu cl pm cv ct v=>pe (x1:="name") (λv1 S=>by kernel_rfl) gF⟩
theorem anL {st:List ae}{j p q r:Nat}{rk:List (Str×CV)}{v:Str}(hj:st[j]?=some (j9 p))(hp:st[p]?=some (.cell (some (.ab q))))(hq:st[q]?=some (.map rk))(hv:rk.lookup v=some (af r))(b9:(st.all λo=>o.lo st.length)=true):bM (d+2) (.ab j) [.str v] [] st (af r) st:=by
 have wT:∀e:aq,fF d e (.ab q) (.str v) (st++[.frame [("name",.str v)]]) (af r) (st++[.frame [("name",.str v)]]):=λe=>Wj (by rwa[d2 (bV.mp hq).1]) hv;have c1:ji {scope:=xm.scope,locals:=st.length,cells:=[("rank",p)]} (st++[ae.frame [("name",.str v)]]) "rank"=some (.ab q):=
  F3 (by rfl) rfl (by rw[d2 (bV.mp hp).1,hp])
 have c2:ji {scope:=xm.scope,locals:=st.length,cells:=[("rank",p)]} (st++[ae.frame [("name",.str v)]]) "name"=some (.str v):=
  CG rfl (by rw[dT<|aG _,fk];rfl) rfl rfl
 refine Hj (g:=[.frame [("name",.str v)]]) hj (λnm qu cl pm cv ct=>aae.bR st nm qu cl pm cv ct v) rfl rfl rfl rfl rfl ?_ (aG _) b9 rfl;exact jC (eu rfl rfl c1) (eu rfl rfl c2)<|wT _
theorem anM {st:List ae}{j p q r nq nr:Nat}{sn:Int}{nm:List Str}{rk:List (Str×CV)}{v:Str}{n i:Nat}(hj:st[j]?=some (sy p q r))(hp:st[p]?=some (.cell (some (.int sn))))(hq:st[q]?=some (.cell (some (.ab nq))))(hr:st[r]?=some (.cell (some (.ab nr))))(hnq:st[nq]?=some (.map rk))(hnr:st[nr]?=some (ax nm))(hv:rk.lookup v=some (af n))(hi:nm.findIdx? (λx=>x==v)=some i)(qU:nm.length<=10)(hsn:IntMulOk sn i)(b9:(st.all λo=>o.lo st.length)=true):bM (d+3) (.ab j) [.str v] [] st (.cB [af n,.int (sn*(i:Int))]) st:=by
 have L1:∀{k:Nat} {o:ae} {g:List ae},st[k]?=some o->(st++g)[k]?=some o:=λh=>by rwa[d2 (bV.mp h).1]
 have cR:ji {scope:=t6.scope,locals:=st.length,cells:=[("sense",p),("rank",q),("names",r)]} (st++[ae.frame [("name",.str v)]]) "rank"=some (.ab nq):=
  F3 rfl (by rfl) (L1 hq)
 have cS:ji {scope:=t6.scope,locals:=st.length,cells:=[("sense",p),("rank",q),("names",r)]} (st++[ae.frame [("name",.str v)]]) "sense"=some (.int sn):=
  F3 (by rfl) rfl (L1 hp)
 have cN:ji {scope:=t6.scope,locals:=st.length,cells:=[("sense",p),("rank",q),("names",r)]} (st++[ae.frame [("name",.str v)]]) "names"=some (.ab nr):=
  F3 rfl rfl (L1 hr)
 have c2:ji {scope:=t6.scope,locals:=st.length,cells:=[("sense",p),("rank",q),("names",r)]} (st++[ae.frame [("name",.str v)]]) "name"=some (.str v):=
  CG rfl (by rw[dT<|aG _,fk];rfl) rfl rfl
 have ED:(nm.map CV.str).findIdx? (λx=>gQ x<|.str v)=some i:=by rwa[RX]
 have ci:bk (d+1) (.bi "list.index") [.ab nr,.str v] [] (st++[.frame [("name",.str v)]]) (.int i) (st++[.frame [("name",.str v)]]):=Wd (L1 hnr) (lJ.mpr<|qJ nm) rfl (by rw[vj λy hy=>by obtain⟨s,_,rfl⟩:=cu.mp hy;rfl];exact o6) (by rw[aV];exact ah [_] (.le .o .t<|.gt .o<|.n<|2^62) rfl qU) ED;refine Hj (g:=[.frame [("name",.str v)]]) hj (λnm qu cl pm cv ct=>aae.bQ st nm qu cl pm cv ct v) rfl (by rfl) (by rfl) (by rfl) (by rfl) ?_ (aG _) b9 rfl;exact CJ (oO rfl (jC (eu rfl rfl cR) (eu rfl rfl c2)<|(λe=>Wj (es:=rk) (L1 hnq) hv) _) (oO rfl (Uy (eu rfl rfl cS) (Lu rfl (by decide) (eu rfl rfl cN) (WZ<|L1 hnr) (oO rfl (eu rfl rfl c2) sW) F8 gP ci rfl)<|UU hsn) sW)) (show 2<=cX by decide)
end
section
variable {d:Nat}
def v9 (k:CV):List (Str×CV):=[("k",k),("free",.any),("signs",.str (bh sg)),("text",.str T),("row",.ab 34),("wrong",.ab 35),("words",.ab 36),("side",.aH (Iz rt))]
section
variable {d:Nat}{st:List ae}{k j p q:Nat}{ns:List Str}{x:Str}
def JJ (ns:List Str)(fr:List ae):List ae:=[.list (ns.map CV.str),j9 2,.cell (some (.ab 3)),.map rk]++fr
theorem anP (hn:4<=n)(hf:(fr.all λo=>o.lo n)=true):((JJ ns fr).all λo=>o.lo n)=true:=by refine cC ?_ hf;simp [bU,cG,cP];refine⟨cJ ns,?_,decide_eq_true<|ah [_] (.le (.n 4) .o<|.gt (.n 3) .o) rfl hn,BP⟩;show([("rank",2)].all (λp=>decide (p.2<n))&&_)=true;rw[bU,decide_eq_true (by exact ah [_] (.le (.n 4) .o<|.gt (.n 2) .o) rfl hn:2<n)];rfl
theorem aag (hv:∃r:Nat,rk.lookup v=some (af r)):Be (d+2) ns (qR rk) (j9 2) (.cell (some (.ab 3))) (.map rk) v:=by obtain⟨r,h1,h2⟩:=akM hv;refine⟨λfr=>Xq rfl,λfr=>?_⟩;rw[h2];have b9:=anP (ns:=ns) (fr:=[]) (aG 4) rfl;exact(anL rfl rfl rfl h1 b9).call.wide rfl b9 b9 rfl rfl rfl rfl
theorem anR:jz X.K (.ref 197)=true:=iG (by kernel_rfl)
theorem anS:∀{d} {st} {k j p q} {ns} {x} (rt:Bool),st[k]?=some (ax ns)->st[j]?=some (j9 p)->st[p]?=some (.cell (some (.ab q)))->st[q]?=some (.map rk)->(∀v∈x::ns,∃r:Nat,rk.lookup v=some (af r))->ns.length<2^20->bk (d+6) (.aH (if rt then 197 else 215)) [.ab k,.str x] [("key",.ab j)] st .none (st.set k (ax (jb rt rk x ns))):=λ{d st k j p q ns x} rt hk hj hp hq hv hl=>by
 have n1:k≠j:=λe=>by rw[e,hj] at hk;cases hk
 have n2:k≠p:=λe=>by rw[e,hp] at hk;cases hk
 have n3:k≠q:=λe=>by rw[e,hq] at hk;cases hk
 have n4:j≠p:=λe=>by rw[e,hp] at hj;cases hj
 have n5:j≠q:=λe=>by rw[e,hq] at hj;cases hj
 have n6:p≠q:=λe=>by rw[e,hq] at hp;cases hp
 have hn:[k,j,p,q].Nodup:=by simp [n1,n2,n3,n4,n5,n6]
 have hK:pn (d+1+1) ns (qR rk) (j9 2) (.cell<|some<|.ab 3) (.map rk):=λv hm=>aag<|hv v<|.tail _ hm;have hx:=aag (d:=d+2) (ns:=ns)<|hv x<|.head _;have k1:(j9 2).lo 4=true:=by kernel_rfl
 have k3:=BP (n:=4);have C:bM (d+1+5) (.aH<|if rt then 197 else 215) [.ab 0,.str x] [("key",.ab 1)] (JJ ns []) .none (JJ (jb rt rk x ns) []):=by cases rt with|true=>exact b18 true hK hx (λi=>W9<|λv1 v2 v3 v4 v5 S=>by kernel_rfl) (NM (uT:=[("lo",.int 0),("hi",.none)]) (qB:=[("lo",.int 0 557),("hi",.none)]) (λv1 v2 v3 S=>by kernel_rfl)<|λown hp k kv h=>⟨_,_,rfl,⟨_,rfl⟩,_,_,rfl,rfl,h⟩) hl k1 rfl k3|false=>exact b18 false hK hx (λi=>W9<|λv1 v2 v3 v4 v5 S=>by kernel_rfl) (NM (uT:=[("lo",.int 0),("hi",.none)]) (qB:=[("lo",.int 0 584),("hi",.none)]) (λv1 v2 v3 S=>by kernel_rfl)<|λown hp k kv h=>⟨_,_,rfl,⟨_,rfl⟩,_,_,rfl,rfl,h⟩) hl k1 rfl k3
 have rkr:∀f,(ae.map rk).bI f=some (.map rk):=λf=>ae.kR (λk hk=>absurd hk<|zY k) _<|BP;refine(C.at [k,j,p,q] hn ?_ rfl ?_ ?_ ?_ (HX rfl)).call
 ·unfold g4;exact cq (gq hk<|fz<|yM _ _)<|cq (gq hj<|FZ (Ug (gr _ 2 _ hn rfl) rfl) rfl)<|cq (gq hp<|Uf<|gr _ 3 _ hn rfl)<|cq (gq hq<|rkr _) iF
 ·exact gC (ij<|gr _ 0 _ hn rfl)<|tM rfl
 ·exact Ue (gr _ 1 _ hn rfl) rfl
 refine HT rfl (by simp) hn (λa i e=>?_) λi hi=>(by rw[lZ<|λe=>hi<|by simp [e]])
 match a,e with
 |0,e=>obtain rfl:=dE e;exact⟨_,ax<|jb rt rk x ns,rfl,fz<|yM _ _,by rw[vM<|(bV.mp hk).1]⟩|1,e=>obtain rfl:=dE e;exact⟨_,j9 p,rfl,rfl,by rw[lZ n1,hj]⟩|2,e=>obtain rfl:=dE e;exact⟨_,.cell<|some<|.ab q,rfl,rfl,by rw[lZ n2,hp]⟩|3,e=>obtain rfl:=dE e;exact⟨_,.map rk,rfl,rkr _,by rw[lZ n3,hq]⟩|a+4,e=>exact nS e
end
def eB:Cl:={gy with JD:=some (.int (D4 rt))}
def eI (vars:List (Str×CV))(c:Cl)(G:List ae)(D:de):List ae:=pB vars c++(G++(vC D++[ax nm]))
theorem aai (hn:37<=n)(hk:kv.lo 0=true):((eI (v9 kv) eB a7 D).all λo=>o.lo n)=true:=by
 have hd:∀i,i<37->(CV.ab i).lo n=true:=λi hi=>decide_eq_true<|o3 hi hn;refine cC (t4 (ah [_] (.le (.n 37) .o<|.gl .j .o) rfl hn) ?_ ?_)<|cC zA<|cC (zz<|ah [_] (.le (.n 37) .o<|.gl (.n 32) .o) rfl hn) ?_
 ·simp [v9,bU,cG,cP,bz];exact⟨CV.mD (dQ _) _ hk,rfl,rfl,rfl,hd 34 (by decide),hd 35 (by decide),hd 36 (by decide),rfl⟩
 ·simp [bU,cG,cP,bz];exact⟨hd 20 (by decide),hd 21 (by decide),hd 30 (by decide),hd 32 (by decide),hd 33 (by decide),rfl,rfl,rfl,rfl,hd 18 (by decide),hd 19 (by decide),rfl⟩
 simp [cG,cP];exact cJ _
theorem anT {G:List ae}{D D':de}(hg:G.length=8)(hW:lx d ba EC (lU v6 gy G D) (.ab 36) (lU v6 gy G D'++[ax nm])):aI d ba ((cH.body.drop 8).take 2) (lU v6 gy G D) .next (eI (v9 .any) eB G D'):=by
 have hd:=DW (s:=s1) (bi:=15) (ci:=2) rfl rfl;have aZ:s1/15%2<2:=kg _ (by decide);obtain⟨b0,b1,b2,b3,b4,b5,b6,b7,rfl⟩:∃b0 b1 b2 b3 b4 b5 b6 b7,G=[b0,b1,b2,b3,b4,b5,b6,b7]:=(by obtain⟨b0,_,rfl,h0⟩:=wY hg;obtain⟨b1,_,rfl,h1⟩:=wY h0;obtain⟨b2,_,rfl,h2⟩:=wY h1;obtain⟨b3,_,rfl,h3⟩:=wY h2;obtain⟨b4,_,rfl,h4⟩:=wY h3;obtain⟨b5,_,rfl,h5⟩:=wY h4;obtain⟨b6,_,rfl,h6⟩:=wY h5;obtain⟨b7,_,rfl,h7⟩:=wY h6;exact⟨_,_,_,_,_,_,_,_,by rw[Fj h7]⟩);have Ex:=F0.Ex;unfold eI v9 eB;generalize rt=b at Ex ⊢;cases b with
 |true=>
  have h0:s1/15%2=0:=by simpa using Ex
  apply aW (sc:=[.aE (.ab 36)<|lU v6 gy [b0,b1,b2,b3,b4,b5,b6,b7] D'++[ax nm],.val<|af s1,.no]) (by rfl);walk_at "obs"
  ·rw[hd,h0];decide
  ·exact jL rfl zu (o7 g9)
  exact hW
 |false=>
  have h0:s1/15%2=1:=by
   have:¬s1/15%2=0:=by simpa using Ex
   lia
  apply aW (sc:=[.aE (.ab 36)<|lU v6 gy [b0,b1,b2,b3,b4,b5,b6,b7] D'++[ax nm],.val<|af s1,.yes]) rfl;walk_at "obs"
  ·rw[hd,h0];decide
  ·exact jL rfl zu (o7 g9)
  exact hW
theorem anU {k:Nat}{x:Str}(hk:pl[k]?=some x)(hx:x≠"")(dD:x.length<2^17)(tK:x∈nm)(ey:∀v∈D.row,v∈nm)(QB:D.pb.length<=100)(tS:D.line.length<=100)(G0:D.drawn.length<=100)(EE:D.eM.length<=100)(EF:D.row.length<=10)(anV:tJ ((jb rt rk x D.row).map (vn nm rk rt))=some (aK (jb rt rk x D.row).length))(AH:∀v,v∈jb rt rk x D.row↔v=x∨v∈D.row)(anW:(jb rt rk x D.row).length=D.row.length+1):aI (d+10) ba sv.2.2 (eI (v9 (af k)) eB a7 D) .next (eI (v9 (af k)) eB a7 {D with pb:=D.pb++[x],line:=D.line++[("":Str)],drawn:=D.drawn++[("":Str)],row:=jb rt rk x D.row,eM:=D.eM++[false]}):=by
 obtain⟨cs,ln,pb,line,drawn,row,eM⟩:=D;dsimp only at *;have EG:∀(vars:List (Str×CV)) (D:de) (g:List ae),t5 (eI vars eB a7 D++g) 24 D.cs D.ln D.pb:=λvars D g=>D3 rfl rfl rfl rfl rfl rfl rfl rfl;have hI:=λ(st:List ae) (h34:st[34]?=some (ax row)) (h37:st[37]?=some (j9 14)) (h14:st[14]?=some (.cell<|some<|.ab 19)) (h19:st[19]?=some (.map rk))=>anS (d:=d+4) rt h34 h37 h14 h19 (λv hv=>by
  rcases pO.mp hv with e|e
  ·exact F0.Bs v<|e▸tK
  exact F0.Bs v<|ey v e) (by exact Cj EF)
 have my:∀v∈jb rt rk x row,v∈nm:=λv hv=>by
  rcases(AH v).mp hv with e|e
  ·exact e▸tK
  exact ey v e
 generalize jb rt rk x row=hZ at *;have k4:∀st:List ae,∀e,st[21]?=some (ax pl)->fF (d+10) e (.ab 21) (af k) st (.str x) st:=λst e h=>e8 h rfl hk (by exact pX zw);have aaj:hZ.length<=11:=by exact ah [_,_] (.eq .o (.a .i .j)<|.le .i .t<|.gl .o<|.n 11) rfl anW EF
 have an1:∀D:de,((eI (v9<|af k) eB a7 D++[j9 14,sy 15 14 13]).all λo=>o.lo 39)=true:=λD=>cC (aai (by decide) rfl) rfl;have an2:∀(i:Nat) (xc y:CV),(hZ.map CV.str)[i]?=some xc->((hZ.map<|vn nm rk rt).map qF)[i]?=some y->bk (d+8) (.ab 38) [xc] [] (eI (v9<|af k) eB a7 ⟨cs,ln,pb++[x],line,drawn,hZ,eM⟩++[j9 14,sy 15 14 13]) y (eI (v9<|af k) eB a7 ⟨cs,ln,pb++[x],line,drawn,hZ,eM⟩++[j9 14,sy 15 14 13]):=by
  intro i xc y h1 h2;rw[dN] at h1;rw[dN,dN] at h2;obtain⟨v,hv,rfl⟩:=oI.mp h1;rw[hv] at h2;obtain rfl:=dE h2;have QC:=my v<|c8 hv;obtain⟨r,hr⟩:=F0.Bs v QC;have hf:nm.findIdx? (λx=>x==v)=some (nm.findIdx<|λx=>x==v):=by rw[aqU];exact⟨aqV ⟨v,QC,by simp⟩,rfl⟩
  have hi5:nm.findIdx (λx=>x==v)<nm.length:=aqV ⟨v,QC,by simp⟩;have e:qF (vn nm rk rt v)=.cB [af r,.int<|D4 rt*((nm.findIdx (λx=>x==v):Nat):Int)]:=by unfold qF vn qR;rw[hr];rfl
  show bk (d+8) (.ab 38) [.str v] [] _ (qF<|vn nm rk rt v) _;rw[e];exact(anM rfl rfl rfl rfl rfl rfl hr hf (by exact KY Ey) (oK<|by cases rt<;>decide) (an1 _)).call
 have aak:=ajb (k:=34) (xs:=hZ.map CV.str) rfl (by rw[aV];exact TU aaj) rfl (by simp) an2 anV (by simp;exact TU aaj) (λi hi=>by simpa using hi);have an3:ae.list ((aK hZ.length).map λi=>(hZ.map CV.str).getD i .none)=ax hZ:=by rw[ax];congr 1;refine Ku (by simp) λi h1 h2=>?_;simp at h1 h2;simp [ed,h1]
 rw[an3] at aak;have cz:∀st:List ae,st[34]?=some (ax hZ)->st[39]?=some (ax hZ)->jj (d+10) .NotEq (.ab 34) (.ab 39) st (.bool false) st:=λst h1 h2=>by have:=Dc (d:=d+9) h1 h2 (lJ.mpr<|qJ hZ) (lJ.mpr<|qJ hZ) (by rw[vj λy hy=>by obtain⟨s,_,rfl⟩:=cu.mp hy;rfl];exact o6);rw[uH _<|lJ.mpr<|qJ hZ] at this;exact this
 have EH:∀(st:List ae) (q:Nat) (xs:List Str) (y:Str),st[q]?=some (ax xs)->xs.length<=200->bk (d+10) (.bi "list.append") [.ab q,.str y] [] st .none (st.set q<|ax<|xs++[y]):=λst q xs y h hl=>by have:=mX (d:=d+10) (v:=.str y) h (by rw[aV];show _<2^24;exact Cg hl);rw[ax,fU];exact this
 have BR:∀(st:List ae) (xs:List Bool) (y:Bool),st[35]?=some (sq xs)->xs.length<=200->bk (d+10) (.bi "list.append") [.ab 35,.bool y] [] st .none (st.set 35<|sq<|xs++[y]):=λst xs y h hl=>by have:=mX (d:=d+10) (v:=.bool y) h (by rw[aV];show _<2^24;exact Cg hl);rw[sq,fU];exact this
 have G:aI (d+10) ba sv.2.2 (eI (v9<|af k) eB a7 ⟨cs,ln,pb,line,drawn,row,eM⟩) .next
  (eI (v9<|af k) eB a7 ⟨cs,ln,pb++[x],line++[("":Str)],drawn++[("":Str)],hZ,eM++[false]⟩++[j9 14,sy 15 14 13,ax hZ]):=by
  refine aW (sc:=[.val<|.str x,.yes,.bg (.aH 280) [.ab 30],.val<|.str x,.aE .none<|eI (v9<|af k) eB a7 ⟨cs,ln,pb++[x],line,drawn,row,eM⟩,
   .val (.str x),.c7 (.ab 37)<|λst=>st++[j9 14],.aE .none<|eI (v9<|af k) eB a7 ⟨cs,ln,pb++[x],line,drawn,hZ,eM⟩++[j9 14],
   .bg (.bi "list.append") [.ab 35],.aE (.ab 38)<|eI (v9<|af k) eB a7 ⟨cs,ln,pb++[x],line,drawn,hZ,eM⟩++[j9 14,sy 15 14 13],.aE (.ab 39)<|(eI (v9<|af k) eB a7 ⟨cs,ln,pb++[x],line,drawn,hZ,eM⟩++[j9 14,sy 15 14 13])++[ax hZ],.val<|.bool false,
   .aE .none (eI (v9<|af k) eB a7 ⟨cs,ln,pb++[x],line,drawn,hZ,eM++[false]⟩++[j9 14,sy 15 14 13,ax hZ]),
   .bg (.bi "list.append") [.ab 32],.val<|.str x,.yes,.aE .none<|eI (v9<|af k) eB a7 ⟨cs,ln,pb++[x],line++[("":Str)],drawn,hZ,eM++[false]⟩++[j9 14,sy 15 14 13,ax hZ],
   .bg (.bi "list.append") [.ab 33],.val<|.str x,.yes,.aE .none<|eI (v9<|af k) eB a7 ⟨cs,ln,pb++[x],line++[("":Str)],drawn++[("":Str)],hZ,eM++[false]⟩++[j9 14,sy 15 14 13,ax hZ]]) (by rfl) ?_
  walk_at "obs"
  ·exact EH _ 33 _ _ (by rfl) (by exact Cm G0)
  ·exact vi hx
  ·show¬(x.length:Int)>=2^63;exact Ck dD
  ·exact k4 _ _ (by rfl)
  ·exact jX (by rfl)
  ·exact EH _ 32 _ _ (by rfl) (by exact Cm tS)
  ·exact vi hx
  ·show¬(x.length:Int)>=2^63;exact Ck dD
  ·exact k4 _ _ (by rfl)
  ·exact jX (by rfl)
  ·exact BR _ eM false rfl (by exact Cm EE)
  ·exact cz _ rfl rfl
  ·exact aak
  ·with_unfolding_all exact Hi rfl (λu=>rfl) rfl
  ·exact jX (xs:=eM.map CV.bool) rfl
  ·exact hI _ rfl rfl rfl rfl
  ·exact cK (by cases rt<;>first|exact anR|exact (iG<|by kernel_rfl))
  ·with_unfolding_all exact Hi (q:=(327,325)) rfl (λu=>rfl) rfl
  ·exact k4 _ _ rfl
  ·exact anu (d:=d+8) (EG _ ⟨cs,ln,pb,line,drawn,row,eM⟩ []) (by exact TT QB)
  ·exact cK anq
  ·exact k4 _ _ rfl
  ·exact ans<|EG _ ⟨cs,ln,pb,line,drawn,row,eM⟩ []
  ·exact vi hx
  ·show¬(x.length:Int)>=2^63;exact Ck dD
  exact k4 _ _ rfl
 exact G.drop (aG _) (aai (aG _) rfl) rfl
end
section
variable {d:Nat}
theorem aam {DD:Nat->de}:∀n k kv,(∀i,k<=i->i<k+n->Br nm rk rt pl sg s4 i (DD i) (DD (i+1)))->∃i9,fG (d+10) ba sv.1 sv.2.2 (λx=>True) ((fc k n).map af) (eI (v9 kv) eB a7 (DD k)) .next (eI (v9 i9) eB a7 (DD (k+n)))
 |0,k,kv,z=>⟨kv,.nil trivial⟩|n+1,k,kv,h=>by
  obtain⟨i9,R⟩:=aam (DD:=DD) n (k+1) (af k) (λi h1 h2=>h i (ug h1)<|by exact ah [_,_,_,_] (.lt .o (.a (.a .i .u) .w)<|.gt .o<|.a .i<|.a .w .u) rfl h2);have T1:aI (d+10) ba sv.2.2 (eI (v9<|af k) eB a7<|DD k) .next (eI (v9<|af k) eB a7<|DD<|k+1):=by
   have st:=h k (aG _) (by exact ah [_,_] (.gt .o<|.a .o<|.a .i .j) rfl);generalize DD k=D at *;generalize DD (k+1)=D' at *;cases st with
   |mA h1 h2 h3 h4 h5 h6 h7 h8 h9 pu QD QE h13=>exact anU h1 h2 h3 h4 h5 h6 h7 h8 h9 pu QD QE h13|cls h1 h2 h3 h4 h5 h6 h7 h8 h9 pu=>exact (show aI (d+10) ba sv.2.2 (eI (v9<|af k) eB a7 D) .next   (eI (v9<|af k) eB a7 {D with pb:=ps,line:=D.line++[p],drawn:=D.drawn++[y],row:=D.row.eraseIdx j}) from by
    obtain⟨cs,ln,pb,line,drawn,row,eM⟩:=D;dsimp only at *;subst h3;have EG:∀vars D g,t5 (eI vars eB a7 D++g) 24 D.cs D.ln D.pb:=λvars D g=>D3 rfl rfl rfl rfl rfl rfl rfl rfl;have pj:j<row.length:=(bV.mp h5).1;have an5:=akH<|sg.take k;have eG:(sg.take k).count false<=10:=fC abY (by rw[nG];exact Th pH);generalize (sg.take k).count false=c at *;have hd:=Bo (b:=5) (s:=s4) (k:=c) (bi:=5) (ci:=row.length) rfl rfl;have hpw:∀x,_:=λx=>DX (x:=x) (b:=5) rfl (by decide) (by decide) eG;rw[<-h4] at hd;have k4:∀st:List ae,∀e,st[21]?=some (ax pl)->fF (d+10) e (.ab 21) (af k) st (.str "") st:=λst e h=>e8 h rfl h1 (by exact pX zw);have EH:∀st q xs y,st[q]?=some (ax xs)->xs.length<=200->bk (d+10) (.bi "list.append") [.ab q,.str y] [] st .none (st.set q<|ax<|xs++[y]):=λst q xs y h hl=>by have:=mX (d:=d+10) (v:=.str y) h (by rw[aV];show _<2^24;exact Cg hl);rw[ax,fU];exact this
    have aal:=yu (d:=d+10) (e:=.Slice none none none default) (a:=.none) (b:=af k) (hi:=some k) rfl rfl (st:=eI (v9<|af k) eB a7 ⟨cs,ln,ps,line++[p],drawn,row,eM⟩) (by have:=yJ (bh sg) none<|some k;rw[np] at this;show _<=2^24;exact FD pH this);rw[akO h2] at aal;have Bn:=GP (d:=d+10) (st:=eI (v9<|af k) eB a7 ⟨cs,ln,ps,line++[p],drawn,row,eM⟩) (k:=34) (i:=j) rfl (by lia) (by rw[aV];exact rM pj) (by rw[dN,h5];rfl) (by rw[aV];show _<=2^24;exact ah [_] (.le .o .t<|.gl .o<|.n<|2^24) rfl pu);have an7:ae.list ((row.map CV.str).eraseIdx j)=ax (row.eraseIdx j):=by rw[ax,Pi]
    rw[an7] at Bn;apply aW (sc:=[.val<|.str "",.no,.bg (.bi "list.append") [.ab 32],.val<|.str "",.no,.bg (.aH 273) [.ab 30],.aE (.str p)<|eI (v9<|af k) eB a7 ⟨cs,ln,ps,line,drawn,row,eM⟩,.aE .none<|eI (v9<|af k) eB a7 ⟨cs,ln,ps,line++[p],drawn,row,eM⟩,
     .bg (.bi "list.append") [.ab 33],.val<|.str "",.no,.bg (.bi "list.pop") [.ab 34],.val<|af s4,.val<|.str<|bh<|sg.take k,.bg (.bi "str.count") [.str<|bh<|sg.take k],.val<|af c,.val<|.int row.length,.aE (.str y)<|eI (v9<|af k) eB a7 ⟨cs,ln,ps,line++[p],drawn,row.eraseIdx j,eM⟩,
     .aE .none (eI (v9<|af k) eB a7 ⟨cs,ln,ps,line++[p],drawn++[y],row.eraseIdx j,eM⟩)]) (by rfl)
    walk_at "obs"
    ·exact EH _ 33 _ _ (by rfl) (by exact Cm h9)
    ·rw[hd];exact Bn
    ·exact KP pj
    ·exact qM (by rfl) (by exact Cj pu)
    ·exact hpw _
    ·show bk (d+10) (.bi "str.count") [.str<|bh<|sg.take k,.str ")"] [] _ (.int c) _;rw[<-an5];exact MP
    ·exact yy
    ·exact λA own s x y q S r1 r2=>aal A own s x y q S r1 r2
    ·exact jL (by rfl) hs4 (by exact o7 g9)
    ·exact A4 (by rfl)
    ·exact k4 _ _ (by rfl)
    ·exact jX rfl
    ·exact EH _ 32 _ _ rfl (by exact Cm h8)
    ·exact JH (d:=d+3) (EG _ ⟨cs,ln,p::ps,line,drawn,row,eM⟩ []) (by show cs.length<=_;exact sS h6) (by show(p::ps).length<=_;exact TT h7)
    ·exact cK JF
    ·exact JG<|EG _ ⟨cs,ln,p::ps,line,drawn,row,eM⟩ []
    ·exact k4 _ _ rfl
    ·exact jX (xs:=line.map CV.str) rfl
    exact k4 _ _ rfl)
  refine⟨i9,?_⟩;rw[mO,eC,show k+(n+1)=k+1+n by exact z9];exact .cons trivial ((i4 (sc:=[]) rfl aX)) T1 (.inl rfl) R
theorem an':aI (d+10) ba ((cH.body.drop 10).take 1) (eI (v9 .any) eB a7 (DD 0)) .next (eI (v9 .any) eB a7 (DD (2*m))):=by
 obtain⟨kv,L⟩:=aam (d:=d) (2*m) 0 .any<|λi x h=>F0.IC i<|ah [_,_] (.lt .o (.a .k .i)<|.gt .o .i) rfl h;rw[<-pW,lq] at L;have F:∀{tt i:aq} {b:List bl} {p:Pos},tt=sv.1->b=sv.2.2->i=sv.2.1->dB (d+10) ba (.For tt i b [] p) (eI (v9 .any) eB a7<|DD 0) .next (eI (v9 kv) eB a7<|DD<|2*m):=by intro tt i b p h1 h2 h3;subst h1;subst h2;subst h3;obtain⟨sr⟩:=mE (2*m)<|rA dz;refine mq sr rfl (dk (sc:=[.val<|.fW 0 (2*m:Nat) 1]) (by rfl) ?_) trivial L;walk_at "obs";exact oK (by decide)
 have G:=aW (body:=(cH.body.drop 10).take 1) (sc:=[.fl .next (λx=>eI (v9 kv) eB a7<|DD<|2*m)]) rfl (by walk_at "obs";exact F rfl rfl rfl);have W:=G.fj ["k"] (i:=1) rfl;exact W
end
section
variable {d:Nat}
section
variable {G:List ae}{D:de}
def mJ:Cl:={eB with JA:=some (.str pc)}
def t7 (vars:List (Str×CV))(c:Cl)(G:List ae)(D:de):List ae:=pB vars c++(G++(vC D++[ax nm,ax iP]))
theorem aoa (hn:38<=n)(hk:kv.lo 0=true):((t7 (v9 kv) mJ a7 D).all λo=>o.lo n)=true:=by
 have hd:∀i,i<37->(CV.ab i).lo n=true:=λi hi=>decide_eq_true<|ah [_,_] (.le (.n 38) .o<|.lt .i (.n 37)<|.gt .i .o) rfl hn hi;refine cC (t4 (ah [_] (.le (.n 38) .o<|.gl .j .o) rfl hn) ?_ ?_)<|cC zA<|cC (zz<|ah [_] (.le (.n 38) .o<|.gl (.n 32) .o) rfl hn) ?_
 ·simp [v9,bU,cG,cP,bz];exact⟨CV.mD (dQ _) _ hk,rfl,rfl,rfl,hd 34 (by decide),hd 35 (by decide),hd 36 (by decide),rfl⟩
 ·simp [cG,bz];exact⟨hd 20 (by decide),hd 21 (by decide),hd 30 (by decide),hd 32 (by decide),hd 33 (by decide),rfl,rfl,rfl,rfl,hd 18 (by decide),hd 19 (by decide),rfl⟩
 simp [cG,bz];exact⟨cJ _,cJ _⟩
theorem aob:aI d ba ((cH.body.drop 11).take 1) (eI (v9 .any) eB a7 D) .next (t7 (v9 .any) mJ a7 D):=by
 have h6:s3/1024%6<6:=kg _ (by decide);apply aW (sc:=[.val<|af s3,.val<|.str pc]) (by rfl);walk_at "obs"
 ·exact e8 (ns:=iP) (by rfl) (DW (c:=1024) (e:=6) (s:=s3) (bi:=1024) (ci:=6) rfl rfl) (by have:=F0.Z4;rw[ed,bA<|h6] at this;exact bA (show s3/1024%6<iP.length from h6)▸congrArg some this) (by decide)
 exact jL (by rfl) Z6<|o7 g9
def JK:aq:=iL (g7 cH.body 12)
theorem aoc (nu:∀x∈pl,x.length<=5){k:Nat}(hk:k<pl.length):∀cc e,cc=cI ba (fH JK) 39 [("sums",2),("places",5),("piece",9)]->e=(ew JK 0)->a8 d cc e (t7 (v9 .any) mJ a7 D++[.list acc,.frame [("k",af k)]]) (.str (lN pl pc (s1/5%3) k)) (t7 (v9 .any) mJ a7 D++[.list acc,.frame [("k",af k)]]):=λcc e h1 h2=>by
 subst h1;subst h2;have hx:pl[k]?=some (pl.getD k ""):=by rw[ed,bA hk];rfl
 have dD:=nu _<|c8 hx;unfold lN;generalize pl.getD k ""=x at *;have hd:=DW (c:=5) (e:=3) (s:=s1) (bi:=5) (ci:=3) rfl rfl;have wN:=Pb (c:=3) (s:=k) (ci:=3) rfl;have k4:∀st:List ae,∀e,st[21]?=some (ax pl)->fF d e (.ab 21) (af k) st (.str x) st:=λst e h=>e8 h rfl hx (pX zw);by_cases cz:x=""
 ·subst cz;rw[if_pos rfl];by_cases h3:k%3=s1/5%3
  ·rw[if_pos h3];apply dk (sc:=[.val<|.str "",.no,.val<|af s1,.yes]) rfl;walk_at "obs"
   ·rw[jF];have:(")").length=1:=by decide
    exact ah [_,_] (.eq .o .j<|.le .i .t<|.gl (.a .o .i)<|.n<|2^24) rfl this am8
   ·rw[hd,wN,h3];exact beq_self_eq_true _
   ·exact jL (j:=1) rfl zu (o7 g9)
   exact k4 _ _ rfl
  rw[if_neg h3];apply dk (sc:=[.val<|.str "",.no,.val<|af s1,.no]) rfl;walk_at "obs"
  ·rw[hd,wN,beq_eq_false_iff_ne];lia
  ·exact jL (j:=1) rfl zu (o7 g9)
  exact k4 _ _ rfl
 rw[if_neg cz];apply dk (sc:=[.val<|.str x,.yes,.val<|.str x]) rfl;walk_at "obs"
 ·rw[jF];have:("(\\").length=2:=by decide
  exact ah [_,_] (.eq .o (.n 2)<|.le .i (.n 5)<|.gl (.a .o .i)<|.n<|2^24) rfl this dD
 ·exact k4 _ _ rfl
 ·exact vi cz
 ·exact ah [_] (.le .o (.n 5)<|.g 1 0<|.no<|.il (.n<|2^63)<|.c .o) rfl dD
 exact k4 _ _ rfl
end
end
section
variable {d:Nat}{c:aY}
section
variable {T:List ae}{n:Nat}{p1 p2 p3 p4 p5 px pos:Pos}{scope:d8}{iter:aq}{a:CV}{xs:List Nat}{cl:List (Str×Nat)}{x5 tV:Nat}
theorem JL {pl:List Str}{z:Str}{o:ae}{k:Nat}(hy:(z=="__debug__")=false)(hz:(z=="__classdict__")=false)(hl:cc.locals=n+1)(tw:cc.scope.names.lookup ("k":Str)=some .local)(cp:cc.scope.names.lookup z=some .cell)(eG:cc.cells.lookup z=some x5)(hT:T.length=n)(h5:T[x5]?=some (.cell (some (.ab tV))))(nx:T[tV]?=some (ax pl))(hp:pl.length<=100)(hx:∀x∈pl,x.length<=100)(hk:k<pl.length):fx d cc (.Subscript (.Name z p2) (.Name "k" p3) p4) (T++o::.frame [("k",af k)]::g) (fA pl k) (T++o::.frame [("k",af k)]::g):=by
 have L1:∀{i:Nat} {o':ae},T[i]?=some o'->(T++o::.frame [("k",af k)]::g)[i]?=some o':=λh=>by rwa[d2 (bV.mp h).1]
 have gE:pl[k]?=some (pl.getD k ""):=by rw[ed,bA hk];rfl
 have dD:=hx _<|c8 gE;unfold fA;generalize pl.getD k ""=x at *;have tr:rF d (.str x) (T++o::.frame [("k",af k)]::g) (!decide (x="")) (T++o::.frame [("k",af k)]::g):=by
  have:((x.length:Int) != 0)= !decide (x=""):=by
   by_cases h:x=""
   ·subst h;decide
   rw[vi h];simp [h]
  exact this▸Ly (by exact SR dD)
 exact LD rfl (jC (eu hy hz<|Aq cp eG<|L1 h5) (nh rfl rfl hT hl tw rfl rfl)<|e8 (L1 nx) rfl gE (FE hp)) tr
theorem b35 {e:aq}{S:List ae}{k:Nat}(h:fx d c e S (fA pl k) S):fx d c (.UnaryOp .Not e p5) S (pw pl k) S:=by rw[show pw pl k= !fA pl k by unfold pw fA;rw[abk]];exact Lz h
theorem b36 {e:aq}{P:List ae->Prop}(f:Nat->Bool)(J:b32 d c (.Name "k" p1) iter [e] fJ scope pos px "k" T T n P a cl (xs.map af))(h:∀k∈xs,∀acc,fx d (cI c scope (n+1) cl) e (T++[.list acc,.frame [("k",af k)]]) (f k) (T++[.list acc,.frame [("k",af k)]])):b41 d c (.ListComp (.Name "k" p1) [⟨.Name "k" px,iter,[e],fJ⟩] scope pos) T (.ab n) (T++[a0 (xs.filter f)]):=by rw[show a0 (xs.filter f)=.list ((xs.filter f).map af) by rw[a0,fV];rfl];exact b30 f af af J λv hv acc du=>⟨ms<|h v hv acc,λx=>nh rfl rfl J.2.2.2.2.2.1 rfl J.2.1 rfl rfl,rfl⟩
end
end
section
variable {d:Nat}
def cA (p q eN:CV):List (Str×CV):=[("p",p),("q",q),("told",eN),("k",.any),("free",.any),("signs",.str (bh sg)),("text",.str T),("row",.ab 34),("wrong",.ab 35),("words",.ab 36),("side",.aH (Iz rt)),("units",.ab 38)]
def xn:List (Str×CV):=[("k",.any),("free",.any),("signs",.str (bh sg)),("text",.str T),("row",.ab 34),("wrong",.ab 35),("words",.ab 36),("side",.aH (Iz rt)),("units",.ab 38)]
theorem QF:jz X.K (.ref 245)=true:=iG (by kernel_rfl)
theorem QG:jz X.K (.ref 308)=true:=iG (by kernel_rfl)
theorem aap:∀{d} {st} {x},x.length<=1000->bk (d+8) (.aH 245) [.str x] [] st (.bool (m9 x)) st:=λ{d st x} hx=>OO ((by obtain⟨g,B⟩:=ah8 (λst x=>pe (λv1 S=>by kernel_rfl) gF) hx;exact ahD.code (pe (λv1 S=>by kernel_rfl) gF) (by kernel_rfl) (λq h=>by exact nS h) B (.inl rfl) (aG _) rfl rfl)) rfl rfl rfl
theorem aaq:∀{d} {st} {x},x.length<=1000->bk (d+2) (.aH 308) [.str x] [] st (.bool (n7 x)) st:=λ{d st x} hx=>OO ((by obtain⟨c',B⟩:=ahP (fC hx<|by decide);exact ahn.code (pe (λv1 S=>by kernel_rfl) gF) (by kernel_rfl) (λq h=>by exact nS h) B (.inl rfl) (aG _) rfl rfl)) rfl rfl rfl
section
variable {nest:List Str}{G:List ae}{D:de}{dL gx:List Nat}
def f5 (vars:List (Str×CV))(c:Cl)(G:List ae)(D:de)(nest:List Str):List ae:=pB vars c++(G++(vC D++[ax nm,ax iP,ax units,ax nest]))
def cy:Cl:={mJ with nest:=some (.ab 39)}
theorem xq {p:CV}(hn:40<=n)(h1:p.lo 0=true)(h2:q.lo 0=true)(h3:eN.lo 0=true):((f5 (cA p q eN) cy a7 D nest).all λo=>o.lo n)=true:=by
 have hd:∀i,i<40->(CV.ab i).lo n=true:=λi hi=>decide_eq_true<|o3 hi hn;have h0:∀{v:CV},v.lo 0=true->v.lo n=true:=λAS=>CV.mD (dQ _) _ AS;refine cC (t4 (ah [_] (.le (.n 40) .o<|.gl .j .o) rfl hn) ?_ ?_)<|cC zA<|cC (zz<|ah [_] (.le (.n 40) .o<|.gl (.n 32) .o) rfl hn) ?_
 ·simp only [cA,bU,cG,cP,bz];exact⟨h0 h1,h0 h2,h0 h3,rfl,rfl,rfl,rfl,hd 34 (by decide),hd 35 (by decide),hd 36 (by decide),rfl,hd 38<|by decide⟩
 ·simp [bU,cG,cP];exact⟨hd 20 (by decide),hd 21 (by decide),hd 30 (by decide),hd 32 (by decide),hd 33 (by decide),rfl,hd 39 (by decide),rfl,rfl,hd 18 (by decide),hd 19 (by decide),rfl⟩
 simp [bz];exact⟨cJ _,cJ _,cJ _,cJ _⟩
def aar:aq:=iL (g7 cH.body 13)
def EI (vars:List (Str×CV))(c:Cl)(G:List ae)(D:de):List ae:=pB vars c++(G++(vC D++[ax nm,ax iP,ax units]))
theorem aof (hn:39<=n):((EI xn mJ a7 D).all λo=>o.lo n)=true:=by
 have hd:∀i,i<39->(CV.ab i).lo n=true:=λi hi=>decide_eq_true<|o3 hi hn;refine cC (t4 (ah [_] (.le (.n 39) .o<|.gl .j .o) rfl hn) ?_ ?_)<|cC zA<|cC (zz<|ah [_] (.le (.n 39) .o<|.gl (.n 32) .o) rfl hn) ?_
 ·simp only [xn,bU,cG,cP,bz];exact⟨rfl,rfl,rfl,rfl,hd 34 (by decide),hd 35 (by decide),hd 36 (by decide),rfl,hd 38<|by decide⟩
 ·simp [bU,cG,cP,bz];exact⟨hd 20 (by decide),hd 21 (by decide),hd 30 (by decide),hd 32 (by decide),hd 33 (by decide),rfl,rfl,rfl,rfl,hd 18 (by decide),hd 19 (by decide),rfl⟩
 simp [bU,cG,cP,bz];exact⟨cJ _,cJ _,cJ _⟩
theorem aog:lx d ba aar (EI xn mJ a7 D) (.ab 39) (EI xn mJ a7 D++[ax (cD sg.length "")]):=by have iter:=dk (d:=d) (c:=ba) (st:=EI xn mJ a7 D) (sc:=[]) (e:=(kZ aar)) (by rfl) aX;have src:Nonempty (iY (.str<|bh sg) (sg.map λb=>CV.str<|if b then"(" else")")<|λx=>True):=YO▸⟨Gw _⟩;rw[ax,Kx,<-List.map_const];exact KB<|b31 _ _ ⟨⟨rfl,rfl,rfl,rfl,rfl⟩,rfl,iter,src,λx=>trivial,rfl,aG _,aof (by decide),by rw[aV];exact rr pH⟩ λi hi acc du=>⟨by exact CH rfl,rfl⟩
theorem aoh (nu:∀x∈pl,x.length<=5):aI d ba ((cH.body.drop 12).take 2) (t7 (v9 .any) mJ a7 D) .next (f5 (cA .any .any .any) cy a7 D (cD (2*m) "")):=by
 have U:=(show lx d ba JK (t7 (v9 .any) mJ a7 D) (.ab 38) (t7 (v9 .any) mJ a7 D++[ax<|(aK<|2*m).map<|lN pl pc<|s1/5%3]) from by have iter:=dk (d:=d) (c:=ba) (st:=t7 (v9 .any) mJ a7 D) (sc:=[.val<|.fW 0 (2*m:Nat) 1]) (e:=(kZ JK)) (by rfl) (by walk_at "obs";exact oK<|by decide);rw[ax,fV];exact KB<|b31 _ af ⟨⟨rfl,rfl,rfl,rfl,rfl⟩,rfl,iter,mE (2*m)<|rA dz,λx=>trivial,rfl,aG _,aoa (by decide) rfl,by rw[aV,fb];exact rA dz⟩ λi hi acc du=>⟨by exact aoc nu (o1 (gz.mp hi) sk) _ _ rfl rfl,rfl⟩);rw[F0.lQ] at U;have N:=aog (d:=d) (D:=D);rw[qZ] at N;generalize cD (2*m) ("":Str)=nest at *;have G:=aW (c:=ba) (body:=(cH.body.drop 12).take 2) (st:=t7 (v9 .any) mJ a7 D) (ag:=f5 xn cy a7 D nest) (sc:=[.c7 (.ab 38)<|λst=>st++[ax units],.c7 (.ab 39)<|λst=>st++[ax nest]]) rfl (by
  walk_at "obs"
  ·exact N
  exact U)
 have W:=G.fj ["p","q","told"] (i:=1) rfl;exact W
end
end
section
variable {d:Nat}
section
variable {nest:List Str}{G:List ae}{D:de}{dL gx:List Nat}
def sz:aq×aq×List bl:=dc (dc (cH.body.drop 14)).2.2
def lV (vars:List (Str×CV))(c:Cl)(G:List ae)(D:de)(nest:List Str)(os cs:List Nat):List ae:=f5 vars c G D nest++[a0 os,a0 cs]
theorem aoi {p:Nat}{x:Str}(lQ:units.length<=10)(hq:q<sg.length)(wA:p<=q)(hqu:q<units.length)(QH:q<nest.length)(iQ:nest.length<=10)(hn:n<=200)(hx:pl[p]?=some x)(hc:m9 (gY "" (jc units p q))=b)(he:n7 (bh (k9 sg p q))=b):aI (d+10) ba sz.2.2 (lV (cA (af p) (af q) eN) cy a7 (d1 D n) nest dL gx) (if b then .brk else .next) (lV (cA (af p) (af q) (.bool b)) cy a7 (d1 D (n+1)) (if b then nest.set q x else nest) dL gx):=by
 have EJ:∀u∈jc units p q,u.length<=20:=λu hu=>F0.Bw u<|Sa<|B4 hu;have g9:(jc units p q).length<=10:=by unfold jc;rw[nG,jA];exact acd QH iQ
 have hJ:zU "" (jc units p q)=true:=Hz EJ (by exact Su g9);have QI:(gY ""<|jc units p q).length<=200:=by have:=Iy EJ;exact Sv g9 this
 have cj:=λ(st:List ae) (h:st[42]?=some (.list<|(jc units p q).map CV.str))=>AR (d:=d+10) h hJ;have ck:=λ(st:List ae)=>aap (d:=d+2) (st:=st) (x:=gY ""<|jc units p q) (by exact Sw QI);have wx:=λ(st:List ae) (e:aq) (EK:st[38]?=some (ax units))=>BN (d:=d+10) (e:=e) (x:=af p) (y:=.int<|(q:Int)+1) EK rfl rfl (by exact rr lQ);have eU:(units.drop<|eZ (some (p:Int)) units.length).take (i5 (some<|(q:Int)+1) units.length-eZ (some (p:Int)) units.length)=jc units p q:=by
  have e1:eZ (some (p:Int)) units.length=p:=by show nH _ _=_;rw[uP];lia
  have e2:i5 (some<|(q:Int)+1) units.length=q+1:=by show nH _ ((q:Int)+1)=_;rw[show((q:Int)+1)=((q+1:Nat):Int) by exact So,uP];exact Sp hqu
  rw[e1,e2,jc]
 simp only [eU] at wx;rw[hc] at ck;generalize gY "" (jc units p q)=J at *;have QJ:=λ(st:List ae) (e:aq)=>yu (d:=d+10) (e:=e) (x:=bh sg) (a:=af p) (b:=.int<|(q:Int)+1) (lo:=some (p:Int)) (hi:=some<|(q:Int)+1) rfl rfl (st:=st) (by have:=yJ (bh sg) (some (p:Int))<|some<|(q:Int)+1;rw[np] at this;show _<=2^24;exact FD pH this);simp only [(show gD (bh sg) (some (p:Int)) (some<|(q:Int)+1)=bh (k9 sg p q) from by
  rw[Dq,np];have e:i5 (some<|(q:Int)+1) sg.length=q+1:=by show nH _ ((q:Int)+1)=_;rw[show((q:Int)+1)=((q+1:Nat):Int) by exact So,uP];exact Sp hq
  have e2:eZ (some (p:Int)) sg.length=min p sg.length:=by show nH _ _=_;rw[uP]
  rw[e,e2];have e3:rq (min p sg.length) (bh sg).cps.toList=rq p (bh sg).cps.toList:=by
   by_cases h:p<=sg.length
   ·rw[zH h]
   rw[Nat.min_eq_right<|by exact Sq h];have hl:(bh sg).cps.toList.length=sg.length:=by show(sg.map λb=>if b then 40 else 41).length=_;rw[aV]
   rw[Fn (by exact ah [_,_] (.eq .o .i<|.gl .o .i) rfl hl),Fn<|by exact Ss hl h]
  rw[e3];by_cases h:p<=sg.length
  ·rw[zH h];simp only [bh,k9,oH,rn]
  have hl:(bh sg).cps.toList.length=sg.length:=by show(sg.map λb=>if b then 40 else 41).length=_;rw[aV]
  rw[Fn<|by exact Ss hl h];simp only [bh,k9,Fn (show sg.length<=p by exact Sq h),abA,abQ])] at QJ
 have EL:(bh<|k9 sg p q).length<=1000:=by rw[np];unfold k9;rw[nG,jA];exact ace QH iQ
 have ce:=λ(st:List ae)=>aaq (d:=d+8) (st:=st) EL;rw[he] at ce;have k4:∀st:List ae,∀e,st[21]?=some (ax pl)->fF (d+10) e (.ab 21) (af p) st (.str x) st:=λst e h=>e8 (ns:=pl) h rfl hx (by exact pX zw);have BR:∀(st:List ae),st[35]?=some (sq<|cD n false)->bk (d+10) (.bi "list.append") [.ab 35,.bool false] [] st .none (st.set 35<|sq<|cD (n+1) false):=λst h=>by have:=mX (d:=d+10) (v:=.bool false) h (by rw[aV,Fm];show _<2^24;exact Cg hn);rwa[sq,<-O6,fU]
 have x6:∀(st:List ae) (nest:List Str),st[39]?=some (ax nest)->q<nest.length->nest.length<=10->Gg (d+10) (.ab 39) (af q) (.str x) st (st.set 39<|ax<|nest.set q x):=λst nest h h1 h2=>by have:=Ov (d:=d+10) (v:=.str x) h rfl (by rwa[aV]) (by rw[aV];exact pX h2);rwa[<-rp] at this
 have JM:∀st:List ae,jj (d+10) .IsNot (.bool b) (.bool b) st (.bool false) st:=λst=>yq (r:=true) (by cases (b)<;>rfl);cases b with
 |true=>
  have Gx:aI (d+10) ba sz.2.2 (lV (cA (af p) (af q) eN) cy a7 (d1 D n) nest dL gx) .brk
   (lV (cA (af p) (af q)<|.bool true) cy a7 (d1 D<|n+1) (nest.set q x) dL gx++[ax<|jc units p q]):=by
   refine aW (sc:=[.bg (.bi "str.join") [.str ""],.c7 (.ab 42)<|λst=>st++[ax<|jc units p q],.val<|.str J,.val<|.bool true,.bg (.bi "list.append") [.ab 35],.val<|.str<|bh<|k9 sg p q,.val<|.bool true,.val<|.bool false,
    .aE .none (lV (cA (af p) (af q)<|.bool true) cy a7 (d1 D<|n+1) nest dL gx++[ax<|jc units p q]),.yes,.val<|.str x,
    .aE .none (lV (cA (af p) (af q)<|.bool true) cy a7 (d1 D<|n+1) (nest.set q x) dL gx++[ax<|jc units p q])]) rfl ?_
   walk_at "obs"
   ·exact x6 _ nest rfl QH iQ
   ·exact k4 _ _ rfl
   ·exact BR _ (by rfl)
   ·exact JM _
   ·exact ce _
   ·exact cK QG
   ·exact QJ _ _
   ·exact jX (by rfl)
   ·exact ck _
   ·exact cK QF
   ·exact cj _ (by rfl)
   ·exact wx _ _ (by rfl)
   exact yx
  refine Gx.drop (aG _) ?_ rfl;refine cC (xq (by show 40<=42;decide) rfl rfl rfl) ?_;simp only [bU,cG,cP,bz];exact⟨k8 _,k8 _⟩
 |false=>
  have Gx:aI (d+10) ba sz.2.2 (lV (cA (af p) (af q) eN) cy a7 (d1 D n) nest dL gx) .next
   (lV (cA (af p) (af q)<|.bool false) cy a7 (d1 D<|n+1) nest dL gx++[ax<|jc units p q]):=by
   refine aW (sc:=[.bg (.bi "str.join") [.str ""],.c7 (.ab 42)<|λst=>st++[ax<|jc units p q],.val<|.str J,.val<|.bool false,.bg (.bi "list.append") [.ab 35],.val<|.str<|bh<|k9 sg p q,.val<|.bool false,.val<|.bool false,
    .aE .none (lV (cA (af p) (af q)<|.bool false) cy a7 (d1 D<|n+1) nest dL gx++[ax<|jc units p q]),.no]) (by rfl) ?_
   walk_at "obs"
   ·exact BR _ (by rfl)
   ·exact JM _
   ·exact ce _
   ·exact cK QG
   ·exact QJ _ _
   ·exact jX (by rfl)
   ·exact ck _
   ·exact cK QF
   ·exact cj _ (by rfl)
   ·exact wx _ _ (by rfl)
   exact yx
  refine Gx.drop (aG _) ?_ rfl;refine cC (xq (by show 40<=42;decide) rfl rfl rfl) ?_;simp only [bU,cG,cP,bz];exact⟨k8 _,k8 _⟩
end
end
section
variable {d:Nat}
section
variable {nest:List Str}{G:List ae}{D:de}{dL gx:List Nat}
theorem aas {p:Nat}:dj d ba sz.1 (af q) (lV (cA (af p) qv eN) cy a7 (d1 D n) nest dL gx) (lV (cA (af p) (af q) eN) cy a7 (d1 D n) nest dL gx):=
 i4 (sc:=[]) rfl aX
theorem aat {p:Nat}{x:Str}(lQ:units.length<=10)(iQ:nest.length<=10)(hx:pl[p]?=some x)(hc:∀q,p<=q->q<units.length->m9 (gY "" (jc units p q))=tb p q)(he:∀q,p<=q->q<sg.length->n7 (bh (k9 sg p q))=tb p q)(bJ:units.length=sg.length)(tS:nest.length=sg.length):∀qs n qv eN,qv.lo 0=true->eN.lo 0=true->n+qs.length<=200->(∀q∈qs,p<=q∧q<sg.length)->∃n' jv jw,n'<=n+qs.length∧jv.lo 0=true∧jw.lo 0=true∧fG (d+10) ba sz.1 sz.2.2 (λst=>st[41]?=some (.list (gx.map af))) (qs.map af) (lV (cA (af p) qv eN) cy a7 (d1 D n) nest dL gx) .next (lV (cA (af p) jv jw) cy a7 (d1 D n') (r5 tb p x qs nest) dL gx)
 |[],n,qv,eN,h1,h2,z,v=>⟨n,qv,eN,aG _,h1,h2,.nil<|by show some (a0 gx)=_;rw[a0,fV];rfl⟩|q::qs,n,qv,eN,h1,h2,h3,h4=>by
  rw[dO] at h3;obtain⟨wA,hq⟩:=h4 q<|.head _;have T1:=aoi (d:=d) (D:=D) (dL:=dL) (gx:=gx) (eN:=eN) lQ hq wA (o1 hq bJ) (o1 hq tS:q<nest.length) iQ (n:=n) (ug h3) hx (hc q wA<|o1 hq bJ)<|he q wA hq;have hP:(lV (cA (af p) qv eN) cy a7 (d1 D n) nest dL gx)[41]?=some (.list<|gx.map af):=by show some (a0 gx)=_;rw[a0,fV];rfl
  unfold r5;rw[vV];cases hb:tb p q with|true=>rw[hb] at T1;exact⟨n+1,af q,.bool true,by rw[dO];exact ah [_,_,_] (.gl (.a .o .i)<|.a .o<|.a .u .i) rfl,rfl,rfl,.brk hP (aas) T1⟩|false=>rw[hb] at T1;obtain⟨n',jv,jw,h5,h6,h7,R⟩:=aat lQ iQ hx hc he bJ tS qs (n+1) (af q) (.bool false) rfl rfl (FF h3) (λr hr=>h4 r<|.tail _ hr);exact⟨n',jv,jw,by rw[dO];exact ah [_,_,_,_] (.le .o (.a (.a .i .u) .w)<|.gl .o<|.a .i<|.a .w .u) rfl h5,h6,h7,.cons hP (aas) T1 (.inl rfl) R⟩
def t8:aq×aq×List bl:=dc (cH.body.drop 14)
def ny (vars:List (Str×CV))(c:Cl)(G:List ae)(D:de)(nest:List Str)(os:List Nat):List ae:=f5 vars c G D nest++[a0 os]
theorem aom {p:Nat}{x:Str}(h1:qv.lo 0=true)(h2:eN.lo 0=true)(iQ:nest.length=2*m)(hx:pl[p]?=some x)(dD:∀x∈pl,x.length<=100)(hn:n<=100)(hc:∀q,p<=q->q<units.length->m9 (gY "" (jc units p q))=tb p q)(he:∀q,p<=q->q<sg.length->n7 (bh (k9 sg p q))=tb p q):∃n' jv jw,n'<=n+10∧jv.lo 0=true∧jw.lo 0=true∧aI (d+10) ba t8.2.2 (ny (cA (af p) qv eN) cy a7 (d1 D n) nest dL) .next (ny (cA (af p) jv jw) cy a7 (d1 D n') (r5 tb p x (mG pl m p) nest) dL):=by
 have hp:p<2*m:=by have:=(bV.mp hx).1;exact Sk this sk
 have eG:(mG pl m p).length<=10:=fC (abZ _ _)<|aqW▸acy dz;obtain⟨n',jv,jw,h5,h6,h7,R⟩:=aat (o2 BM dz) (o2 iQ dz) hx hc he (FI BM qZ) (FI iQ qZ:nest.length=sg.length) (mG pl m p) n qv eN h1 h2 (ah [_,_] (.le .o .t<|.le .i (.n 100)<|.gl (.a .i .o)<|.n 200) rfl eG hn) (λq hq=>by obtain⟨hq,_⟩:=Ca.mp hq;rw[Kw] at hq;obtain⟨i,hi,e⟩:=hq;have:=BM;have:=qZ;lia);refine⟨n',jv,jw,ah [_,_,_,_] (.le .o (.a .i .u)<|.le .u .w<|.gl .o<|.a .i .w) rfl h5 eG,h6,h7,?_⟩;have I:=(show a8 (d+10) ba sz.2.1 (ny (cA (af p) qv eN) cy a7 (d1 D n) nest dL) (.ab 41) (lV (cA (af p) qv eN) cy a7 (d1 D n) nest dL<|mG pl m p) from by
  have iter:=dk (d:=(d+10)) (c:=ba) (st:=ny (cA (af p) qv eN) cy a7 (d1 D n) nest dL) (sc:=[.val<|.fW (p+1) (2*m:Nat) 1]) (e:=(kZ sz.2.1)) rfl (by walk_at "obs";exact oK<|by decide);have src:=OM (p+1) (2*m-(p+1))<|acw hp dz;rw[show p+1+(2*m-(p+1))=2*m by lia] at src;have b9:((ny (cA (af p) qv eN) cy a7 (d1 D n) nest dL).all λo=>o.lo 41)=true:=by apply cC<|xq (by decide) rfl h1 h2;rw[bU,cG,cP];exact k8 _
  exact oJ<|b36 (pw pl) ⟨⟨rfl,rfl,rfl,rfl,rfl⟩,rfl,iter,src,λx=>trivial,rfl,aG _,b9,by rw[aV,aqW];exact acx dz⟩ λk hk acc=>b35<|JL rfl rfl rfl rfl rfl rfl rfl rfl rfl (z8 sk dz) dD (by rw[Kw] at hk;obtain⟨i,hi,e⟩:=hk;have:=sk;lia))
 have F:∀{tt i:aq} {b:List bl} {pp:Pos},tt=sz.1->b=sz.2.2->i=sz.2.1->dB (d+10) ba (.For tt i b [] pp) (ny (cA (af p) qv eN) cy a7 (d1 D n) nest dL) .next
  (lV (cA (af p) jv jw) cy a7 (d1 D n') (r5 tb p x (mG pl m p) nest) dL<|mG pl m p):=by
  intro tt i b pp h1 h2 h3;subst h1;subst h2;subst h3;exact mq (rI 41<|(mG pl m p).map af) rfl I (by show some (a0<|mG pl m p)=_;rw[a0,fV];rfl) R
 have Gx:=aW (body:=t8.2.2)
  (ag:=ny (cA (af p) jv jw) cy a7 (d1 D n') (r5 tb p x (mG pl m p) nest) dL++[a0<|mG pl m p]) (sc:=[.fl .next (λz=>lV (cA (af p) jv jw) cy a7 (d1 D n') (r5 tb p x (mG pl m p) nest) dL<|mG pl m p)]) rfl (by
  walk_at "obs";exact F rfl rfl rfl)
 refine Gx.drop (aG _) ?_ rfl;apply cC<|xq (by show 40<=41;decide) rfl h6 h7;rw[bU,cG,cP];exact k8 _
end
end
section
variable {d:Nat}
section
variable {nest:List Str}{G:List ae}{D:de}{dL gx:List Nat}
theorem aau (dD:∀x∈pl,x.length<=100):∀ps nest n pv qv eN,nest.length=2*m->qv.lo 0=true->eN.lo 0=true->n+10*ps.length<=110->(∀p∈ps,p<2*m)->∃n' vD jv jw,n'<=n+10*ps.length∧(pv.lo 0=true->vD.lo 0=true)∧jv.lo 0=true∧jw.lo 0=true∧fG (d+10) ba t8.1 t8.2.2 (λst=>st[40]?=some (.list (dL.map af))) (ps.map af) (ny (cA pv qv eN) cy a7 (d1 D n) nest dL) .next (ny (cA vD jv jw) cy a7 (d1 D n') (vo tb pl m ps nest) dL)
 |[],nest,n,pv,qv,eN,v,h1,h2,q,y=>⟨n,pv,qv,eN,by simp,λh=>h,h1,h2,.nil<|by show some (a0 dL)=_;rw[a0,fV];rfl⟩|p::ps,nest,n,pv,qv,eN,iQ,h1,h2,h3,h4=>by
  rw[dO] at h3;have hx:pl[p]?=some (pl.getD p ""):=by rw[ed,bA<|by exact o1 (h4 p<|.head _) sk];rfl
  obtain⟨n1,q1,t1,h5,h6,h7,T1⟩:=aom h1 h2 iQ hx dD (n:=n) (ah [_,_] (.le (.a .o<|.m 10<|.a .i .j) (.n 110)<|.gl .o<|.n 100) rfl h3) (F0.IG p)<|F0.IH p;obtain⟨n',vD,jv,jw,h8,h9,pu,QD,R⟩:=aau dD ps (r5 tb p (pl.getD p "") (mG pl m p) nest) n1 (af p) q1 t1 (by rwa[akQ]) h6 h7 (ah [_,_,_,_] (.le (.a .o<|.m 10<|.a .i .j) .u<|.le .w (.a .o .t)<|.gl (.a .w<|.m 10 .i) .u) rfl h3 h5)<|λr hr=>h4 r<|.tail _ hr;exact⟨n',vD,jv,jw,by rw[dO];exact ah [_,_,_,_] (.le .o (.a .i<|.m 10 .u)<|.le .i (.a .w .t)<|.gl .o<|.a .w<|.m 10<|.a .u .j) rfl h8 h5,λz=>h9 rfl,pu,QD,.cons (by show some (a0 dL)=_;rw[a0,fV];rfl) ((i4 (sc:=[]) (by rfl') aX)) T1 (.inl rfl) R⟩
theorem aoo (dD:∀x∈pl,x.length<=100)(iQ:nest.length=2*m)(hn:n<=10):∃n',n'<=110∧aI (d+10) ba ((cH.body.drop 14).take 1) (f5 (cA .any .any .any) cy a7 (d1 D n) nest) .next (f5 (cA .any .any .any) cy a7 (d1 D n') (vo tb pl m (lO pl m) nest)):=by
 have hol:(lO pl m).length<=10:=fC (abZ _ _) (by rw[fb];exact K4 dz);obtain⟨n',vD,jv,jw,h5,h6,h7,h8,R⟩:=aau dD (lO pl m) nest n .any .any .any iQ rfl rfl (ah [_,_] (.le .o .t<|.c 10 0 (.le .i .t)<|.gl (.a .o<|.m 10 .i)<|.n 110) rfl hn hol) (λp hp=>by obtain⟨hp,_⟩:=Ca.mp hp;rwa[gz] at hp);refine⟨n',ah [_,_,_] (.le .o .t<|.c 10 0 (.le .i .t)<|.le .u (.a .o<|.m 10 .i)<|.gl .u<|.n 110) rfl hn hol h5,?_⟩;have I:=(show a8 (d+10) ba t8.2.1 (f5 (cA .any .any .any) cy a7 (d1 D n) nest) (.ab 40) (ny (cA .any .any .any) cy a7 (d1 D n) nest<|lO pl m) from by have iter:=dk (d:=(d+10)) (c:=ba) (st:=f5 (cA .any .any .any) cy a7 (d1 D n) nest) (sc:=[.val<|.fW 0 (2*m:Nat) 1]) (e:=(kZ t8.2.1)) rfl (by walk_at "obs";exact oK<|by decide);exact oJ<|b36 (cl:=[("places",5)]) (fA pl) ⟨⟨rfl,rfl,rfl,rfl,rfl⟩,rfl,iter,mE (2*m)<|rA dz,λx=>trivial,rfl,aG _,xq (by decide) rfl rfl rfl,by rw[aV,fb];exact rA dz⟩ λk hk acc=>JL rfl rfl rfl rfl rfl rfl rfl rfl rfl (z8 sk dz) dD (by rw[gz] at hk;exact o1 hk sk));have F:∀{tt i:aq} {b:List bl} {pp:Pos},tt=t8.1->b=t8.2.2->i=t8.2.1->dB (d+10) ba (.For tt i b [] pp) (f5 (cA .any .any .any) cy a7 (d1 D n) nest) .next
  (ny (cA vD jv jw) cy a7 (d1 D n') (vo tb pl m (lO pl m) nest)<|lO pl m):=by
  intro tt i b pp h1 h2 h3;subst h1;subst h2;subst h3;exact mq (rI 40<|(lO pl m).map af) rfl I (by show some (a0<|lO pl m)=_;rw[a0,fV];rfl) R
 have Gx:=aW (body:=(cH.body.drop 14).take 1)
  (ag:=f5 (cA vD jv jw) cy a7 (d1 D n') (vo tb pl m (lO pl m) nest)++[a0<|lO pl m]) (sc:=[.fl .next (λz=>ny (cA vD jv jw) cy a7 (d1 D n') (vo tb pl m (lO pl m) nest)<|lO pl m)]) rfl (by
  walk_at "obs";exact F rfl rfl rfl)
 have W:=(Gx.drop (aG _) (xq (by show 40<=40;decide) (h6 rfl) h7 h8) rfl).fj ["p","q","told"] (i:=1) rfl;exact W
end
end
section
variable {d:Nat}
section
variable {G:List ae}{D:de}{dL gx:List Nat}
def JN:List (Str×CV):=cA .any .any .any++[(("ends":Str),CV.ab 40)]
def xr:aq×aq×List bl:=dc (cH.body.drop 15)
theorem aaw {p:Int}(lQ:units.length=sg.length)(hn:n<=200)(hr:r<=sg.length)(b9:eZ (some p) sg.length=r)(Ny:i5 (some p) sg.length=r)(hc:m9 (gY "" (fK units r))=b)(he:n7 (bh (fK sg r))=b):aI (d+10) ba xr.2.2 (f5 (cA (.int p) .any .any) cy a7 (d1 D n) nest) .next (f5 (cA (.int p) .any .any) cy a7 (d1 D (n+1)) nest):=by
 have EJ:∀u∈fK units r,u.length<=20:=λu hu=>by
  rcases f7.mp hu with h|h
  ·exact F0.Bw u<|Sa h
  exact F0.Bw u<|B4 h
 have g9:(fK units r).length<=10:=by unfold fK;rw[dJ,nG,jA,Nat.min_comm,Nat.sub_add_min_cancel,lQ];have:=BM;have:=dz;lia
 have hJ:zU "" (fK units r)=true:=Hz EJ (by exact Su g9);have QI:(gY ""<|fK units r).length<=200:=by have:=Iy EJ;exact Sv g9 this
 have cj:=λ(st:List ae) (h:st[42]?=some (.list<|(fK units r).map CV.str))=>AR (d:=d+10) h hJ;have ck:=λ(st:List ae)=>aap (d:=d+2) (st:=st) (x:=gY ""<|fK units r) (by exact Sw QI);have aax:=λ(st:List ae) (e:aq) (EK:st[38]?=some (ax units))=>BN (d:=d+10) (e:=e) (x:=.int p) (y:=.none) (lo:=some p) (hi:=none) EK rfl rfl (by exact KN lQ pH);have aay:=λ(st:List ae) (e:aq) (EK:st[38]?=some (ax units))=>BN (d:=d+10) (e:=e) (x:=.none) (y:=.int p) EK rfl rfl (by exact KN lQ pH);have e1:(units.drop<|eZ (some p) units.length).take (i5 none units.length-eZ (some p) units.length)=units.drop r:=by rw[lQ,b9];show z6 (sg.length-r) _=_;rw[uc<|by rw[jA];exact Tn lQ]
 have e2:(units.drop<|eZ none units.length).take (i5 (some p) units.length-eZ none units.length)=units.take r:=by rw[lQ,Ny];show z6 (r-0) (rq 0 _)=_;rw[sQ,vY]
 simp only [e1] at aax;simp only [e2] at aay;rw[hc] at ck;generalize gY "" (fK units r)=J at *;have hl:=λlo hi=>yJ (bh sg) lo hi;simp only [np] at hl;have aaz:=λ(st:List ae) (e:aq)=>yu (d:=d+10) (e:=e) (x:=bh sg) (a:=.int p) (b:=.none) (lo:=some p) (hi:=none) rfl rfl (st:=st) (by have:=hl (some p) none;show _<=2^24;exact FD pH this);have aaA:=λ(st:List ae) (e:aq)=>yu (d:=d+10) (e:=e) (a:=.none) (b:=.int p) rfl rfl (st:=st) (by have:=hl none<|some p;show _<=2^24;exact FD pH this);have s1:gD (bh sg) (some p) none=bh (sg.drop r):=by
  rw[Dq,np,b9];show(⟨(z6 (sg.length-r) _).toArray⟩:Str)=_;have zB:(bh sg).cps.toList.length=sg.length:=by show(sg.map λb=>if b then 40 else 41).length=_;rw[aV]
  rw[uc<|by rw[jA];exact Tn zB];simp only [bh,rn]
 have s2:gD (bh sg) none (some p)=bh (sg.take r):=by rw[Dq,np,Ny];show(⟨(z6 (r-0)<|rq 0 _).toArray⟩:Str)=_;rw[sQ,vY];simp only [bh,oH]
 simp only [s1] at aaz;simp only [s2] at aaA;have s3:bh (sg.drop r)++bh (sg.take r)=bh (fK sg r):=by refine xC ?_;rw[vR];simp only [bh,fK,fU,List.append_toArray]
 have EL:(bh<|fK sg r).length<=1000:=by rw[np];unfold fK;rw[dJ,nG,jA];exact acm pH
 have ce:=λ(st:List ae)=>aaq (d:=d+8) (st:=st) EL;rw[he] at ce;rw[<-s3] at ce EL;have aaB:=λ(st:List ae) (h41:st[41-1]?=some (ax<|units.drop r)) (QA:st[41]?=some (ax<|units.take r))=>Wk (d:=d+10) h41 QA (by rw[aV,aV,nG,jA];show _<=2^24;exact acn lQ pH);have BR:∀(st:List ae),st[35]?=some (sq<|cD n false)->bk (d+10) (.bi "list.append") [.ab 35,.bool false] [] st .none (st.set 35<|sq<|cD (n+1) false):=λst h=>by have:=mX (d:=d+10) (v:=.bool false) h (by rw[aV,Fm];show _<2^24;exact Cg hn);rw[sq,<-O6,fU];exact this
 have JM:∀st:List ae,jj (d+10) .IsNot (.bool b) (.bool b) st (.bool false) st:=λst=>yq (r:=true) (by cases (b)<;>rfl);have aoq:ae.list ((units.drop r).map CV.str++(units.take r).map CV.str)=ax (fK units r):=by rw[ax,fK,fU]
 simp only [aoq] at aaB;have Gx:aI (d+10) ba xr.2.2 (f5 (cA (.int p) .any .any) cy a7 (d1 D n) nest) .next
  (f5 (cA (.int p) .any .any) cy a7 (d1 D<|n+1) nest++[ax<|units.drop r,ax<|units.take r,ax<|fK units r]):=by
  refine aW (sc:=[.bg (.bi "list.append") [.ab 35],.bg (.bi "str.join") [.str ""],.c7 (.ab 40)<|λst=>st++[ax<|units.drop r],.c7 (.ab 41)<|λst=>st++[ax<|units.take r],.c7 (.ab 42)<|λst=>st++[ax<|fK units r],.val<|.str J,.val<|.bool b,.val<|.str<|bh<|sg.drop r,.val<|.str<|bh<|sg.take r,.val<|.bool b,.val<|.bool false,
   .aE .none (f5 (cA (.int p) .any .any) cy a7 (d1 D<|n+1) nest++[ax<|units.drop r,ax<|units.take r,ax<|fK units r])]) rfl ?_
  walk_at "obs"
  ·exact BR _ rfl
  ·exact JM _
  ·exact ce _
  ·exact cK QG
  ·show _<=2^24;exact To EL
  ·exact aaA _ _
  ·exact aaz _ _
  ·exact ck _
  ·exact cK QF
  ·exact cj _ rfl
  ·exact aaB _ rfl rfl
  ·exact aay _ _ rfl
  ·exact aax _ _ (by rfl')
  ·exact yx
  exact jX (by rfl')
 exact Gx.drop (aG _) (xq (by show 40<=40;decide) rfl rfl rfl) rfl
theorem aaC {p:Int}:dj d ba xr.1 (.int p) (f5 (cA pv .any .any) cy a7 D nest) (f5 (cA (.int p) .any .any) cy a7 D nest):=
 i4 (sc:=[]) rfl aX
theorem aor (hn:n<=190):aI (d+10) ba ((cH.body.drop 15).take 1) (f5 (cA .any .any .any) cy a7 (d1 D n) nest) .next (f5 (cA .any .any .any) cy a7 (d1 D (n+2)) nest):=by
 have hz:(((s1:Int).fdiv 30).fmod<|2*(m:Int))=((s1/30%(2*m):Nat):Int):=DW (c:=30) rfl (by exact SW);have aZ:s1/30%(2*m)<2*m:=kg _<|ah [_,_] (.lt .o .i<|.gt .o<|.m 2 .i) rfl Qv;have c1:∀r:Nat,r<2*m->eZ (some r) sg.length=r∧i5 (some r) sg.length=r:=λr hr=>by
  have:nH sg.length r=r:=by rw[uP];have:=qZ;lia
  exact⟨this,this⟩
 have c2:eZ (some<|-1) sg.length=2*m-1∧i5 (some<|-1) sg.length=2*m-1:=by
  have:nH sg.length (-1)=2*m-1:=by rw[WX,qZ]
  exact⟨this,this⟩
 have T1:=aaw (d:=d) (D:=D) (FI BM qZ) (ah [_] (.le .o (.n 190)<|.gl .o<|.n 200) rfl hn) (ah [_,_,_] (.lt .o .i<|.c (-1) 0 (.eq .u .i)<|.gl .o .u) rfl aZ qZ) (c1 _ aZ).1 (c1 _ aZ).2 (F0.Ea _ aZ)<|F0.Eb _ aZ;have T2:=aaw (d:=d) (D:=D) (FI BM qZ) (ah [_] (.le .o (.n 190)<|.gl (.a .o .j)<|.n 200) rfl hn) (aco qZ) c2.1 c2.2 (F0.Ea _<|Tp aZ)<|F0.Eb _<|Tp aZ;have R:fG (d+10) ba xr.1 xr.2.2 (λx=>True) [.int<|((s1:Int).fdiv 30).fmod<|2*(m:Int),.int<|-1] (f5 (cA .any .any .any) cy a7 (d1 D n) nest) .next
  (f5 (cA (.int<|-1) .any .any) cy a7 (d1 D<|n+2) nest):=by
  exact hz▸.cons trivial (aaC) T1 (.inl rfl) (.cons trivial (aaC) T2 (.inl rfl) (.nil trivial))
 have F:∀{tt i:aq} {b:List bl} {pp:Pos},tt=xr.1->b=xr.2.2->i=xr.2.1->dB (d+10) ba (.For tt i b [] pp) (f5 (cA .any .any .any) cy a7 (d1 D n) nest) .next
  (f5 (cA (.int<|-1) .any .any) cy a7 (d1 D<|n+2) nest):=by
  intro tt i b pp h1 h2 h3;subst h1;subst h2;subst h3;refine mq (Vk _) rfl (dk (sc:=[.val<|af s1]) (by rfl) ?_) trivial R;walk_at "obs"
  ·lia
  ·exact oK (by decide)
  exact jL (by rfl) zu<|o7 g9
 have Gx:=aW (body:=(cH.body.drop 15).take 1)
  (ag:=f5 (cA (.int<|-1) .any .any) cy a7 (d1 D<|n+2) nest) (sc:=[.fl .next (λx=>f5 (cA (.int<|-1) .any .any) cy a7 (d1 D<|n+2) nest)]) rfl (by
  walk_at "obs";exact F rfl rfl rfl)
 have W:=Gx.fj ["p"] (i:=1) rfl;exact W
def aaD:aq:=iL (g7 cH.body 16)
def aos (vars:List (Str×CV))(c:Cl)(G:List ae)(D:de):List ae:=pB vars c++(G++(vC D++[ax nm,ax iP,ax units,ax nest,a0 aA]))
theorem aot (dD:∀x∈pl,x.length<=100):aI d ba ((cH.body.drop 16).take 1) (f5 (cA .any .any .any) cy a7 D nest) .next (aos JN cy a7 D):=by
 have iter:=dk (d:=d) (c:=ba) (st:=f5 (cA .any .any .any) cy a7 D nest) (sc:=[.val<|.fW 0 (2*m:Nat) 1]) (e:=(kZ aaD)) rfl (by walk_at "obs";exact oK<|by decide);have E:lx d ba aaD (f5 (cA .any .any .any) cy a7 D nest) (.ab 40) (f5 (cA .any .any .any) cy a7 D nest++[a0<|D5 pl m]):=by exact KB<|b36 (cl:=[("places",5)]) (pw pl) ⟨⟨rfl,rfl,rfl,rfl,rfl⟩,rfl,iter,mE (2*m)<|rA dz,λx=>trivial,rfl,aG _,xq (by decide) rfl rfl rfl,by rw[aV,fb];exact rA dz⟩ λk hk acc=>b35<|JL rfl rfl rfl rfl rfl rfl rfl rfl rfl (z8 sk dz) dD (by rw[gz] at hk;exact o1 hk sk)
 rw[F0.II] at E;apply aW (sc:=[.c7 (.ab 40)<|λst=>st++[a0 aA]]) rfl;walk_at "obs";exact E
end
end
section
variable {d:Nat}{c:aY}
section
variable {T:List ae}{n:Nat}{p1 p2 p3 p4 p5 p6 px pos:Pos}{kt q1:Nat}{scope:d8}{iter:aq}{xs:List Str}{cl:List (Str×Nat)}{ix ie xo:Nat}{nmv:Str}
theorem EM {elt:aq}{φ:Nat->CV}{fJ} (J:b40 c (.ListComp elt [⟨.Name "k" px,iter,[],fJ⟩] scope pos) scope cl) (hx:(nU scope c.scope).names.lookup ("k":Str)=some .local)(hi:a8 d c iter T (.ab ie) T)(hT:T.length=n)(b9:(T.all λo=>o.lo n)=true)(hie:T[ie]?=some (a0 aA))(hφ:∀k,(φ k).lo n=true)(bn:aA.length<=2^20) (hE:∀k∈aA,∀acc,CV.cV n acc=true->a8 d (cI c scope (n+1) cl) elt (T++[.list acc,.frame [("k",af k)]]) (φ k) (T++[.list acc,.frame [("k",af k)]])):b41 d c (.ListComp elt [⟨.Name "k" px,iter,[],fJ⟩] scope pos) T (.ab n) (T++[.list (aA.map φ)]):=by
 have hL:∀{i:Nat} {o:ae} {g:List ae},T[i]?=some o->(T++g)[i]?=some o:=λh=>by rwa[d2 (bV.mp h).1]
 have zx:a0 aA=.list (aA.map af):=by rw[a0,fV];rfl
 exact b31 φ af ⟨J,hx,hi,⟨rI ie _⟩,λg=>by rw[<-zx];exact hL hie,hT,ll hT,b9,by rwa[aV]⟩ λk hk acc du=>⟨hE k hk acc du,hφ k⟩
end
section
variable {G:List ae}{D:de}
def lW (D:de)(g:List ae):List ae:=pB JN cy++(a7++(vC D++([ax nm,ax iP,ax units,ax nest,a0 aA]++g)))
theorem JO (hn:41<=n)(hg:(g.all λo=>o.lo n)=true):((lW D g).all λo=>o.lo n)=true:=by
 have hd:∀i,i<41->(CV.ab i).lo n=true:=λi hi=>decide_eq_true<|o3 hi hn;refine cC (t4 (SS hn) ?_ ?_)<|cC zA<|cC (zz<|SU hn)<|cC ?_ hg
 ·simp only [JN,cA,fM,xL,bU,cG,cP,bz];exact⟨rfl,rfl,rfl,rfl,rfl,rfl,rfl,hd 34 (by decide),hd 35 (by decide),hd 36 (by decide),rfl,hd 38 (by decide),hd 40<|by decide⟩
 ·simp [bU,cG,cP,bz];exact⟨hd 20 (by decide),hd 21 (by decide),hd 30 (by decide),hd 32 (by decide),hd 33 (by decide),rfl,hd 39 (by decide),rfl,rfl,hd 18 (by decide),hd 19 (by decide),rfl⟩
 simp only [bU,cG,cP,bz];exact⟨cJ _,cJ _,cJ _,cJ _,k8 _⟩
def aow:aq:=ew (ew (iL (g7 cH.body 17)) 2) 0
theorem aox (hn:n<=200)(hD:D.eM=cD n false)(xZ:aA.map (λk=>D.line.getD k "")=nm)(qU:nm.length<=10)(zB:D.line.length<=100)(hY:∀k∈aA,k<D.line.length):aI (d+10) ba ((cH.body.drop 17).take 1) (lW D []) .next (lW D []):=by
 have L:a8 (d+10) ba aow (lW D []) (.ab 41) (lW D []++[.list<|aA.map λk=>.str<|D.line.getD k ""]):=by
  refine oJ<|EM (cl:=[("line",7)]) ⟨rfl,rfl,rfl,rfl,rfl⟩ rfl (eu rfl rfl rfl) rfl (JO (by decide) rfl) rfl (λu=>rfl) (rr F0.r7) ?_;intro k hk acc du;have gE:D.line[k]?=some (D.line.getD k ""):=by rw[ed,bA<|hY k hk];rfl
  exact jC (eu rfl rfl rfl) (eu rfl rfl rfl)<|e8 rfl rfl gE (FE zB)
 have e1:ae.list (aA.map λk=>CV.str<|D.line.getD k "")=ax nm:=by rw[<-xZ,ax,Ph]
 rw[e1] at L;have cz:∀st (k l),st[k]?=some (ax nm)->st[l]?=some (ax nm)->jj (d+10) .NotEq (.ab k) (.ab l) st (.bool false) st:=λst k l h1 h2=>by have:=Dc (d:=d+9) h1 h2 (lJ.mpr<|qJ nm) (lJ.mpr<|qJ nm) (by rw[vj λy hy=>by obtain⟨s,_,rfl⟩:=cu.mp hy;rfl];exact o6);rwa[YT] at this
 have AH:∀st,st[35]?=some (sq D.eM)->jj (d+10) .In (.bool true) (.ab 35) st (.bool false) st:=λst h=>by
  have hp:∀y∈D.eM.map CV.bool,y.gg=true∧y.s8=0:=λy hy=>by obtain⟨b,_,rfl⟩:=cu.mp hy;exact⟨rfl,rfl⟩
  have:=aff (d:=d+9) (a:=.bool true) h (lJ.mpr λy hy=>(hp y hy).1) rfl (by rw[vj λy hy=>(hp y hy).2];exact o6);have e:((D.eM.map CV.bool).any λx=>gQ x<|.bool true)=false:=by rw[hD,Kx,List.any_eq_false];intro x hx;rw[aqI hx];decide
  rwa[e] at this
 have Gx:aI (d+10) ba ((cH.body.drop 17).take 1) (lW D []) .next (lW D []++[ax nm]):=by
  apply aW (sc:=[.val<|.bool false,.cw,.val<|.bool false,.cw,.c7 (.ab 41)<|λst=>st++[ax nm],.val<|.bool false,.cw,.cw]) rfl;walk_at "obs"
  ·exact cz _ _ _ rfl rfl
  ·exact L
  ·exact cz _ _ _ rfl rfl
  exact AH _ rfl
 exact Gx.drop (aG _) (JO (aG _) rfl) rfl
end
end
section
variable {d:Nat}
def bd (n:Nat)(hs:List (Str×Str)):List ae:=[.bt [("_headers",.ab (n+2))],.bE 184 n,.list (hs.map br)]
theorem nz (h:n+3<=N):((bd n hs).all λo=>o.lo N)=true:=by
 have h1:(ae.bt [("_headers",.ab<|n+2)]).lo N=true:=by show((CV.ab<|n+2).lo N&&true)=true;rw[cP];exact decide_eq_true<|ah [_,_] (.le (.a .o<|.n 3) .i<|.gt (.a .o<|.n 2) .i) rfl h
 have h2:(ae.bE 184 n).lo N=true:=decide_eq_true<|ah [_,_] (.le (.a .o<|.n 3) .i<|.gt .o .i) rfl h;have h3:(ae.list<|hs.map br).lo N=true:=wQ _;rw[bd,bU,bU,bU,cG,h1,h2,h3];rfl
theorem BS {o:ae}(h:o.lo n=true):(([o]:List ae).all λo=>o.lo n)=true:=by rw[bU,cG,h];rfl
theorem QK:jz X.K (.ref 313)=true:=iG (by kernel_rfl)
theorem aaE:jz X.K (.ref 318)=true:=iG (by kernel_rfl)
theorem aaF:jz X.K (.ref 323)=true:=iG (by kernel_rfl)
theorem aaG:∀{d} {st} {ip} {aC} {cr},st[ip]?=some (ax aC)->aC.length<=10->(∀x∈aC,x.length<2^17)->(∀p∈d7 aC cr,bY p.1∧dH p.2)->bk (d+7) (.aH 318) [.ab ip,af cr] [] st (.ab (st.length+1)) (st++bd st.length (d7 aC cr)):=λ{d st ip aC cr} hp hl dD mZ=>(akF (akv (d:=d) hl dD mZ<|qA (λv1 v2 S=>by kernel_rfl) gF) hp).call
theorem QL:∀{d} {st:List ae} {i0 i1 i2 ip} {hs:List (Str×Str)} {aj:List Str} {out:List (Nat×Str)},om st i0 i1 i2 hs->st[ip]?=some (ax aj)->ip≠i2->aj.length<=10->(∀x∈aj,x.length<2^17)->(∀p∈hs,bY p.1)->(∀p∈out,dH p.2)->gh bP (·== ·) (aj.map gT) (jI hs)=some out->bk (d+12) (.aH 313) [.ab i1,.ab ip] [] st (.ab (st.length+1)) (st++bd st.length (dY out)):=λ{d st i0 i1 i2 ip hs aj out} hA hp cz cp dD hK hV h=>(akq (akp cp dD hK (λx hx=>by
 have:((cQ "aBcDeFgHiJ").all qC.contains)=true:=by decide +kernel
 exact dI.mp this x hx) (λx hx=>by
 exact dI.mp (by decide +kernel) x hx) hV h<|qA (λv1 v2 S=>by kernel_rfl) gF) hA hp cz).call
theorem aaH:∀{d} {st} {ip aP} {ps},st[ip]?=some (.list (ps.map pV))->ps.length<2^16->bk (d+2) (.aH 323) [.ab ip,af aP] [] st (.ab st.length) (st++[a0 (jt ps aP)]):=λ{d st ip aP ps} hp hl=>(akE (akD (d:=d) hl<|qA (λv1 v2 S=>by kernel_rfl) gF) hp).call
section
variable {D:de}
def aaI (n:Nat):aq:=ew (iL (g7 cH.body n)) 1
theorem aaJ {st:List ae}{k l:Nat}{hs:List (Str×Str)}(h1:st[k]?=some (.list (hs.map br)))(h2:st[l]?=some (.list (hs.map br))):jj (d+1) .NotEq (.ab k) (.ab l) st (.bool false) st:=by have:=Dc (d:=d) h1 h2 (lJ.mpr<|Pk hs) (lJ.mpr<|Pk hs) (by have:=akR hs;exact ah [_] (.le .o .j<|.gl .o<|.n 6) rfl this);rw[uH _<|lJ.mpr<|Pk hs] at this;exact this
theorem aoy {T:List ae}(h1:T[1]?=some (.frame JN))(hT:T.length=n)(QM:T[40]?=some (a0 aA))(pu:T[10]?=some (.cell (some (.ab 39))))(QN:T[39]?=some (ax nest))(b9:(T.all λo=>o.lo n)=true)(iQ:nest.length<=10)(hY:∀k∈aA,k<nest.length):a8 d ba (aaI 18) T (.ab n) (T++[.list (aA.map λk=>br (d5 k,nest.getD k ""))]):=by
 have hL:∀{i:Nat} {o:ae} {g:List ae},T[i]?=some o->(T++g)[i]?=some o:=λh=>by rwa[d2 (bV.mp h).1]
 refine oJ<|EM (cl:=[("nest",10)]) ⟨rfl,rfl,rfl,rfl,rfl⟩ rfl (eu rfl rfl (CG rfl h1 rfl rfl)) hT b9 QM (λu=>rfl) (rr F0.r7) ?_;intro k hk acc du;have gE:nest[k]?=some (nest.getD k ""):=by rw[ed,bA<|hY k hk];rfl
 have iO:=hY k hk;have hl:(cQ "abcdefghij")[k]?=some (d5 k):=zb (by exact o3 iO iQ);exact CJ (oO rfl (jC (CH rfl) (nh rfl rfl hT rfl rfl rfl rfl)<|wS hl<|Tz iO iQ) (oO rfl (jC (eu rfl rfl (Aq rfl rfl (hL pu))) (nh rfl rfl hT rfl rfl rfl rfl)<|e8 (hL QN) rfl gE (pX iQ)) sW)) wM
theorem aoz (zB:D.line.length<=10)(vd:∀x∈D.line,x.length<2^17)(wi:∀p∈d7 D.line s5,bY p.1∧dH p.2)(nu:∀x∈pl,x.length<2^17){out:List (Nat×Str)}(EN:∀p∈out,dH p.2)(EO:gh bP (·== ·) (pl.map gT) (jI (d7 D.line s5))=some out)(iQ:nest.length<=10)(hY:∀k∈aA,k<nest.length)(yZ:dY out=mH aA nest):aI (d+12) ba ((cH.body.drop 18).take 1) (lW D []) .next (lW D []):=by
 have bJ:∀g:List ae,(lW D g).length=41+g.length:=λg=>by show g.length+41=_;exact FC
 have QO:=aaG (d:=d+5) (st:=lW D []) (ip:=32) (cr:=s5) rfl zB vd wi;generalize zu:d7 D.line s5=hs at *;have zC:=QL (d:=d) (st:=lW D []++bd 41 hs) (i0:=41) (i1:=42) (i2:=43) (ip:=21) (aj:=pl) ⟨rfl,rfl,rfl⟩ rfl (by decide) zw nu (λp hp=>(wi p hp).1) EN EO;have vE:=Ig (d:=d+10) (st:=(lW D []++bd 41 hs)++bd 44 (dY out)) (i1:=45) ⟨rfl,rfl,rfl⟩ (by rw[yZ,mH,aV];exact TA F0.r7);have vF:=Ie (d:=d+12) (st:=(lW D []++bd 41 hs)++bd 44 (dY out)) (i1:=45) ⟨rfl,rfl,rfl⟩;rw[yZ] at zC vE vF;have QP:∀os:List (Str×Str),((lW D<|bd 41 hs++(bd 44 os++[ae.list<|os.map br])).all λo=>o.lo 48)=true:=λos=>by exact JO (by decide)<|cC (nz<|by decide)<|cC (nz<|by decide)<|BS<|wQ _
 have L:=λ(os:List (Str×Str))=>aoy (d:=d+12) (n:=48) rfl (bJ _) rfl rfl rfl (QP os) iQ hY;have eL:(ae.list<|aA.map λk=>br (d5 k,nest.getD k ""))=.list ((mH aA nest).map br):=by rw[mH,fV];rfl
 rw[eL] at L;generalize mH aA nest=os at *;have L:=L os;have Gx:aI (d+12) ba ((cH.body.drop 18).take 1) (lW D []) .next (lW D []++(bd 41 hs++(bd 44 os++[.list<|os.map br,.list<|os.map br]))):=by
  refine aW (sc:=[.val<|af s5,.c7 (.ab 42)<|λst=>st++bd 41 hs,.c7 (.ab 45)<|λst=>st++bd 44 os,.bg (.aH 148) [.ab 45],.c7 (.ab 47)<|λst=>st++[.list<|os.map br],.c7 (.ab 48)<|λst=>st++[.list<|os.map br],.val<|.bool false,.cw]) rfl ?_;walk_at "obs"
  ·exact aaJ (d:=d+11) rfl rfl
  ·with_unfolding_all exact L
  ·exact vE
  ·exact cK Ib
  ·exact vF
  ·with_unfolding_all exact zC
  ·exact cK QK
  ·exact QO
  ·exact cK aaE
  exact jL (j:=5) rfl Z7 (by exact o7 g9)
 exact Gx.drop (aG _) (by rw[bJ];exact JO (aG _) rfl) rfl
end
end
section
variable {d:Nat}
def QQ (kv tv:CV):List (Str×CV):=[("p",.any),("q",.any),("told",tv),("k",kv),("free",.any),("signs",.str (bh sg)),("text",.str T),("row",.ab 34),("wrong",.ab 35),("words",.ab 36),("side",.aH (Iz rt)),("units",.ab 38),("ends",.ab 40)]
structure fB where
 D:de
def D1 (n:Nat):de:=d1 ⟨cs,ln,[],line,drawn,row,cD wn false⟩ n
def fB.lX (e:fB)(kv tv:CV)(vs:List (Str×CV))(c:Cl)(D:de)(g:List ae):List ae:=pB (QQ kv tv++vs) c++(a7++(vC D++([ax nm,ax iP,ax units,ax nest,a0 aA]++g)))
noncomputable abbrev fB.at (e:fB)(vs:List (Str×CV))(c:Cl)(D:de)(g:List ae):List ae:=e.lX .any .any vs c D g
def fB.c0 (e:fB):Cl:=cy
def fB.c1 (e:fB):Cl:={cy with table:=some (.ab 42)}
def fB.c2 (e:fB):Cl:={cy with table:=some (.ab 42),JB:=some (.ab 45)}
theorem fB.len (e:fB){kv tv vs c D g}:(e.lX kv tv vs c D g).length=41+g.length:=by show g.length+41=_;exact FC
theorem fB.lo (e:fB){vs:List (Str×CV)}{c:Cl}{D:de}{g:List ae}{n:Nat}(hn:41<=n)(hc:c=e.c0∨(c=e.c1∧44<=n)∨(c=e.c2∧47<=n)){kv tv:CV}(hk:kv.lo n=true)(ht:tv.lo n=true)(hv:(vs.all λp=>p.2.lo n)=true)(hg:(g.all λo=>o.lo n)=true):((e.lX kv tv vs c D g).all λo=>o.lo n)=true:=by
 have hd:∀i,i<41->(CV.ab i).lo n=true:=λi hi=>decide_eq_true (by exact o3 hi hn);refine cC (t4 (by exact SS hn) ?_ ?_)<|cC zA<|cC (zz<|by exact SU hn)<|cC ?_ hg
 ·rw[RO,hv,cP];simp only [QQ,bU,cG,cP,bz];exact⟨rfl,rfl,ht,hk,rfl,rfl,rfl,hd 34 (by decide),hd 35 (by decide),hd 36 (by decide),rfl,hd 38 (by decide),hd 40<|by decide⟩
 ·rcases hc with rfl|⟨rfl,h2⟩|⟨rfl,h2⟩
  ·simp [bU,cG,cP,bz];exact⟨hd 20 (by decide),hd 21 (by decide),hd 30 (by decide),hd 32 (by decide),hd 33 (by decide),rfl,hd 39 (by decide),rfl,rfl,hd 18 (by decide),hd 19 (by decide),rfl⟩
  ·simp [bU,cG,cP,bz];exact⟨hd 20 (by decide),hd 21 (by decide),hd 30 (by decide),hd 32 (by decide),hd 33 (by decide),rfl,hd 39 (by decide),decide_eq_true (by exact ah [_] (.le (.n 44) .o<|.gt (.n 42) .o) rfl h2),rfl,hd 18 (by decide),hd 19 (by decide),rfl⟩
  simp [bU,cG,cP,bz];exact⟨hd 20 (by decide),hd 21 (by decide),hd 30 (by decide),hd 32 (by decide),hd 33 (by decide),rfl,hd 39 (by decide),decide_eq_true (by exact ah [_] (.le (.n 47) .o<|.gt (.n 42) .o) rfl h2),decide_eq_true (by exact ah [_] (.le (.n 47) .o<|.gt (.n 45) .o) rfl h2),hd 18 (by decide),hd 19 (by decide),rfl⟩
 simp [bU,cG,cP,bz];exact⟨cJ _,cJ _,cJ _,cJ _,k8 _⟩
section
variable {e:fB}{hs td:List (Str×Str)}
theorem aoA (zB:e.D.drawn.length<=10)(vd:∀x∈e.D.drawn,x.length<2^17)(wi:∀p∈d7 e.D.drawn s5,bY p.1∧dH p.2):aI (d+7) ba ((cH.body.drop 19).take 1) (e.at [] e.c0 e.D []) .next (e.at [] e.c1 e.D (bd 41 (d7 e.D.drawn s5))):=by
 have QO:=aaG (d:=d) (st:=e.at [] e.c0 e.D []) (ip:=33) (cr:=s5) rfl zB vd wi;generalize d7 e.D.drawn s5=hs at *;apply aW (sc:=[.val<|af s5,.c7 (.ab 42)<|λst=>st++bd 41 hs]) rfl;walk_at "obs"
 ·exact QO
 ·exact cK aaE
 exact jL rfl Z7 (o7 g9)
end
end
section
variable {d:Nat}
section
variable {e:fB}{hs td:List (Str×Str)}
def QR:aq:=ew (ew (iL (g7 cH.body 20)) 0) 0
def zD:aq:=ew (ew (iL (g7 cH.body 20)) 0) 1
def pK (e:fB):List Str:=aA.map λk=>e.D.drawn.getD k ""
theorem QS (xs:List α) f:ae.list (xs.map λk=>CV.str (f k))=ax (xs.map f):=by rw[ax,fV];rfl
theorem aoB {n0:Str}(ze:nm[0]?=some n0)(qU:nm.length<=10)(tR:e.D.drawn.length<=10)(Dj:∀k∈aA,k<e.D.drawn.length)(Bx:∀p∈td,bY p.1)(Nw:dH n0)(BU:td.length=m)(x6:∀k∈aA,tG td (mI k) n0=td∧tH td (mI k) n0=e.D.drawn.getD k ""):aI (d+8) ba ((cH.body.drop 20).take 1) (e.at [] e.c1 e.D (bd 41 td)) .next (e.at [] e.c1 e.D (bd 41 td)):=by
 have JP:((e.at [] e.c1 e.D<|bd 41 td).all λo=>o.lo 44)=true:=e.lo (by decide) (.inr<|.inl ⟨rfl,by decide⟩) rfl rfl rfl (nz<|by decide);have L1:a8 (d+8) ba QR (e.at [] e.c1 e.D<|bd 41 td) (.ab 44) (e.at [] e.c1 e.D (bd 41 td)++[ax<|pK e]):=by
  rw[pK,<-QS];refine oJ<|EM (cl:=[("table",11),("names",13)]) (φ:=λk=>.str<|e.D.drawn.getD k "") ⟨rfl,rfl,rfl,rfl,rfl⟩ rfl (eu rfl rfl rfl) rfl JP rfl (λu=>rfl) (rr F0.r7) ?_;intro k hk acc du;obtain⟨h1,h2⟩:=x6 k hk;have iO:k<10:=by have:=Dj k hk;exact o3 this tR
  have hl:=zb (x:="AbCdEfGhIj") (by show k<10;omega);have hc:=Yi (d:=d+2) (st:=e.at [] e.c1 e.D (bd 41 td)++[.list acc,.frame [("k",af k)]]) (i1:=42) (i2:=43) (hs:=td) (x:=mI k) (v:=n0) ⟨rfl,rfl,rfl⟩ Bx (F0.kA k iO) Nw (by exact TN BU dz);rw[h1,h2] at hc;have EQ:=Yg (d:=d+8) (st:=e.at [] e.c1 e.D (bd 41 td)++[.list acc,.frame [("k",af k)]]) (i0:=41) (i1:=42) (i2:=43) (hs:=td) ⟨rfl,rfl,rfl⟩;have:=dk (d:=d+8) (c:=cI ba (fH QR) 45 [("table",11),("names",13)]) (e:=ew QR 0) (st:=e.at [] e.c1 e.D (bd 41 td)++[.list acc,.frame [("k",af k)]]) (sc:=[.bg (.aH 174) [.ab 42],.val<|.str<|mI k,.val<|.str n0,.aE (.str<|e.D.drawn.getD k "")<|e.at [] e.c1 e.D (bd 41 td)++[.list acc,.frame [("k",af k)]]]) (by rfl) (by
   walk_at "obs"
   ·exact hc
   ·exact cK Ye
   ·exact e8 (by rfl) rfl ze (by exact pX qU)
   ·exact wS hl (by exact Ci iO)
   exact EQ)
  exact this
 have aoC:((e.at [] e.c1 e.D<|bd 41 td++[ax<|pK e]).all λo=>o.lo 45)=true:=e.lo (by decide) (.inr<|.inl ⟨rfl,by decide⟩) rfl rfl rfl (cC (nz<|by decide)<|BS<|cJ _);have L2:a8 (d+8) ba zD (e.at [] e.c1 e.D<|bd 41 td++[ax<|pK e]) (.ab 45) (e.at [] e.c1 e.D (bd 41 td++[ax<|pK e])++[ax<|pK e]):=by
  have:=λ(hi:a8 (d+8) ba (kZ zD) (e.at [] e.c1 e.D<|bd 41 td++[ax<|pK e]) (.ab 40) (e.at [] e.c1 e.D<|bd 41 td++[ax<|pK e]))=>oJ (EM (elt:=ew zD 0) (scope:=fH zD) (pos:=AT zD) (px:=AT (uL zD).target) (fJ:=(uL zD).is_async) (cl:=[("drawn",8)]) ⟨by rfl',by rfl',by rfl',by rfl',by rfl'⟩ rfl hi rfl aoC rfl (λu=>rfl) (by exact rr F0.r7) (by
   intro k hk acc du;have gE:e.D.drawn[k]?=some (e.D.drawn.getD k ""):=by rw[ed,bA<|Dj k hk];rfl
   exact jC (eu rfl rfl rfl) (eu rfl rfl rfl)<|e8 rfl rfl gE (by exact pX tR)))
  rw[QS] at this;exact this<|eu rfl rfl rfl
 have vE:=Ig (d:=d+6) (st:=e.at [] e.c1 e.D<|bd 41 td++[ax<|pK e,ax<|pK e]) (i1:=42) ⟨rfl,rfl,rfl⟩ (by exact TN BU dz);have vF:=Ie (d:=d+8) (st:=e.at [] e.c1 e.D<|bd 41 td++[ax<|pK e,ax<|pK e]) (i1:=42) (hs:=td) ⟨rfl,rfl,rfl⟩;generalize pK e=xs at *;have cz:∀(st:List ae) (k l:Nat),st[k]?=some (ax xs)->st[l]?=some (ax xs)->jj (d+8) .NotEq (.ab k) (.ab l) st (.bool false) st:=λst k l h1 h2=>by have:=Dc (d:=d+7) h1 h2 (lJ.mpr<|qJ xs) (lJ.mpr<|qJ xs) (by rw[vj λy hy=>by obtain⟨s,_,rfl⟩:=cu.mp hy;rfl];exact o6);rwa[YT] at this
 have Gx:aI (d+8) ba ((cH.body.drop 20).take 1) (e.at [] e.c1 e.D<|bd 41 td) .next (e.at [] e.c1 e.D (bd 41 td)++[ax xs,ax xs,.list<|td.map br]):=by
  refine aW (sc:=[.c7 (.ab 44)<|λst=>st++[ax xs],.c7 (.ab 45)<|λst=>st++[ax xs],.val<|.bool false,.cw,.bg (.aH 148) [.ab 42],.c7 (.ab 46)<|λst=>st++[.list<|td.map br],.val<|af m,.no,.cw]) rfl ?_;walk_at "obs"
  ·exact bne_self_eq_false _
  ·have:=uJ (d:=d+8) (st:=e.at [] e.c1 e.D (bd 41 td)++[ax xs,ax xs,.list<|td.map br]) (k:=46) (xs:=td.map br) rfl (by rw[aV];exact ah [_,_] (.eq .o .i<|.le .i (.n 5)<|.g 1 0<|.it (.c .o)<|.n<|2^63) rfl BU dz);rw[aV,BU] at this;exact this
  ·exact vE
  ·exact cK Ib
  ·exact vF
  ·exact cz _ _ _ rfl rfl
  ·exact L2
  exact L1
 exact Gx.drop (aG _) (e.len▸JP) rfl
end
end
section
variable {d:Nat}
section
variable {e:fB}{hs td ro:List (Str×Str)}
def zE:aq×aq×List bl:=dc (cH.body.drop 21)
theorem aoD {k:Nat}(hk:k<10)(hlB:bY (la k))(hl:td.length<=1000):aI (d+4) ba zE.2.2 (e.lX (af k) .any [] e.c1 e.D (bd 41 td)) .next (e.lX (af k) .any [] e.c1 e.D (bd 41 (td++[pz nm m k]))):=by
 have aoF:(cQ "aBcDeFgHiJ")[k]?=some (la k):=zb (by show k<10;omega);have vm:k%m<m:=kg _ Qv;have gE:nm[k%m]?=some (nm.getD (k%m) ""):=by rw[ed,bA<|by exact o1 vm q4];rfl
 have hc:=Yh (d:=d) (st:=e.lX (af k) .any [] e.c1 e.D<|bd 41 td) (i1:=42) ⟨rfl,rfl,rfl⟩ hlB (ym _<|c8 gE)<|sS hl;unfold pz;generalize nm.getD (k%m) ""=x at *;apply aW (sc:=[.bg (.aH 181) [.ab 42],.val<|.str<|la k,.val<|.str x,.aE .none<|e.lX (af k) .any [] e.c1 e.D<|bd 41<|td++[(la k,x)]]) rfl;walk_at "obs"
 ·exact hc
 ·exact cK Yd
 ·exact e8 rfl (Pb (s:=k) (c:=m) (ci:=(m:Int)) rfl) gE (SY q4 dz)
 ·exact KP vm
 ·exact wS aoF<|Ci hk
 exact Yf (d:=d+4) (st:=e.lX (af k) .any [] e.c1 e.D<|bd 41 td) (i0:=41) (i1:=42) (i2:=43) (hs:=td) ⟨rfl,rfl,rfl⟩
theorem aaK:∀(ks:List Nat) td kv,td.length+ks.length<=1000->(∀k∈ks,k<10)->∃i9,fG (d+4) ba zE.1 zE.2.2 (λst=>st[40]?=some (.list (aA.map af))) (ks.map af) (e.lX kv .any [] e.c1 e.D (bd 41 td)) .next (e.lX i9 .any [] e.c1 e.D (bd 41 (td++ks.map (pz nm m))))
 |[],td,kv,x,u=>⟨kv,by have e0:td++fm (pz nm m) []=td:=dM _;rw[e0];exact .nil<|by show some (a0 aA)=_;rw[a0,fV];rfl⟩|k::ks,td,kv,h1,h2=>by rw[dO] at h1;obtain⟨i9,R⟩:=aaK ks (td++[pz nm m k]) (af k) (dJ▸Kt▸FF h1)<|λr hr=>h2 r<|.tail _ hr;rw[eJ] at R;exact⟨i9,.cons (by show some (a0 aA)=_;rw[a0,fV];rfl) ((i4 (sc:=[]) (by rfl') aX)) (aoD (h2 k<|.head _) (F0.kB k<|h2 k<|.head _)<|ug h1) (.inl rfl) R⟩
theorem aoJ (BU:td.length<=100)(hY:∀k∈aA,k<10):aI (d+4) ba ((cH.body.drop 21).take 1) (e.at [] e.c1 e.D (bd 41 td)) .next (e.at [] e.c1 e.D (bd 41 (td++aA.map (pz nm m)))):=by
 obtain⟨i9,R⟩:=aaK aA td .any (ah [_,_] (.le .o .t<|.le .i (.n 100)<|.gl (.a .i .o)<|.n 1000) rfl F0.r7 BU) hY;generalize td++aA.map (pz nm m)=t2 at *;have F:∀{tt i:aq} {b:List bl} {pp:Pos},tt=zE.1->b=zE.2.2->i=zE.2.1->dB (d+4) ba (.For tt i b [] pp) (e.at [] e.c1 e.D<|bd 41 td) .next (e.lX i9 .any [] e.c1 e.D<|bd 41 t2):=by intro tt i b pp h1 h2 h3;subst h1;subst h2;subst h3;exact mq (rI 40<|aA.map af) rfl (by exact eu rfl rfl rfl) (by show some (a0 aA)=_;rw[a0,fV];rfl) R
 have Gx:=aW (body:=(cH.body.drop 21).take 1) (sc:=[.fl .next (λx=>e.lX i9 .any [] e.c1 e.D<|bd 41 t2)]) (by rfl) (by walk_at "obs";exact F rfl rfl rfl);exact Gx.fj ["p","q","told","k","free"] (i:=1) rfl
theorem aoK (nu:∀x∈pl,x.length<2^17)(hK:∀p∈td,bY p.1){out:List (Nat×Str)}(EN:∀p∈out,dH p.2)(EO:gh bP (·== ·) (pl.map gT) (jI td)=some out):aI (d+12) ba ((cH.body.drop 22).take 1) (e.at [] e.c1 e.D (bd 41 td)) .next (e.at [] e.c2 e.D (bd 41 td++bd 44 (dY out))):=by
 have zC:=QL (d:=d) (st:=e.at [] e.c1 e.D<|bd 41 td) (i1:=42) (ip:=21) ⟨rfl,rfl,rfl⟩ rfl (by decide) zw nu hK EN EO;generalize dY out=ro at *;apply aW (sc:=[.c7 (.ab 45)<|λst=>st++bd 44 ro]) (by rfl);walk_at "obs"
 ·exact zC
 exact cK QK
theorem aoL (gw:ro.length<=1000):aI (d+2) ba ((cH.body.drop 23).take 1) (e.at [] e.c2 e.D (bd 41 td++bd 44 ro)) .next (e.at [] e.c2 e.D (bd 41 td++bd 44 ro)):=by
 have vE:=Ig (d:=d) (st:=e.at [] e.c2 e.D<|bd 41 td++bd 44 ro) (i1:=45) ⟨rfl,rfl,rfl⟩<|sS gw;have Gx:aI (d+2) ba ((cH.body.drop 23).take 1) (e.at [] e.c2 e.D<|bd 41 td++bd 44 ro) .next (e.at [] e.c2 e.D (bd 41 td++bd 44 ro)++[.list []]):=by
  apply aW (sc:=[.bg (.aH 148) [.ab 45],.c7 (.ab 47)<|λst=>st++[.list<|ro.map br],.bg (.bi "list.clear") [.ab 47],.aE .none<|e.at [] e.c2 e.D (bd 41 td++bd 44 ro)++[.list []]]) rfl;walk_at "obs"
  ·have:=ae0 (d:=d+2) (st:=e.at [] e.c2 e.D (bd 41 td++bd 44 ro)++[.list<|ro.map br]) (k:=47) rfl (by rw[aV];exact To gw);exact this
  ·exact yo F.slot_list_clear F.type_list_clear rfl
  ·exact vE
  ·exact cK Ib
  exact Ie (d:=d+2) (st:=e.at [] e.c2 e.D<|bd 41 td++bd 44 ro) (i0:=44) (i1:=45) (i2:=46) (hs:=ro) ⟨rfl,rfl,rfl⟩
 exact Gx.drop (aG _) (by rw[show(e.at [] e.c2 e.D<|bd 41 td++bd 44 ro).length=47 from rfl];exact e.lo (by decide) (.inr<|.inr ⟨rfl,by decide⟩) rfl rfl rfl (cC (nz<|by decide)<|nz<|by decide)) rfl
end
end
section
variable {d:Nat}
section
variable {e:fB}{hs td ro:List (Str×Str)}
def JQ:aq:=iL (g7 cH.body 24)
theorem aoM (By:∀p∈ro,bY p.1):aI (d+4) ba ((cH.body.drop 24).take 1) (e.at [] e.c2 e.D (bd 41 td++bd 44 ro)) .next (e.at [("other",.ab 47)] e.c2 e.D (bd 41 td++(bd 44 ro++[ax (tW ro m)]))):=by
 have b9:((e.at [] e.c2 e.D<|bd 41 td++bd 44 ro).all λo=>o.lo 47)=true:=e.lo (by decide) (.inr<|.inr ⟨rfl,by decide⟩) rfl rfl rfl (cC (nz<|by decide)<|nz<|by decide);have EQ:=λg=>Ic (d:=d+4) (st:=e.at [] e.c2 e.D<|bd 41 td++(bd 44 ro++g)) (i1:=45) ⟨rfl,rfl,rfl⟩;have hgt:=λg k hk=>ajG (d:=d) (st:=e.at [] e.c2 e.D<|bd 41 td++(bd 44 ro++g)) (i0:=44) (i1:=45) (y:="") ⟨rfl,rfl,rfl⟩ By<|F0.kC k hk;have iter:=dk (d:=d+4) (c:=ba) (st:=e.at [] e.c2 e.D<|bd 41 td++bd 44 ro) (sc:=[.val<|.str<|zd m]) (e:=kZ JQ) rfl (by
  walk_at "obs"
  ·exact λA own s x y q S r1 r2=>yu (b:=.int (2*m:Nat)) (hi:=some (2*m:Nat)) rfl rfl (akT dz) A own s x y q S r1 r2
  exact oK<|by decide)
 have src:Nonempty (iY (.str<|zd m) ((aK<|2*m).map λk=>CV.str<|j7 k)<|λu=>True):=YU dz▸⟨Gw _⟩;have E:lx (d+4) ba JQ (e.at [] e.c2 e.D<|bd 41 td++bd 44 ro) (.ab 47) (e.at [] e.c2 e.D (bd 41 td++bd 44 ro)++[ax<|tW ro m]):=by
  rw[ax,tW,fV];refine KB<|b31 (cl:=[("turned",12)]) _ (λk=>CV.str<|j7 k) ⟨⟨rfl,rfl,rfl,rfl,rfl⟩,rfl,iter,src,λx=>trivial,rfl,aG _,b9,by rw[aV,fb];exact rA dz⟩ λk hk acc du=>⟨?_,rfl⟩;have hc:=hgt [.list acc,.frame [("letter",.str<|j7 k)]] k<|ui (gz.mp hk) dz;have hM:=EQ [.list acc,.frame [("letter",.str<|j7 k)]];rw[akS] at hc;show a8 _ _ _ _ (.str<|(eH ro<|bZ<|j7 k).getD "") _;generalize (eH ro<|bZ<|j7 k).getD ""=y at *;have:=dk (c:=cI ba (fH JQ) 48 [("turned",12)]) (e:=ew JQ 0) (st:=e.at [] e.c2 e.D<|bd 41 td++(bd 44 ro++[.list acc,.frame [("letter",.str<|j7 k)]]))
   (sc:=[.bg (.aH 131) [.ab 45],.val<|.str y]) rfl (by
   walk_at "obs"
   ·exact hc
   ·exact cK Ia
   exact hM)
  exact this
 generalize tW ro m=xs at *;apply aW (sc:=[.c7 (.ab 47)<|λst=>st++[ax xs]]) rfl;walk_at "obs";exact E
end
end
section
variable {d:Nat}{c:aY}
section
variable {T:List ae}{n xw iw xp ip:Nat}{aC:List Str}{xs:List Nat}{ix:Nat->Nat}{p1 p2 p3 p4 p5 p6 p7 p8 p9 JR JS px pos:Pos}{kt:Nat}{iter:aq}{scope:d8}{cl:List (Str×Nat)}{a:CV}
theorem aoO {P:List ae->Prop}(aoP:p2.endLine=p6.line)(J:b32 (d+1) c (.Tuple [.Call (.Attribute (.Name "places" p1) "index" p2) [.Subscript (.Name "way" p3) (.Name "k" p4) p5] [] p6,.Name "k" p7] kt p8) iter [.Subscript (.Name "way" p9) (.Name "k" JR) JS] fJ scope pos px "k" T T n P a cl (xs.map af)) (EE:(nU scope c.scope).names.lookup ("way":Str)=some .cell)(hpn:(nU scope c.scope).names.lookup ("places":Str)=some .cell)(QT:(je (n+2) scope.names cl).lookup ("way":Str)=some xw)(Hh:(je (n+2) scope.names cl).lookup ("places":Str)=some xp) (h5:T[xw]?=some (.cell (some (.ab iw))))(nx:T[iw]?=some (ax aC))(h6:T[xp]?=some (.cell (some (.ab ip))))(JT:T[ip]?=some (ax pl))(hw:aC.length<=100)(qY:∀x∈aC,x.length<=100)(cp:pl.length<=100)(hY:∀k∈xs,k<aC.length)(ED:∀k∈xs,fA aC k=true->pl.findIdx? (λx=>x==aC.getD k "")=some (ix k)):a8 (d+1) c (.ListComp (.Tuple [.Call (.Attribute (.Name "places" p1) "index" p2) [.Subscript (.Name "way" p3) (.Name "k" p4) p5] [] p6,.Name "k" p7] kt p8) [⟨.Name "k" px,iter,[.Subscript (.Name "way" p9) (.Name "k" JR) JS],fJ⟩] scope pos) T (.ab n) (T++[.list ((lP aC ix xs).map pV)]):=by
 have hT:=J.2.2.2.2.2.1;have tw:=J.2.1;rw[lP,fV];refine oJ<|b30 (fA aC) _ af J λk hk acc du=>⟨ms<|JL rfl rfl rfl tw EE QT hT h5 nx hw qY (hY k hk),λh=>?_,rfl⟩;have L1:∀{i:Nat} {o':ae},T[i]?=some o'->(T++[ae.list acc,.frame [("k",af k)]])[i]?=some o':=λh=>by rwa[d2 (bV.mp h).1]
 have gE:aC[k]?=some (aC.getD k ""):=by rw[ed,bA<|hY k hk];rfl
 have jl:=ED k hk h;generalize aC.getD k ""=x at *;have hii:(pl.map CV.str).findIdx? (λy=>gQ y<|.str x)=some (ix k):=by rwa[RX]
 have k0:∀pp,a8 (d+1) (cI c scope (n+1) cl) (.Name "k" pp) (T++[ae.list acc,.frame [("k",af k)]]) (af k) (T++[ae.list acc,.frame [("k",af k)]]):=λpp=>nh rfl rfl hT rfl tw rfl rfl;exact CJ (oO rfl (Lu rfl (by show 1+0<29;decide) (eu rfl rfl (Aq hpn Hh<|L1 h6)) (WZ<|L1 JT) (oO rfl (jC (eu rfl rfl (Aq EE QT<|L1 h5)) (k0 _)<|e8 (L1 nx) rfl gE (FE hw)) sW) F8 gP (Wd (L1 JT) (lJ.mpr<|qJ pl) rfl (by rw[vj λy hy=>by obtain⟨s,_,rfl⟩:=cu.mp hy;rfl];exact o6) (by rw[aV];exact ah [_] (.le .o (.n 100)<|.gt .o<|.n<|2^62) rfl cp) hii) aoP) (oO rfl (k0 _) sW)) (show 2<=cX by decide)
end
end
section
variable {d:Nat}
theorem aoS {T:List ae}(hT:T.length=n)(b9:(T.all λo=>o.lo n)=true)(hn:(aK n++js).Nodup)(km:lA (λk=>(T++g)[k]?.bind (ae.bI (eW (aK n++js)))) js=some ys):g4 (aK n++js) (T++g)=some (T++ys):=by refine YW km<|wI (by rw[hT,fb]) λi k o h1 h2=>?_;have hi:=hT▸(bV.mp h2).1;rw[iS hi] at h1;obtain rfl:=dE h1;rw[d2 (by exact o1 hi hT),h2];exact ae.kR (λk hk=>gr _ k k hn<|by rw[d2 (by rwa[fb]),iS hk]) o<|dI.mp b9 o<|c8 h2
theorem JU (ps:List (Nat×Nat)):(([ae.list (ps.map pV)]).all λo=>o.lo n)=true:=BS<|wW ps
def zF:aq:=iL (g7 cH.body 25)
def ER:aq:=ew zF 0
def aaM:aq:=ew ER 0
def aaN:d8:=fH zF
def aoT:aq:=kZ aaM
abbrev vG:aY:=cI ba aaN 49 [("places",5),("many",3)]
theorem aoU {st:List ae}{k fi:Nat}{vars:List (Str×CV)}{ps tX:List (Nat×Nat)}(hk:st[k]?=some (.list (ps.map pV)))(hf:st[fi]?=some (.frame vars))(h2:2<=ps.length)(oj:ps.length<64)(hs:vq ps tX):bk d (.bi "sorted") [.ab k] [] st (.ab st.length) (st++[.list (tX.map pV)]):=by
 obtain⟨js,h1,h3,rfl⟩:=hs;have e1:ps.map pV=(ps.map D6).map qF:=by rw[fV];rfl
 have:=ai3 (d:=d) (by rwa[<-e1]) hf (by rwa[aV]) (by rwa[aV]) h1 (by rwa[aV]);have e2:(js.map λj=>((ps.map D6).map qF).getD j .none)=(js.map λj=>ps.getD j (0,0)).map pV:=by rw[<-e1,fV];refine vZ λj hj=>?_;show(ps.map pV).getD j .none=pV (ps.getD j (0,0));rw[ed,ed,dN,bA<|h3 j hj];rfl
 rwa[e2] at this
section
variable {e:fB}{acc:List CV}{g:List ae}
def ic (e:fB)(ro:List (Str×Str))(acc:List CV)(w:Option CV)(g:List ae):List ae:=e.at [("other",.ab 47)] e.c2 e.D (bd 41 td++(bd 44 ro++([ax ot]++([.list acc,.frame [],.cell w]++g))))
theorem aoV {w:Option CV}(hn:51<=n)(ha:CV.cV n acc=true)(hw:(ae.cell w).lo n=true)(hg:(g.all λo=>o.lo n)=true):((ic e ro acc w g).all λo=>o.lo n)=true:=by
 refine e.lo (by exact Ta hn) (.inr<|.inr ⟨rfl,by exact Tb hn⟩) rfl rfl ?_ (cC (nz<|Td hn)<|cC (nz<|Te hn)<|cC (BS<|cJ _)<|cC ?_ hg)
 ·rw[bU,cG,cP];exact decide_eq_true<|ah [_] (.le (.n 51) .o<|.gt (.n 47) .o) rfl hn
 rw[bU,bU,bU,cG,hw];show(CV.cV n acc&&_)=true;rw[ha];rfl
theorem aaO {ix:Nat->Nat}(hn:(ic e ro acc (some (.ab iw)) g).length=n)(ha:CV.cV n acc=true)(hg:(g.all λo=>o.lo n)=true)(hiw:iw<50)(h51:51<=n)(hw:(ic e ro acc (some (.ab iw)) g)[iw]?=some (ax aC))(qY:aC.length=2*m)(hwx:∀x∈aC,x.length<=100)(cp:pl.length<=100)(ED:∀k<2*m,fA aC k=true->pl.findIdx? (λx=>x==aC.getD k "")=some (ix k))(A6:lP aC ix (aK (2*m))=ps)(h2:2<=ps.length)(hso:vq ps tX):a8 (d+1) vG ER (ic e ro acc (some (.ab iw)) g) (.ab (n+1)) (ic e ro acc (some (.ab iw)) g++[.list (ps.map pV),.list (tX.map pV)]):=by
 have iter:=dk (d:=d+1) (c:=vG) (st:=ic e ro acc (some<|.ab iw) g) (sc:=[.val<|.fW 0 (2*m:Nat) 1]) (e:=aoT) rfl (by walk_at "obs";exact oK<|by decide);have b9:=aoV (e:=e) (w:=some<|.ab iw) h51 ha (decide_eq_true<|ah [_,_] (.le (.n 51) .o<|.lt .i (.n 50)<|.gt .i .o) rfl h51 hiw) hg;have h50:(ic e ro acc (some<|.ab iw) g)[50]?=some (.cell<|some<|.ab iw):=rfl;have h49:(ic e ro acc (some<|.ab iw) g)[49]?=some (.frame []):=rfl;have h5:(ic e ro acc (some<|.ab iw) g)[5]?=some (.cell<|some<|.ab 21):=rfl;have nx:(ic e ro acc (some<|.ab iw) g)[21]?=some (ax pl):=rfl;have ao0:ps.length<=10:=by rw[<-A6,lP,aV];exact fC (abZ _ _) (by rw[fb];exact K4 dz)
 have AH:a8 (d+1) vG aaM (ic e ro acc (some<|.ab iw) g) (.ab n) (ic e ro acc (some<|.ab iw) g++[.list<|ps.map pV]):=by rw[<-A6];generalize ic e ro acc (some<|.ab iw) g=T at *;exact aoO rfl ⟨⟨rfl,rfl,rfl,rfl,rfl⟩,rfl,iter,mE (2*m)<|rA dz,λx=>trivial,hn,ll hn,b9,by rw[aV,fb];exact rA dz⟩ rfl rfl rfl rfl h50 hw h5 nx (z8 qY dz) hwx cp (λk hk=>by rw[gz] at hk;exact o1 hk qY) (λk hk=>ED k<|gz.mp hk)
 generalize ic e ro acc (some<|.ab iw) g=T at *;have sX:=aoU (d:=d+1) (st:=T++[.list<|ps.map pV]) (k:=n) (by rw[<-hn,dT<|aG _,fk];rfl) (d2 (bV.mp h49).1▸h49) h2 (ah [_] (.le .o .t<|.gt .o<|.n 64) rfl ao0) hso;rw[show(T++[ae.list<|ps.map pV]).length=n+1 by rw[dJ,hn];rfl,eJ] at sX;apply dk (sc:=[.aE (.ab n)<|T++[.list<|ps.map pV],.aE (.ab<|n+1)<|T++([.list<|ps.map pV]++[.list<|tX.map pV])]) rfl;walk_at "obs"
 ·exact sX
 exact AH
theorem aaR {w:Option CV}{p:Pos}:dj d vG (.Name "way" p) (.ab iw) (ic e ro acc w g) (ic e ro acc (some (.ab iw)) g):=
 i4 (sc:=[]) rfl aX
theorem ao1 {ow ox:Nat->Nat}(cp:pl.length<=100)(h1l:e.D.drawn.length=2*m)(h1x:∀x∈e.D.drawn,x.length<=100)(h1i:∀k<2*m,fA e.D.drawn k=true->pl.findIdx? (λx=>x==e.D.drawn.getD k "")=some (ow k))(h1p:lP e.D.drawn ow (aK (2*m))=ES)(QE:2<=ES.length)(h1s:vq ES gH)(h2l:ot.length=2*m)(h2x:∀x∈ot,x.length<=100)(h2i:∀k<2*m,fA ot k=true->pl.findIdx? (λx=>x==ot.getD k "")=some (ox k))(h2p:lP ot ox (aK (2*m))=JV)(JT:2<=JV.length)(h2s:vq JV gI):aI (d+1) ba ((cH.body.drop 25).take 1) (e.at [("other",.ab 47)] e.c2 e.D (bd 41 td++(bd 44 ro++[ax ot]))) .next (e.at [("other",.ab 47),("pairs",.ab 48)] e.c2 e.D (bd 41 td++(bd 44 ro++[ax ot,.list [.ab 49,.ab 50],.list (gH.map pV),.list (gI.map pV)]))):=by
 have T1:=aaO (d:=d) (e:=e) (acc:=[]) (g:=[]) (n:=51) (iw:=33) rfl rfl rfl (by decide) (by decide) rfl h1l h1x cp h1i h1p QE h1s;have T2:=aaO (d:=d) (e:=e) (acc:=[.ab 52]) (g:=[.list<|ES.map pV,.list<|gH.map pV]) (n:=53) (iw:=47) rfl rfl (cC (JU _)<|JU _) (by decide) (by decide) rfl h2l h2x cp h2i h2p JT h2s;have r1z:CV.cV 0 (gH.map pV)=true:=wW _;have r2z:CV.cV 0 (gI.map pV)=true:=wW _;generalize ES.map pV=l1 at *;generalize gH.map pV=r1 at *;generalize JV.map pV=l2 at *;generalize gI.map pV=r2 at *;have JP:((e.at [("other",.ab 47)] e.c2 e.D<|bd 41 td++(bd 44 ro++[ax ot])).all λo=>o.lo 48)=true:=e.lo (by decide) (.inr<|.inr ⟨rfl,by decide⟩) rfl rfl rfl (cC (nz<|by decide)<|cC (nz<|by decide)<|BS<|cJ _);have M1:∀{gens sc pos},sZ (d+1) vG (.ListComp ER gens sc pos) 48 (ic e ro [] (some<|.ab 33) []) (ic e ro [.ab 52] (some<|.ab 33) [.list l1,.list r1]):=by intro gens sc pos;have:=GO (gens:=gens) (sc:=sc) (pos:=pos) (k:=48) (xs:=[]) T1 (by rfl) (by decide);exact this
 have M2:∀{gens sc pos},sZ (d+1) vG (.ListComp ER gens sc pos) 48 (ic e ro [.ab 52] (some<|.ab 47) [.list l1,.list r1]) (ic e ro [.ab 52,.ab 54] (some<|.ab 47) [.list l1,.list r1,.list l2,.list r2]):=by intro gens sc pos;have:=GO (gens:=gens) (sc:=sc) (pos:=pos) (k:=48) (xs:=[.ab 52]) T2 (by rfl) (by decide);exact this
 have iter:=dk (d:=d+1) (c:=ba) (st:=e.at [("other",.ab 47)] e.c2 e.D<|bd 41 td++(bd 44 ro++[ax ot])) (sc:=[]) (e:=kZ zF) (by rfl) (by walk_at "obs");have O7:g4 (aK 48++[48,52,54]) (ic e ro [.ab 52,.ab 54] (some<|.ab 47) [.list l1,.list r1,.list l2,.list r2])=some (e.at [("other",.ab 47)] e.c2 e.D (bd 41 td++(bd 44 ro++[ax ot]))++[ae.list [.ab 49,.ab 50],.list r1,.list r2]):=by
  refine aoS (g:=[.list [.ab 52,.ab 54],.frame [],.cell<|some<|.ab 47,.list l1,.list r1,.list l2,.list r2]) (n:=48) rfl JP (by decide) ?_;refine cq (y:=ae.list [.ab 49,.ab 50]) ?_<|cq (y:=ae.list r1) ?_<|cq (y:=ae.list r2) ?_ iF
  ·rfl'
  ·exact gq (o:=.list r1) rfl (fz<|tM r1z)
  exact gq (o:=.list r2) rfl (fz<|tM r2z)
 have J:∀(ce:aq),ce=zF->uF (d+1) ba ce (e.at [("other",.ab 47)] e.c2 e.D<|bd 41 td++(bd 44 ro++[ax ot])) (.ab 48) (e.at [("other",.ab 47)] e.c2 e.D (bd 41 td++(bd 44 ro++[ax ot]))++[ae.list [.ab 49,.ab 50],.list r1,.list r2])
  aaN (AT ce) (uL ce) [] [("places",5),("many",3)] (.cB [.ab 33,.ab 47]) (e.at [("other",.ab 47)] e.c2 e.D<|bd 41 td++(bd 44 ro++[ax ot])) (ic e ro [.ab 52,.ab 54] (some<|.ab 47) [.list l1,.list r1,.list l2,.list r2]) [.ab 33,.ab 47] (λu=>True):=by
  intro ce MW;subst MW;refine⟨by rfl',by rfl',by rfl',by rfl',by rfl',by rfl',iter,⟨Vk _⟩,trivial,?_,⟨[],by rfl'⟩,?_⟩
  ·have:=jS.wk (d:=d+1) (c:=vG) (e:=zF) (k:=48) (n:=0) (P:=λu=>True) (x:=.ab 33) (xs:=[.ab 47]) (g:=uL zF) (st:=ic e ro [] none []) (aw:=ic e ro [] (some<|.ab 33) []) (aJ:=ic e ro [] (some<|.ab 33) []) trivial (by rfl) (by rfl') (by exact aaR) (by exact oT) (by exact M1)
    (jS.wk trivial (by rfl') (by rfl') (by exact aaR) (by exact oT) (by exact M2) (.nil trivial))
   exact this
  exact Ml (aK 48++[48,52,54]) (by decide) O7 (by rfl') (by rfl) (by rw[e.len];show 49∉aK 48++[48,52,54];decide)
 have E:=VR<|J _ rfl;refine aW (sc:=[.c7 (.ab 48)<|λst=>st++[.list [.ab 49,.ab 50],.list r1,.list r2]]) (by rfl) ?_;walk_at "obs";exact E
end
end
section
variable {d:Nat}
section
variable {e:fB}{vs:List (Str×CV)}
def dm (e:fB)(ro:List (Str×Str))(tv:CV)(vs:List (Str×CV))(g:List ae):List ae:=e.lX .any tv vs e.c2 e.D (bd 41 td++(bd 44 ro++([ax ot,.list [.ab 49,.ab 50],.list (gH.map pV),.list (gI.map pV)]++g)))
theorem JW {ro:List (Str×Str)}(hn:51<=n)(ht:tv.lo n=true)(hv:(vs.all λp=>p.2.lo n)=true)(hg:(g.all λo=>o.lo n)=true):((dm e ro tv vs g).all λo=>o.lo n)=true:=by
 refine e.lo (by exact Ta hn) (.inr<|.inr ⟨rfl,by exact Tb hn⟩) rfl ht hv (cC (nz<|Td hn)<|cC (nz<|Te hn)<|cC ?_ hg);rw[bU,bU,show(ax ot).lo n=true from cJ _];have:(ae.list [.ab 49,.ab 50]).lo n=true:=by show((CV.ab 49).lo n&&((CV.ab 50).lo n&&true))=true;rw[cP];exact iR.mpr ⟨decide_eq_true<|ah [_] (.le (.n 51) .o<|.gt (.n 49) .o) rfl hn,decide_eq_true<|ah [_] (.le (.n 51) .o<|.gt (.n 50) .o) rfl hn⟩
 rw[this];exact cC (JU _)<|JU _
theorem apd (hc:(ot.map CV.str).countP (λx=>gQ x (.str ""))=m):aI (d+1) ba ((cH.body.drop 26).take 1) (dm e ro .any w0 []) .next (dm e ro .any w0 []):=by
 have cc:=afg (d:=d) (st:=dm e ro .any w0 []) (k:=47) (a:=.str "") rfl (lJ.mpr<|qJ ot) rfl (by rw[vj λy hy=>by obtain⟨s,_,rfl⟩:=cu.mp hy;rfl];exact o6);rw[hc] at cc;apply aW (sc:=[.bg (.bi "list.count") [.ab 47],.val<|af m,.no]) rfl;walk_at "obs"
 ·exact bne_self_eq_false _
 ·exact cc
 exact agD rfl
def q6:aq×aq×List bl:=dc (cH.body.drop 27)
theorem ape {k:Nat}:dj d ba q6.1 (af k) (dm e ro .any w0 []) (dm e ro .any (dP (af k)) []):=
 i4 (sc:=[]) rfl aX
theorem aaS (h1:gH.length<=10)(h2:gI.length<=10)(ET:jt gH aP=(jt gI aP).reverse):aI (d+4) ba q6.2.2 (dm e ro .any (dP (af aP)) []) .next (dm e ro .any (dP (af aP)) []):=by
 obtain⟨a,b,oQ⟩:∃a b,jt gI aP=[a,b]:=⟨_,_,rfl⟩;rw[oQ] at ET;have c1:=aaH (d:=d+2) (st:=dm e ro .any (dP<|af aP) []) (ip:=49) (aP:=aP) (ps:=gH) rfl (by exact KH h1);rw[ET] at c1;have c2:=aaH (d:=d+2) (st:=dm e ro .any (dP<|af aP) [a0 [b,a]]) (ip:=50) (aP:=aP) (ps:=gI) rfl (by exact KH h2);rw[oQ] at c2;have b9:=JW (e:=e) (ro:=ro) (vs:=dP<|af aP) (n:=51) (aG _) (tv:=.any) rfl rfl (g:=[]) rfl;have Gx:aI (d+4) ba q6.2.2 (dm e ro .any (dP<|af aP) []) .next (dm e ro .any (dP<|af aP) []++[a0 [b,a],a0 [a,b],a0 [b,a]]):=by
  refine aW (sc:=[.val<|.ab 49,.c7 (.ab 51)<|λst=>st++[a0 [b,a]],.val<|.ab 50,.c7 (.ab 52)<|λst=>st++[a0 [a,b]],.c7 (.ab 53)<|λst=>st++[a0 [b,a]],.val<|.bool false,.cw]) rfl ?_;walk_at "obs"
  ·have:=Dc (d:=d+3) (st:=dm e ro .any (dP<|af aP) []++[a0 [b,a],a0 [a,b],a0 [b,a]]) (k:=51) (l:=53) (xs:=[af b,af a]) (ys:=[af b,af a]) rfl rfl rfl rfl (by rw[show CV.jV [af b,af a]=0 from rfl];exact o6);rw[uH _ rfl] at this;exact this
  ·have:=λ(ee:aq)=>Dd (d:=d+4) (e:=ee) (st:=dm e ro .any (dP<|af aP) []++[a0 [b,a],a0 [a,b]]) (k:=52) (xs:=[af a,af b]) (a:=.none) (b:=.none) (z:=.int<|-1) rfl rfl rfl rfl (by decide) (by show 2<=cX;decide);with_unfolding_all exact this _
  ·exact c2
  ·exact cK aaF
  ·exact uI (j:=1) rfl (by decide) rfl rfl
  ·exact c1
  ·exact cK aaF
  exact uI (j:=0) rfl (by decide) rfl rfl
 exact Gx.drop (aG _) (by exact b9) rfl
theorem aaT (h1:gH.length<=10)(h2:gI.length<=10):∀(ks:List Nat) v,(∀k∈ks,jt gH k=(jt gI k).reverse)->v.lo 0=true->∃v',v'.lo 0=true∧fG (d+4) ba q6.1 q6.2.2 (λx=>True) (ks.map af) (dm e ro .any (dP v) []) .next (dm e ro .any (dP v') [])
 |[],v,u,hv=>⟨v,hv,.nil trivial⟩|k::ks,v,h,hv=>by obtain⟨v',kW,R⟩:=aaT h1 h2 ks (af k) (λj hj=>h j<|.tail _ hj) rfl;exact⟨v',kW,.cons trivial ((i4 (sc:=[]) (by rfl) aX)) (aaS h1 h2<|h k<|.head _) (.inl rfl) R⟩
theorem apg (h1:gH.length<=10)(h2:gI.length<=10)(ET:∀k,1<=k->k<2*m->jt gH k=(jt gI k).reverse):∃v',v'.lo 0=true∧aI (d+4) ba ((cH.body.drop 27).take 1) (dm e ro .any w0 []) .next (dm e ro .any (dP v') []):=by
 obtain⟨n,hn⟩:∃n,2*m=1+(n+1):=⟨2*m-2,by(have:=dz;have:=Qv;lia)⟩;obtain⟨v',kW,R0⟩:=aaT h1 h2 (fc 2 n) (af 1) (λk hk=>by rw[Kw] at hk;obtain⟨i,hi,q⟩:=hk;exact ET k (ah [_,_] (.c (-1) 0 (.eq .o<|.a (.n 2) .i)<|.gl .j .o) rfl q)<|ah [_,_,_,_] (.lt .o .i<|.c (-1) 0 (.eq .u<|.a .j<|.a .i .j)<|.eq .w (.a (.n 2)<|.m 1 .o)<|.gt .w .u) rfl hi hn q) rfl;have R:fG (d+4) ba q6.1 q6.2.2 (λx=>True) ((fc 1<|n+1).map af) (dm e ro .any w0 []) .next (dm e ro .any (dP v') []):=by rw[mO,eC];exact .cons trivial (ape) (aaS h1 h2<|ET 1 (KE)<|ah [_,_] (.c (-1) 0 (.eq .o<|.a .j<|.a .i .j)<|.gt .j .o) rfl hn) (.inl rfl) R0
 refine⟨v',kW,?_⟩;have src:=OM 1 (n+1)<|ah [_,_] (.c (-1) 0 (.eq (.m 2 .o) .i)<|.c 2 0 (.le .o<|.n 5)<|.gl .i<|.n<|2^20) rfl hn dz;rw[<-hn] at src;obtain⟨src⟩:=src;have iter:=dk (d:=d+4) (c:=ba) (st:=dm e ro .any w0 []) (sc:=[.val<|.fW 1 (2*m:Nat) 1]) (e:=q6.2.1) (by rfl) (by walk_at "obs";exact oK<|by decide);have F:∀{tt i:aq} {b:List bl} {pp:Pos},tt=q6.1->b=q6.2.2->i=q6.2.1->dB (d+4) ba (.For tt i b [] pp) (dm e ro .any w0 []) .next (dm e ro .any (dP v') []):=by intro tt i b pp h1 h2 h3;subst h1;subst h2;subst h3;exact mq src rfl iter trivial R
 apply aW (sc:=[.fl .next (λx=>dm e ro .any (dP v') [])]) (by rfl);walk_at "obs";exact F rfl rfl rfl
end
end
section
variable {d:Nat}
section
variable {e:fB}{vs:List (Str×CV)}
theorem aph {T:List ae}(h1:T[1]?=some (.frame (QQ .any tv++vs)))(hT:T.length=n)(QM:T[40]?=some (a0 aA))(pu:T[8]?=some (.cell (some (.ab 33))))(QN:T[33]?=some (ax aC))(b9:(T.all λo=>o.lo n)=true)(iQ:aC.length<=10)(hY:∀k∈aA,k<aC.length):a8 d ba (aaI 28) T (.ab n) (T++[.list (aA.map λk=>br (d5 k,aC.getD k ""))]):=by
 have hL:∀{i:Nat} {o:ae} {g:List ae},T[i]?=some o->(T++g)[i]?=some o:=λh=>by rwa[d2 (bV.mp h).1]
 refine oJ<|EM (cl:=[("drawn",8)]) ⟨rfl,rfl,rfl,rfl,rfl⟩ rfl (eu rfl rfl (CG rfl h1 rfl rfl)) hT b9 QM (λu=>rfl) (rr F0.r7) ?_;intro k hk acc du;have gE:aC[k]?=some (aC.getD k ""):=by rw[ed,bA<|hY k hk];rfl
 have iO:=hY k hk;have hl:(cQ "abcdefghij")[k]?=some (d5 k):=zb (by exact o3 iO iQ);exact CJ (oO rfl (jC (CH rfl) (nh rfl rfl hT rfl rfl rfl rfl)<|wS hl<|Tz iO iQ) (oO rfl (jC (eu rfl rfl (Aq rfl rfl (hL pu))) (nh rfl rfl hT rfl rfl rfl rfl)<|e8 (hL QN) rfl gE (pX iQ)) sW)) wM
theorem api {gv:CV}(BV:gv.lo 0=true)(hK:∀p∈ro,bY p.1)(nu:∀x∈pl,x.length<2^17){out:List (Nat×Str)}(EN:∀p∈out,dH p.2)(EO:gh bP (·== ·) (pl.map gT) (jI ro)=some out)(tR:e.D.drawn.length<=10)(hY:∀k∈aA,k<e.D.drawn.length)(yZ:dY out=mH aA e.D.drawn):aI (d+12) ba ((cH.body.drop 28).take 1) (dm e ro .any (dP gv) []) .next (dm e ro .any (dP gv) []):=by
 have hvs:∀n,((dP gv).all λp=>p.2.lo<|51+n)=true:=λn=>by show((CV.ab 47).lo _&&((CV.ab 48).lo _&&(gv.lo _&&true)))=true;rw[cP,CV.mD (dQ _) _ BV];exact iR.mpr ⟨decide_eq_true (by exact ah [_] (.gt (.n 47)<|.a (.n 51) .o) rfl),iR.mpr ⟨decide_eq_true (by exact ah [_] (.gt (.n 48)<|.a (.n 51) .o) rfl),rfl⟩⟩
 have zC:=QL (d:=d) (st:=dm e ro .any (dP gv) []) (i0:=44) (i1:=45) (ip:=21) ⟨rfl,rfl,rfl⟩ rfl (by decide) zw nu hK EN EO;have vE:=Ig (d:=d+10) (st:=dm e ro .any (dP gv)<|bd 51<|dY out) (i1:=52) ⟨rfl,rfl,rfl⟩ (by rw[yZ,mH,aV];exact TA F0.r7);have vF:=Ie (d:=d+12) (st:=dm e ro .any (dP gv)<|bd 51<|dY out) (i1:=52) ⟨rfl,rfl,rfl⟩;rw[yZ] at zC vE vF;have QP:∀os:List (Str×Str),((dm e ro .any (dP gv)<|bd 51 os++[ae.list<|os.map br]).all λo=>o.lo 55)=true:=λos=>
  JW (by decide) rfl (hvs 4) (cC (nz<|by decide)<|BS<|wQ _)
 have L:=λ(os:List (Str×Str))=>aph (d:=d+12) rfl rfl rfl rfl rfl (QP os) tR hY;have eL:(ae.list<|aA.map λk=>br (d5 k,e.D.drawn.getD k ""))=.list ((mH aA e.D.drawn).map br):=by rw[mH,fV];rfl
 rw[eL] at L;generalize mH aA e.D.drawn=os at *;have Gx:aI (d+12) ba ((cH.body.drop 28).take 1) (dm e ro .any (dP gv) []) .next (dm e ro .any (dP gv) []++(bd 51 os++[.list<|os.map br,.list<|os.map br])):=by
  refine aW (sc:=[.c7 (.ab 52)<|λst=>st++bd 51 os,.bg (.aH 148) [.ab 52],.c7 (.ab 54)<|λst=>st++[.list<|os.map br],.c7 (.ab 55)<|λst=>st++[.list<|os.map br],.val<|.bool false,.cw]) (by rfl) ?_;walk_at "obs"
  ·exact aaJ (d:=d+11) (by rfl) rfl
  ·exact L os
  ·exact vE
  ·exact cK Ib
  ·exact vF
  ·exact zC
  exact cK QK
 exact Gx.drop (aG _) (by rw[show(dm e ro .any (dP gv) []).length=51 from rfl];exact JW (aG _) rfl (hvs 0) rfl) rfl
end
end
section
variable {d:Nat}
section
variable {e:fB}{vs:List (Str×CV)}
noncomputable def jx:ae:=.list [.none,.str "y",.str "y"]
theorem apj (hK:∀p∈ro,bY p.1)(gw:ro.length<=1000)(kD:eH ro (bZ "z")=none):aI (d+6) ba ((cH.body.drop 29).take 1) (dm e ro .any (dP gv) []) .next (dm e (ro++zy) (.ab 51) (dP gv) [jx]):=by
 have hlz:bZ "Z"=bZ "z":=by decide
 have hnZ:eH ro (bZ "Z")=none:=by rwa[hlz]
 have g1:=OQ (d:=d+2) (st:=dm e ro .any (dP gv) []) (i0:=44) (i1:=45) (i2:=46) (hs:=ro) (x:="z") ⟨rfl,rfl,rfl⟩ hK F0.kz.1;have g2:=Yi (d:=d) (st:=dm e ro .any (dP gv) []) (i0:=44) (i1:=45) (x:="Z") (v:="y") ⟨rfl,rfl,rfl⟩ hK F0.kz.2.1 F0.kz.2.2 (by exact sS gw);have e2:tG ro "Z" "y"=ro++zy:=by unfold tG;rw[hnZ];rfl
 have e3:tH ro "Z" "y"="y":=by unfold tH;rw[hnZ]
 have pr:∀p∈ro++zy,bY p.1:=λp hp=>by
  rcases f7.mp hp with q|q
  ·exact hK p q
  rw[show zy=[(("Z":Str),("y":Str))] from rfl] at q;exact gV.mp q▸F0.kz.2.1
 have g3:=OQ (d:=d+2) (st:=dm e (ro++zy) .any (dP gv) []) (i1:=45) (x:="z") ⟨rfl,rfl,rfl⟩ pr F0.kz.1;rw[show lG ro "z" .none=.none by unfold lG;rw[kD]] at g1;rw[e2,e3] at g2;rw[show lG (ro++zy) "z" .none=.str "y" by unfold lG;rw[show zy=[(("Z":Str),("y":Str))] from rfl,akW kD<|by rw[hlz];decide]] at g3;have m1:=Ic (d:=d+6) (st:=dm e ro .any (dP gv) []) (i1:=45) ⟨rfl,rfl,rfl⟩;have m2:=Yg (d:=d+6) (st:=dm e ro .any (dP gv) []) (i1:=45) ⟨rfl,rfl,rfl⟩;have m3:=Ic (d:=d+6) (st:=dm e (ro++zy) .any (dP gv) []) (i1:=45) (i2:=46) (hs:=ro++zy) ⟨rfl,rfl,rfl⟩;generalize ro++zy=r2 at *;refine aW (sc:=[.bg (.aH 131) [.ab 45],.val .none,.bg (.aH 174) [.ab 45],.aE (.str "y")<|dm e r2 .any (dP gv) [],.bg (.aH 131) [.ab 45],.val<|.str "y"]) rfl ?_;walk_at "obs"
 ·exact g3
 ·exact cK Ia
 ·exact m3
 ·exact g2
 ·exact cK Ye
 ·exact m2
 ·exact g1
 ·exact cK Ia
 exact m1
end
end
section
variable {d:Nat}
section
variable {e:fB}{ro:List (Str×Str)}{gv:CV}
noncomputable def fB.pI (e:fB)(p:List Nat×Int×List Str):fB:={e with D:=⟨p.1,p.2.1,p.2.2,e.D.line,e.D.drawn,e.D.row,e.D.eM⟩}
theorem EU:t5 (dm e ro tv vs g) 24 e.D.cs e.D.ln e.D.pb
 |0,x=>rfl|1,x=>rfl|2,x=>rfl|3,x=>rfl|4,x=>rfl|5,x=>rfl|6,x=>rfl|7,x=>rfl|n+8,h=>absurd h<|ah [_,_] (.g 1 0<|.no<|.lt (.a .o .i) .i) rfl
noncomputable def zL (n:Int):ae:=.list [.str "z",.str "",.int n]
theorem apk (BV:gv.lo 0=true){z1 z2:List Nat×Int×List Str}(Df:e.D.cs.length<=1000000)(hp0:e.D.pb.length<=1000000)(lE:z1.1.length<=1000000)(Im:z1.2.2.length<=1000000)(h1:i8 e.D.cs e.D.ln e.D.pb=(("z":Str),z1))(h2:i8 z1.1 z1.2.1 z1.2.2=(("":Str),z2))(tS:z2.2.1=1+sM T "\n"):∃ag,aI (d+7) ba ((cH.body.drop 30).take 1) (dm e ro (.ab 51) (dP gv) [jx]) (.ret (.bool true)) ag∧ag.length=55∧(ag.all λo=>o.lo 55)=true∧ag[0]?=some (a0 ss):=by
 have g1:=JH (d:=d) (st:=dm e ro (.ab 51) (dP gv) [jx,jx]) (n:=24) (cs:=e.D.cs) (ln:=e.D.ln) (pb:=e.D.pb) EU Df hp0;have g2:=JH (d:=d) (st:=dm (e.pI z1) ro (.ab 51) (dP gv) [jx,jx]) (n:=24) (cs:=z1.1) (ln:=z1.2.1) (pb:=z1.2.2) EU lE Im;have l3:=ant (d:=d+7) (st:=dm (e.pI z2) ro (.ab 51) (dP gv) [jx,jx]) (n:=24) (cs:=z2.1) (ln:=z2.2.1) (pb:=z2.2.2) EU;have m1:=JG (d:=d+7) (st:=dm e ro (.ab 51) (dP gv) [jx,jx]) EU;have m2:=JG (d:=d+7) (st:=dm (e.pI z1) ro (.ab 51) (dP gv) [jx,jx]) EU;rw[h1] at g1;rw[h2] at g2;have cc:∀st:List ae,bk (d+7) (.bi "str.count") [.str T,.str "\n"] [] st (.int<|sM T "\n") st:=λst=>MP;generalize hw:sM T "\n"=cn at *;have aaX:=Mz (d:=d+6) (st:=dm e ro (.ab 51) (dP gv) [jx,jx]) (k:=51) (l:=52) rfl rfl rfl rfl (by decide);have aaY:=Mz (d:=d+6) (st:=dm (e.pI z2) ro (.ab 51) (dP gv) [jx,jx,zL z2.2.1,zL<|1+cn]) (k:=53) (l:=54) rfl rfl rfl rfl (by rw[show CV.jV [.str "z",.str "",.int z2.2.1]=0 from rfl];exact o6);rw[uH _ rfl] at aaX;rw[show mY [.str "z",.str "",.int z2.2.1] [.str "z",.str "",.int<|1+cn]=true by rw[tS];exact uH _ rfl] at aaY;refine⟨dm (e.pI z2) ro (.ab 51) (dP gv) [jx,jx,zL z2.2.1,zL<|1+cn],?_,rfl,?_,rfl⟩
 rotate_left
 ·refine JW (by decide) rfl ?_ rfl;show((CV.ab 47).lo _&&((CV.ab 48).lo _&&(gv.lo _&&true)))=true;rw[cP,CV.mD (dQ _) _ BV];rfl
 refine aW (sc:=[.val<|.bool true,.cw,.bg (.aH 273) [.ab 30],.aE (.str "z")<|dm (e.pI z1) ro (.ab 51) (dP gv) [jx,jx],.bg (.aH 273) [.ab 30],.aE (.str "")<|dm (e.pI z2) ro (.ab 51) (dP gv) [jx,jx],.val<|.int z2.2.1,.bg (.bi "str.count") [.str T],.val<|.int cn,.val<|.bool true]) rfl ?_;walk_at "obs"
 ·exact aaY
 ·show 3<=cX;decide
 ·exact cc _
 ·exact yy
 ·show 3<=cX;decide
 ·exact l3
 ·exact g2
 ·exact cK JF
 ·exact m2
 ·exact g1
 ·exact cK JF
 ·exact m1
 exact aaX
end
end
section
variable {d:Nat}
abbrev t9:aY:=da wb.scope 0 none
def JX:aq:=iL (g7 wb.body 0)
def apm:aq:=iL (g7 wb.body 1)
def BW:aq:=ew apm 0
noncomputable def sA (L:ai):List ae:=[.frame [("script",.aH L)],.cell none]
def lh (L:ai)(zs:List Int):List ae:=[.frame [("script",.aH L)],.cell (some (.ab 3)),.list ((zs.take 60).map CV.int),a0 (fq zs)]
theorem apn {st:List ae}{k:Nat}{xs:List Nat}(hk:st[k]?=some (a0 xs))(hx:∀x∈xs,x<5040)(hl:xs.length<=100):bk d (.bi "sum") [.ab k] [] st (.int (xs.sum:Nat)) st:=by
 have:=afs (d:=d) hk (λj hj=>by
  rw[aV] at hj;have h3:(xs.take<|j+1).length<=100:=nG▸Th hl;rw[<-oH,YX,ed,dN,bA hj];refine⟨⟨?_,?_⟩,⟨KM,?_⟩⟩
  ·exact KM
  ·exact ah [_] (.lt .o (.n 5040)<|.g 1 0<|.it (.c .o)<|.n<|2^63) rfl (hx _<|Rs hj)
  exact ah [_,_] (.c 5040 0 (.le .o<|.n 100)<|.le .i (.m 5040 .o)<|.g 1 0<|.it (.c .i)<|.n<|2^63) rfl h3 (akZ (xs:=xs.take<|j+1) λy hy=>hx y<|B4 hy))
 rwa[YX] at this
section
variable {L:ai}{zs:List Int}
theorem apq (GA:IA L zs)(hz:zs.length<=63):aI d t9 (wb.body.take 1) (sA L) .next (lh L zs):=by
 have hs:=λe=>(show fF d e (.aH L) (.sl [(.none),(.int 60),(.none)]) (sA L) (.ab (sA L).length) ((sA L)++[.list<|e7 (zs.map CV.int) none (some 60) none]) from λA own s x y q S ra rb=>by
  subst ra;obtain⟨o,vs,n,ho,hc,hd,hr⟩:=GA.bD;have hr:=hr own s.heap;obtain⟨sa,ss,rfl,_,_,wB,va,_,rfl,ra,vb,_,rfl,rb,vz,_,rfl,rz,jD⟩:=rb;subst jD;have hl:=aF.length hr;have hL:s.heap.IsList L vs.toArray:=⟨o,S.bj _ _ ho,hc,n,hd⟩;apply yt hL.typeIs abD.lookup;refine aql hL ⟨_,wB,rfl,rfl⟩ (AQ rfl ra) (AQ rfl rb) (AQ rfl rz) (by decide) ?_<|ig▸hl▸(by rw[aV];show _<=2^24;exact ah [_] (.le .o (.n 63)<|.gl .o<|.n<|2^24) rfl hz);have fX:aF own s.heap (e7 (zs.map CV.int) none (some 60) none) (e7 vs none (some 60) none):=by unfold e7;exact hl▸GV hr _
  obtain⟨av,E,S',r'⟩:=S.newList fX;have e:Ru vs.toArray none (some 60) none=(e7 vs none (some 60) none).toArray:=by unfold Ru e7;simp
  exact e▸⟨av,E,S',r'⟩)
 rw[Hf,show((zs.map CV.int).drop<|eZ none (zs.map CV.int).length).take (i5 (some 60) (zs.map CV.int).length-eZ none (zs.map CV.int).length)=(zs.take 60).map CV.int by show z6 (nH _ (60:Nat)-0) (rq 0 _)=_;rw[uP,sQ,vY,<-List.take_take,B7,oH]] at hs;have iter:=dk (c:=t9) (st:=sA L) (sc:=[.c7 (.ab 2)<|λst=>st++[.list<|(zs.take 60).map CV.int]]) (e:=kZ JX) (by rfl) (by walk_at "obs";exact hs _);have E:lx d t9 JX (sA L) (.ab 3) (sA L++[.list<|(zs.take 60).map CV.int]++[a0<|fq zs]):=by
  have eo:a0 (fq zs)=.list ((zs.take 60).map λz=>.int<|z.fmod 5040):=by rw[a0,fq,fV,fV];congr 1;refine vZ λz x=>?_;have:=aqK z (b:=5040) (by decide);show CV.int ((z.fmod 5040).toNat)=_;rw[Int.toNat_of_nonneg this]
  rw[eo];have b9:((sA L++[ae.list<|(zs.take 60).map CV.int]).all λo=>o.lo 3)=true:=by
   have h:∀xs:List Int,CV.cV 3 (xs.map CV.int)=true:=λxs=>An.mpr λy hy=>by obtain⟨z,_,rfl⟩:=cu.mp hy;rfl
   show(_&&(_&&(CV.cV 3 ((zs.take 60).map CV.int)&&true)))=true;rw[h];rfl
  refine KB<|b31 _ CV.int ⟨⟨rfl,rfl,rfl,rfl,rfl⟩,rfl,iter,⟨rI 2 _⟩,λx=>rfl,rfl,by show 2<=3;decide,b9,by rw[aV,nG];exact acl⟩ λz hz acc du=>⟨?_,rfl⟩;have:=dk (d:=d) (c:=cI t9 (fH JX) 4 []) (e:=ew JX 0) (st:=sA L++[.list<|(zs.take 60).map CV.int]++[.list acc,.frame [("number",.int z)]]) (sc:=[]) (by rfl) (by walk_at "obs");exact this
 apply aW (sc:=[.c7 (.ab 3)<|λst=>st++[.list<|(zs.take 60).map CV.int]++[a0<|fq zs]]) (by rfl);walk_at "obs";exact E
theorem aaZ:((lh L zs).all λo=>o.lo 4)=true:=by
 have h:∀xs:List Int,CV.cV 4 (xs.map CV.int)=true:=λxs=>An.mpr λy hy=>by obtain⟨z,_,rfl⟩:=cu.mp hy;rfl
 show(_&&(_&&(CV.cV 4 ((zs.take 60).map CV.int)&&((a0<|fq zs).lo 4&&true))))=true;rw[h,k8];rfl
theorem apr {k:Nat}(hk:k<6)(g9:(r6 (fq zs) k).length<=100)(du:CV.cV 4 acc=true):∀cc e,cc=cI t9 (fH BW) 5 [("rests",1)]->e=(ew BW 0)->a8 d cc e (lh L zs++[.list acc,.frame [("k",af k)]]) (af (w6.getD k 0+(r6 (fq zs) k).sum)) (lh L zs++[.list acc,.frame [("k",af k)]]):=by
 intro cc e h1 h2;subst h1;subst h2;have hs:=λe=>Dd (d:=d) (e:=e) (st:=lh L zs++[.list acc,.frame [("k",af k)]]) (k:=3) (a:=af k) (b:=.none) (z:=.int 6) (lo:=some k) (by show some (a0 _)=_;rw[Pn]) rfl rfl rfl (by decide) (by rw[aV];have:=Pm (zs:=zs);show _<=2^24;exact ah [_] (.le .o (.n 60)<|.gl .o<|.n<|2^24) rfl this);rw[akX,<-Pn] at hs;have aps:=apn (d:=d) (st:=lh L zs++[.list acc,.frame [("k",af k)],a0<|r6 (fq zs) k]) (k:=6) rfl (ak0 akY) g9;have hb:w6[k]?=some (w6.getD k 0):=by rw[ed,bA<|by show k<6;exact hk];rfl
 have apt:∀st e,fF d e (.cB [af 26,af 22,af 1054,af 4321,af 36,af 68]) (af k) st (af<|w6.getD k 0) st:=λst e=>afj ⟨by exact KM,by exact ah [_] (.lt .o (.n 6)<|.g 1 0<|.it (.c .o)<|.n<|2^63) rfl hk⟩ (rM hk) (by have:[af 26,af 22,af 1054,af 4321,af 36,af 68]=w6.map af:=rfl;rw[this,dN,hb];rfl);have eS:e7 (fq zs) (some k) none (some 6)=r6 (fq zs) k:=rfl;rw[eS] at hs;generalize r6 (fq zs) k=sl at *;generalize w6.getD k 0=b at *;have Gx:=dk (c:=cI t9 (fH BW) 5 [("rests",1)]) (e:=ew BW 0) (v:=.int<|b+sl.sum) (st:=lh L zs++[.list acc,.frame [("k",af k)]]) (sc:=[.val<|af b,.c7 (.ab 6)<|λst=>st++[a0 sl],.val<|.int (sl.sum:Nat)]) rfl (by
  walk_at "obs"
  ·exact aps
  ·exact hs _
  exact apt _ _)
 have e3:((b:Int)+(sl.sum:Nat))=((b+sl.sum:Nat):Int):=by exact ah [_,_] (.g 1 1<|.ie (.a (.c .o)<|.c .i)<|.c<|.a .o .i) rfl
 rw[e3] at Gx;refine Gx.drop (aG _) ?_ rfl;apply cC<|Bl (by show 4<=6;decide) aaZ;rw[bU,bU,cG];show(CV.cV _ acc&&_)=true;rw[show CV.cV _ acc=true from CV.vh (by show 4<=6;decide) acc du];rfl
theorem apu:a8 d t9 BW (lh L zs) (.ab 4) (lh L zs++[a0 (qT (fq zs))]):=by rw[show a0 (qT<|fq zs)=.list ((aK 6).map λi=>af<|w6.getD i 0+(r6 (fq zs) i).sum) by rw[Pn,qT,fV];rfl];refine oJ<|b31 _ af ⟨⟨rfl,rfl,rfl,rfl,rfl⟩,rfl,dk (d:=d) (c:=t9) (st:=lh L zs) (sc:=[.val<|.fW 0 6 1]) (e:=kZ BW) (by rfl') (by walk_at "obs"),mE 6 (by decide),λx=>trivial,rfl,aG _,aaZ,by decide⟩ λi hi acc du=>⟨?_,rfl⟩;exact apr (d:=d) (L:=L) (zs:=zs) (gz.mp hi) (ak2 (gz.mp hi) Pm) du _ _ rfl rfl
theorem apv {d':Nat}(hP:∀{st} {k},st[k]?=some (a0 (qT (fq zs)))->bk d (.aH 328) [.ab k,af (if(fq zs).length>3 then 5 else 4)] [] st (.bool true) st):aI d t9 (wb.body.drop 1) (lh L zs) (.ret (.bool true)) (lh L zs++[a0 (qT (fq zs))]):=by
 have LS:=apu (d:=d) (L:=L) (zs:=zs);have ln:=YG (d:=d) (st:=lh L zs++[a0<|qT<|fq zs]) (q:=3) rfl (ah [_] (.le .o (.n 60)<|.gt .o<|.n<|2^20) rfl (Pm (zs:=zs)));have hp:=hP (st:=lh L zs++[a0<|qT<|fq zs]) (k:=4) rfl;generalize a0 (qT<|fq zs)=so at *;by_cases h3:(fq zs).length>3
 ·rw[if_pos h3] at hp;apply aW (sc:=[.c7 (.ab 4)<|λst=>st++[so],.val<|.int (fq zs).length,.yes,.val<|.bool true]) (by rfl);walk_at "obs"
  ·exact hp
  ·exact cK (iG<|by kernel_rfl)
  ·exact decide_eq_true<|ah [_] (.lt (.n 3) .o<|.g 1 0<|.it (.n 3)<|.c .o) rfl h3
  ·exact ln
  exact LS
 rw[if_neg h3] at hp;apply aW (sc:=[.c7 (.ab 4)<|λst=>st++[so],.val<|.int (fq zs).length,.no,.val<|.bool true]) (by rfl);walk_at "obs"
 ·exact hp
 ·exact cK (iG<|by kernel_rfl)
 ·exact decide_eq_false<|ah [_] (.c 1 0 (.no<|.lt (.n 3) .o)<|.g 1 0<|.no<|.it (.n 3)<|.c .o) rfl h3
 ·exact ln
 exact LS
end
end
section
variable {d:Nat}
theorem iH {c:aY}{b:List bl}{i n:Nat}{st aw ag:List ae}{f:cZ}(h:aI d c ((b.drop i).take n) st .next aw)(k:aI d c (b.drop (i+n)) aw f ag):aI d c (b.drop i) st f ag:=
 jY n h (by rwa[v7])
theorem apw {c:aY}{b:List bl}{i n:Nat}{st ag:List ae}{f:cZ}(h:aI d c ((b.drop i).take n) st f ag)(hl:b.length=i+n):aI d c (b.drop i) st f ag:=by rwa[uc<|by rw[jA];lia] at h
theorem apx:∃ag,aI (d+12) ba cH.body Qy (.ret (.bool true)) ag∧ag.length=55∧(ag.all λo=>o.lo 55)=true∧ag[0]?=some (a0 ss):=by have b1:=anb (d:=d+12);rw[F0.xl] at b1;have b2:=anc (d:=d+12) (s:=bh sg);rw[F0.Mb,F0.hg2,F0.qU] at b2;have b3:=ani (d:=d+12) (by have:=anh (d:=d+12) (g1:=g1) (g2:=g2) (s:=bh sg);rwa[F0.Z3] at this);have p4:=(ank (d:=d+12)<|F0.w8.trans F0.vr.symm).2;rw[F0.am5,F0.cp] at p4;have b5:=anB (d:=d+10);rw[F0.hT,F0.Hc] at b5;have w7:=(anI (d:=d+5) F0.w9 F0.zg).2;rw[q4,F0.z0.1,F0.z0.2] at w7;have b10:=an' (d:=d+2);rw[show DD (2*m)=_ from F0.DE,show DD 0=_ from F0.D0] at b10;have aa1:∀x∈pl,x.length<=100:=λx hx=>fC (F0.Bt x hx) (by decide);have b11:=aob (d:=d+12) (D:=⟨cs,ln,[],line,drawn,row,cD wn false⟩);have b12:=aoh (d:=d+12) (D:=⟨cs,ln,[],line,drawn,row,cD wn false⟩) F0.Bt;obtain⟨n',mU,b14⟩:=aoo (nest:=cD (2*m) "") (D:=⟨cs,ln,[],line,drawn,row,cD wn false⟩) aa1 Fm F0.ID;rw[F0.cz] at b14;have b15:=aor (d:=d+2) (D:=⟨cs,ln,[],line,drawn,row,cD wn false⟩) (n:=n')<|ah [_] (.le .o (.n 110)<|.gl .o<|.n 190) rfl mU;have b16:=aot (d:=d+12) (D:=D1<|n'+2) aa1;have QU:∀{x:Str},x.length<=5->x.length<2^17:=λh=>q7 h (by decide);have nu:∀x∈pl,x.length<2^17:=λx hx=>QU<|F0.Bt x hx;have qw:∀x∈drawn,x.length<2^17:=λx hx=>QU<|F0.D9 x hx;have tR:drawn.length<=10:=o2 F0.Bv dz;have hdk:∀k∈aA,k<drawn.length:=λk hk=>F0.Bv▸F0.pA k hk;have b17:=aox (d:=d+2) (D:=D1<|n'+2) (n:=n'+2) (ah [_] (.le .o (.n 110)<|.gl (.a .o<|.n 2)<|.n 200) rfl mU) rfl F0.IJ (Sz q4 dz) (by exact z8 F0.Bu dz) (λk hk=>by show k<line.length;rw[F0.Bu];exact F0.pA k hk);have b18:=aoz (d:=d) (D:=D1<|n'+2) (o2 F0.Bu dz) (λx hx=>QU<|F0.IF x hx) F0.IK nu F0.IL F0.IM (o2 F0.Ec dz) (λk hk=>by rw[F0.Ec];exact F0.pA k hk) F0.IN;let e:fB:=⟨D1<|n'+2⟩;have b19:=aoA (e:=e) (d:=d+5) tR qw F0.Ed;have b20:=aoB (e:=e) (d:=d+4) F0.ze (Sz q4 dz) tR hdk (λp hp=>(F0.Ed p hp).1) (ym n0<|c8 F0.ze) F0.Ee F0.IP;have b21:=aoJ (e:=e) (d:=d+8) (ah [_,_] (.eq .o .i<|.le .i (.n 5)<|.gl .o<|.n 100) rfl F0.Ee dz) (λk hk=>by have:=F0.pA k hk;exact ui this dz);rw[F0.Bx] at b21;have b22:=aoK (e:=e) (d:=d) nu F0.IQ F0.IR F0.IS;rw[F0.By] at b22;have b23:=aoL (e:=e) (d:=d+10) (td:=td)<|SA F0.Ef;have b24:=aoM (e:=e) (d:=d+8) (td:=td) (ro:=ro) F0.xa;rw[F0.IT] at b24;have b25:=ao1 (e:=e) (d:=d+11) (z8 sk dz) F0.Bv (λx hx=>fC (F0.D9 x hx)<|by decide) F0.IW rfl F0.IY F0.Bz F0.IU (λx hx=>fC (F0.IV x hx)<|by decide) F0.IX rfl F0.IZ F0.zf;have b26:=apd (e:=e) (d:=d+11) F0.I3;obtain⟨gv,BV,b27⟩:=apg (e:=e) (d:=d+8) F0.zh F0.zi F0.I4;have b28:=api (e:=e) (d:=d) BV F0.xa nu F0.I5 F0.I6 tR hdk F0.I7;have b29:=apj (e:=e) (d:=d+6) (gv:=gv) F0.xa (SA F0.Ef) F0.I8;obtain⟨ag,b30,q1,q2,q3⟩:=apk (e:=e) (d:=d+5) (ro:=ro++zy) BV (sS F0.IE) (by show 0<=1000000;decide) (sS F0.zj.1) (sS F0.zj.2) F0.BA F0.BB F0.BC;exact⟨ag,jY 2 b1 (iH b2<|iH b3<|iH (anx p4)<|iH b5<|iH (anE (d:=d+7))<|iH (anT (d:=d+12) rfl w7)<|iH b10<|iH b11<|iH b12<|iH b14<|iH b15<|iH b16<|iH b17<|iH b18<|iH b19<|iH b20<|iH b21<|iH b22<|iH b23<|iH b24<|iH b25<|iH b26<|iH b27<|iH b28<|iH b29<|apw b30<|by rfl'),q1,q2,q3⟩
end
section
variable {d:Nat}
theorem apN:bM (d+14) (.aH 328) [.ab 0,af m] [] [a0 ss] (.bool true) [a0 ss]:=by obtain⟨ag,B,h1,h2,h3⟩:=apx;have c:=ahj.code (tab:=some (327,325)) (aw:=[a0 ss]) (qA (x1:="sums") (x2:="many") (λv1 v2 S=>by kernel_rfl) gF) (by kernel_rfl) (λq h=>by obtain rfl:=dE h;exact⟨(Cy▸.tail _ (.head _)),rfl⟩) (by rw[dM];exact B) (.inl rfl) (by rw[h1];decide) (h1▸h2) rfl;refine c.qr<|yk [0] (by decide) ?_ rfl rfl;exact cq (gq h3<|fz<|Ho _ _) iF
theorem apO {st:List ae}{ip:Nat}(hp:st[ip]?=some (a0 ss)):bk (d+14) (.aH 328) [.ab ip,af m] [] st (.bool true) st:=by have:bM (d+14) (.aH 328) [.ab ip,af m] [] st (.bool true) (st++[]):=bM.wR [ip] apN (by simp) (by exact cq (gq hp<|fz<|Ho _ _) iF) rfl (gC (ij<|gr [ip] 0 ip (by simp) rfl) rfl) rfl iF rfl;rw[dM] at this;exact this.call
end
theorem apP (GA:IA L e0.zs)(hz:e0.zs.length<=63):bk (d+16) (.aH 333) [.aH L] [] [] (.bool true) []:=by
 have B:aI (d+14) t9 wb.body (sA L) (.ret<|.bool true) (lh L e0.zs++[a0<|qT<|fq e0.zs]):=
  jY 1 (apq (d:=d+14) GA hz) (apv (d:=d+14) (L:=L) (d':=0) λhk=>by rw[F0.ss0] at hk;rw[F0.hmm];exact apO hk)
 exact((ahi).code (tab:=none) (st:=[]) (aw:=[]) (ag:=[]) (g:=lh L e0.zs++[a0<|qT<|fq e0.zs]) (pe (x1:="script") (λv1 S=>by kernel_rfl) gF) (by kernel_rfl) (λq h=>by exact nS h) (by with_unfolding_all exact B) (.inl rfl) (aG _) rfl rfl).call
theorem aa7:∀{vs} {zs},IntsAre vs zs->aF own h (zs.map CV.int) vs
 |_,_,.nil=>rfl|_,_,.cons _ _ h=>⟨_,_,rfl,⟨_,rfl⟩,aa7 h⟩
theorem apQ:Rm 16 callerA:=⟨rfl,by decide +kernel,by decide +kernel⟩
theorem apR (k:e0.Ok):e0.Aj:=by
 have hP:X.P=ul.map (·.2):=by rw[Cx.P,Cy]
 have S:Sx [] [] e0.s:=⟨λb o e=>by rw[FR] at e;exact of_hideAll _ e,rfl,EX,λx h=>(nomatch h),λi o a h=>by simp at h,λq hq=>by rw[hP] at hq;obtain⟨r,hr,rfl⟩:=cu.mp hq;exact⟨#[],(k.hT r hr).2,trivial,λpos cv e=>by exact nS e⟩,.of_eq k.hg,k.tk,acI k⟩;have GA:IA e0.Ai e0.zs:=⟨by obtain⟨o,e,hc,n,hd⟩:=k.hL;exact⟨o,e0.vs,n,by rw[FR];exact ghost_get k.hT e (λq=>by rw[q] at hc;cases hc),hc,hd,λown h=>aa7 k.hI⟩⟩;have h:=apP GA k.hz callerA [] e0.s (.ref 333) [.ref e0.Ai] [] apQ S rfl ⟨_,_,rfl,rfl,rfl⟩ rfl;have eX:aQ X.prog X.w=aQ rW.prog e0.w:=by rfl'
 rw[Tr,eX] at h;refine bC h (λv s' h=>?_) λx x h=>h.elim;obtain⟨av,E,S',r⟩:=h;refine⟨r,⟨λb o e=>?_,λb o e=>?_⟩,E.os.os,S'.bare⟩
 ·by_cases hb:b∈X.P
  ·obtain⟨ps,e',_⟩:=S'.cU b hb;rw[hP] at hb;obtain⟨r,hr,rfl⟩:=cu.mp hb;have e2:=(k.hT r hr).2;rw[e] at e2;obtain rfl:=dE e2;exact .inr<|.inl ⟨((k.hT r hr).1.tab (k.hT r hr).2).isCodeTable,rfl,#[],ps,rfl,by rw[e'];simp⟩
  exact .inl<|E.bj b o e nofun hb
 by_cases hb:b∈X.P
 ·exact E.cU b hb o e
 exact⟨o,E.bj b o e nofun hb⟩
theorem apS:∀P,TY=(kF P).map (·.1):=λP=>rfl
theorem yY P:codeHdIn (kF P) 293 289=true:=by kernel_rfl
theorem wN P:codeHdIn (kF P) 327 325=true:=by kernel_rfl
theorem apU P:nsIn (kF P) jy "law"=some (some (.ref 333)):=by kernel_rfl
set_option tactic.hygienic true in
theorem ase {d:DefRec}{kwd:List (Str×aq)}(hn:d.name="law"):WalkX vw TZ (XL vw []) Le Lf rW d kwd (λf vs=>PySem.call f vs):=λw aT s₁ mg mb G Y fa o pm cd doc dV kV ho hd mh hD yI hg args asf as L Mr apX NG qY b9=>by
 rw[hn] at yI;clear hd mh hD ho
 wrow_args Mr apX NG qY b9;rename_i zs _ _ _ _ _ _ _ Ai vs _ hL _ _ _ hI _ hz _;obtain⟨KX,hT,QV⟩:=(show (kF w.params).In s₁.heap∧TabsAt ul s₁.heap∧0<aT.toks from by have KX:=vS (Frag.in_of (apS _)<|congrArg Prod.fst Y) L.keeps;have T0:=congrArg (λx=>x.2.1) Y;have t1:=L.keeps _ _ (ab0 T0).1;have t2:=L.keeps _ _ (ab0 (ab0 T0).2).1;have QV:=lj<|congrArg (λx=>x.2.2) Y;exact⟨KX,zK.mpr ⟨⟨codeHd_of_K KX<|yY _,t1⟩,zK.mpr ⟨⟨codeHd_of_K KX<|wN _,t2⟩,λu h=>nomatch h⟩⟩,QV⟩);obtain rfl:fa=333:=by have:=mg_of KX G.T.g<|apU _;rw[yI] at this;cases this;rfl
 have h:um.Aj ⟨w,s₁,mg,mb,_,_,Ai,vs,zs⟩:=acH apR _ ⟨hT,ghost_top hT G.T,ghost_K hT KX<|(by kernel_rfl),hL,hI,(by show zs.length<=63;lia),Nat.ne_of_gt<|sF QV<|X.script_toks L rfl,hg⟩;refine bC h (λv s' h=>?_) λx x h=>h.elim;obtain⟨rfl,h2,h3,h4⟩:=h;exact⟨.inl ⟨_,.bool true,[],rfl,λcls=>by kernel_rfl,.bool true,(by kernel_rfl),λx=>⟨EX,λx h=>(nomatch h)⟩⟩,h2,h3,h4⟩
theorem asi:J8.wellSaid=true:=by kernel_rfl
theorem ok0:(chainsOk vw&&opensWell J8.row.prog&&(frees J8.row.toRowW&&J8.row.within.isEmpty))=true:=by kernel_rfl
theorem fin0:PySem.Challenge.rw_tc0073_02.Holds:=by refine holds_law asi fun said => ?_;exact holds_openX aqY (fun s e => xl_of s (iR.mp e).1) XL.keeps rfl rfl rfl (fun s e => recFacts_of (iR.mp e).2) rfl said ok0 ⟨rfl, rfl, rfl, rfl, rfl, by decide +kernel⟩ ⟨[.list [.int 3, .int 1]], by decide +kernel, by decide +kernel⟩ (ase rfl)
end
end Mine.Internal
theorem PySem.Challenge.cw_tc0073_02_holds : PySem.Challenge.rw_tc0073_02.Holds := by
 exact Mine.Internal.fin0
