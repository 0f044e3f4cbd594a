import PyProof.Rows.All
import OpenK.ZHead
import KE.KSortAsk
import KE.KNestM
import KE.KBoundM
import KE.KLam
import ObjForm.ListNI
import Wide.Tac
import PySem.Challenge.RW_tc0073_01
set_option Elab.async false
set_option maxRecDepth 1000000
set_option maxHeartbeats 0
set_option linter.all false
set_option bootstrap.genMatcherCode false
set_option compiler.extract_closed false
set_option genSizeOf false
set_option genInjectivity false
set_option genCtorIdx false
set_option backward.match.sparseCases false
set_option tactic.hygienic false
namespace Mine.Internal
noncomputable section
open PySem PySem.W PySem.Calls PyProof.Rows
open PySem renaming Addr→ai, Value→an, Expr→aq, Shared→az, wpAny_bind→aB, model→aQ, wpAny→be, Heap→bf, Stmt→bl, wpAny_mono→bC, wpAny_pure→bH, sizeLine→cX, Scope→d8, eval→d9, FuncData→el, codeAny→gK, cellsFrom→je, mainGlobals→jy, strIterType→jM, wpAny_field→kf, execs→l4, starEach→l6, pyNext→l8, clausesOf→l9, DictEntry→nC, standAt→nE, clipAt→nH, assign→oE, Comprehension→oF, Arguments→pL, World→pM, backTo→pP, codeAny_mono→pS, Program→q9, rawInt→rh, letOwnedTupleGo→ri, seqIndex?→rl, wpAny_rule→sC, NameKind→sD, bindArgs→sH, Result→Kc, field→sO, CmpOp→ua, Keyword→ub, pyIter→ud, GenState→vK, codeAmong→vL, wpAny_holding→vN, backToKw→vO, keywordEach→vP, wpAny_newObj_type→vQ, call_meets→vU, sizeLine_eq→vW, wpAny_call_entry→vX, cLine→xA, isTrue→xB, assignEach→xD, swappedStores→xE, wpAny_toks_of→xG, argBest→xI, Fin→xK, IsEnum→zI, wpAny_standAt→zM, truthy→zN, spliced→zO, BoolOp→zP, swapsWith→zQ, sliceBounds→zS, JoinOk→zU, wpAny_attempt→zV, wpAny_callSpecial?_slot→zW, wpAny_setField_rec→zX, Params→BX, Operator→B0, wpAny_mkText→B1, behindInMarks→B2, comprehension→B6, wpAny_loadPart→B8, typeLookup_type→B9, builtinLookup_eq_fast→B', Builtin→Cb, wpAny_onRaise→E6, typeLookup→Fc, typeIs_str→Fe, entryFor→Fg, TriplesOk→J9, recursionLimit→Ka, builtinsNs→Kb, subscripted→Kd, evalArgs→Ke, codeAny_of_tree→Kh, compTurn→Kj, wpAny_updateSeq→Kl, wpAny_specialOf→Ko, bootBuiltins→Q8, callMarked→Ra, methodCallForm→Rb, wpAny_release→Rc, wpAny_call→Ri, wpAny_load→Rk, sliceRange→Rt, slicePick→Ru, isSubtype_type→Rz, entryFor_of_tree→RA, wpAny_isInstance→RB, isSubtype_stop→RD, wpAny_setField→RF, wpAny_letGo→RG, wpAny_typeOf→RJ, wpAny_operating→abi, getitemInPython→abj, wpAny_pyIter_list→abn, foldedSetIterable→abq, wpAny_askSetting→abr, pushCells_keeps→abu, newFunctionEnv→abv, wpAny_newList→abw, markedBehindIn_of_false→ap3, wpAny_newFunctionEnv_cells→ap7, wpAny_getItem_list_slice→aql
open _root_.Nat renaming le_refl→aG, beq→bT, zero_le→dQ, blt→ft, sub_self→fk, le_trans→fC, mod_lt→kg, succ_ne_zero→ka, le_succ→ke, le_of_ble_eq_true→lj, le_of_eq→ll, sub_le→lm, zero_add→lq, one_le_iff_ne_zero→l7, eq_of_beq_eq_true→mP, ble→nA, ne_of_lt→pQ, lt_succ_of_lt→pT, lt_of_le_of_lt→q7, lt_succ_self→rg, lt_of_lt_of_le→sF, add_sub_cancel_left→sG, le_add_right→vH, succ_pos→vI, sub_zero→vY, max→v8, lt_trans→xu, min_le_right→xx, min_eq_left→zH, add_comm→zR, not_lt_zero→zY, succ_le_succ→z4, lt_of_succ_lt_succ→z5, beq_refl→Cc, min_le_left→EW, le_succ_of_le→Fa, le_of_lt→Ff, lt_irrefl→J', lt_of_lt_of_eq→Kn, succ_sub→Ks, ble_eq_true_of_le→Kz, mul_div_le→QX, le_of_not_lt→Q0, add_left_cancel→Rg, not_lt→Rw, add_assoc→RR, lt_succ_of_le→RS, sub_lt→aba, one_pos→abb, lt_succ_iff_lt_or_eq→abc, mod_two_eq_zero_or_one→abd, le_antisymm→abh, le_of_lt_succ→abx, lt_or_eq_of_le→abE, sub_add_cancel→abV, mul_le_mul_right→apZ, add_sub_cancel'→ap1, le_of_sub_eq_zero→ap2, lt_add_of_pos_right→aqA, sub_pos_of_lt→aqN, le_of_succ_le→aqO, testBit_eq_decide_div_mod_eq→aqR, lt_of_le_of_ne→aqT, min_eq_right→aai, le_zero→aas, add_le_add→aaA, testBit_mod_two_pow→aaI, add_zero→aaL
open _root_.List renaming range→aK, length_map→aV, getElem?_eq_getElem→bA, all_cons→bU, getElem?_eq_some_iff→bV, mem_map→cu, all_nil→cG, replicate→cD, mem_of_getElem?→c8, all_eq_true→dI, length_append→dJ, append_nil→dM, getElem?_map→dN, length_cons→dO, getElem?_append_right→dT, getElem?_append_left→d2, getD_eq_getElem?_getD→ed, map_cons→eC, append_assoc→eJ, length_range→fb, range'→fc, map→fm, foldl_cons→fu, cons_append→fM, map_append→fU, map_map→fV, mem_append→f7, mem_range→gz, mem_singleton→gV, size_toArray→ig, getElem?_range→iS, count_cons→iU, length_drop→jA, length_set→lY, getElem?_set_ne→lZ, range'_succ→mO, lookup_cons→nD, length_take→nG, length→oG, map_take→oH, mem_iff_getElem→pN, mem_cons→pO, range_eq_range'→pW, getElem?_cons_succ→re, map_drop→rn, map_set→rp, drop→rq, getElem?_drop→sL, drop_zero→sQ, filter_cons→sR, take_of_length_le→uc, getElem?_set_self→vM, filterMap_cons→vT, find?_cons→vV, map_congr_left→vZ, drop_drop→v7, nodup_append→xz, nodup_range→xF, forIn_cons→xH, nil_append→xL, nodup_cons→zJ, forall_mem_cons→zK, length_nil→zT, take_add_one→aa2, take→z6, lookup→BZ, reverse_cons→B3, mem_of_mem_take→B4, getElem?_eq_none→B5, take_length→B7, mem_filter→Ca, nodup_nil→EX, mem_append_left→EY, take_append_drop→E5, mem_filterMap→E7, any_cons→Fb, eq_nil_of_length_eq_zero→Fj, set_append_left→Fk, set_append_right→Fl, length_replicate→Fm, drop_eq_nil_of_le→Fn, filter→Fo, filterMap_eq_map'→Fp, mem_map_of_mem→Kf, tail_drop→Ki, length_singleton→Kt, ext_getElem→Ku, mem_or_eq_of_mem_set→Kv, mem_range'→Kw, map_replicate→Kx, drop_eq_getElem_cons→Ky, getElem?_toArray→Rj, getElem?_eq_none_iff→Rl, mem_append_right→Rn, getElem?_take→Ro, getElem_mem→Rs, sum_cons→Rv, all_append→RO, eraseIdx_cons_succ→RP, map_dropLast→RQ, length_reverse→RT, map_filterMap→RU, take_succ_cons→RV, flatten_cons→RW, findIdx?_map→RX, filter_filter→RY, mem_of_mem_drop→Sa, drop_of_length_le→abp, take_nil→abA, toArray→abB, mem_reverse→abJ, range_succ→abK, set_cons_succ→abM, length_dropLast→abP, map_nil→abQ, length_filterMap_le→abT, reverse→abW, foldl→abX, count_le_length→abY, length_filter_le→abZ, findIdx?_cons→ap4, filter_cons_of_pos→ap5, filter_cons_of_neg→ap6, contains_iff_mem→ap9, drop_eq_nil_iff→ap', ext_getElem?→aqb, findIdx?_eq_some_iff_getElem→aqh, filterMap_cons_none→aqj, filterMap_cons_some→aqk, length_eq_zero_iff→aqn, toList_toArray→aqp, getLast?_eq_getElem?→aqC, singleton_append→aqD, reverse_append→aqE, replicate_succ'→aqF, getElem?_range'→aqG, getElem?_replicate→aqH, eq_of_mem_replicate→aqI, find?_append→aqJ, getLast?_map→aqL, cons_lt_cons_iff→aqM, filter_append→aqP, find?_eq_none→aqQ, foldl_append→aqS, findIdx?_eq_some_iff_findIdx_eq→aqU, findIdx_lt_length_of_exists→aqV, length_range'→aqW, flatMap_cons→aab, filter_eq_nil_iff→aac, mem_flatMap→aae, flatMap_nil→aaf, flatMap_append→aag, mem_range'_1→aah, filter_eq_self→aaj, map_flatMap→aak, getElem_map→aal, flatMap→aam, getElem_range→aan, filter_congr→aao, take_zero→aar, filter_nil→aat, any_map→aau, flatMap_def→aaw, take_range→aaz, drop_length→aaC, length_zip→aaD, getElem_zip→aaE, pairwise_append→aaF, perm_middle→aaG, range_succ_eq_map→aaH, contains_eq_any_beq→aaJ, perm_ext_iff_of_nodup→aaK, pairwise_cons→aaO, drop_append_of_le_length→aaQ, take_append_of_le_length→aaR
open _root_.Bool renaming and_eq_true→bz, and_true→cP, false_ne_true→fL, false_eq_true→gJ, and_eq_true_iff→iR, not_true→mN, not_false→nI, not_eq_true'→E0, noConfusion→E4, eq_false_iff→Q9, or_true→abf, and_comm→abg, not_not→abk, and_false→abC, or_eq_true_iff→ap8, eq_iff_iff→aad, false_and→aay, true_and→aaB, toNat_false→aaM, toNat_true→aaN
open PySem.Txt renaming lower→bZ, join→gY, count→sM, replace→sN
open _root_.Option renaming map→dg, map_eq_some_iff→oI, map_some→Km, bind→QZ, isSome_iff_exists→Kk
open _root_.Option.some renaming inj→dE, injEq→aqm
open PySem.Heap renaming get?_push_of_some→fT, ExtBut→f6, get?_push_size→iy, get?_none_of_le→iI, lt_size→sE, SameBut→sJ, size_push→E8, get?_update_self→E9, dictOf_iff→Rp
open PySem.Obj renaming mapSeq→f8, putName→Ry, data_mapFields→RE
open PySem.W.X renaming SegX→iT
open PySem.W renaming keepIn→jz, peek→pR, kla_fn→vJ, tabObj→xy, findIn→xJ, kas_sort→xM, dictOf→BY, plainGet_of→Kr, lookIn_dict→Rx
open PyProof.Rows renaming seqObj→jB, listUpdate_at→RM, lookup_of_mem_nodup→abm
open _root_.Int renaming natCast_nonneg→mK, not_lt→sB, ofNat_lt→xt, le_refl→zG, ofNat_le→EV, toNat_natCast→Fh, mul_zero→JY, add_zero→JZ, one_mul→J0, add_nonneg→J6, natCast_add→QW, le_trans→QY, add_comm→Rr, zero_add→aa8, mul_one→aa9, mul_nonneg→aa', add_sub_cancel→aby, min_eq_left→abF, max_eq_right→abL, fdiv_eq_ediv_of_nonneg→abN, fmod_eq_emod_of_nonneg→abR, natCast_emod→abS, lt_of_lt_of_le→ap0, fmod_nonneg_of_pos→aqK, le_antisymm→aax
open _root_.And renaming left→oJ, right→KB
open PySem.IntMulOk renaming of_left→oK
open PySem.Builtin.Str renaming tooLong→pU, strSliceIndices→Kp
open PySem.PyData renaming keyHash→q8
open _root_.Ne renaming symm→rc
open PySem.Heap.SameBut renaming update→rj
open PySem.Sem renaming wrap_wrap→sP, bind_eq_wrap'→ue
open PySem.Str renaming length_append→uf, cps_append→vR, ext'→xC, length→Fi, join→KA
open PySem.W.Frag.In renaming keeps→vS
open _root_.Array renaming length_toList→v0, toList_append→z3, eq_empty_of_size_eq_zero→Rd, size_push→RN, append_empty→abl, getElem?_eq_some_iff→abI, toArray_toList→aqc, toList_push→aqd, eraseIdxIfInBounds→aqe, getElem?_setIfInBounds_self_of_lt→aqy
open PySem.Challenge renaming rw_tc0073_01→J8, pw_tc0073_01→abe
open PySem.Builtin.Range renaming rangeSize→Kg, small→abo, rangeFitsLong→aqB
open PySem.Value renaming isStr→Kq
open PySem.Builtin renaming divisionGoesByPylong→Re
open _root_.List.Pairwise renaming map→Rf, imp→aqa
open PySem.W.Looks renaming of_peek→Rh, of_pure→Rq
open PySem.F renaming slot_enumerate_next→RH, slot_list_getitem→abD, slot_list_pop→aqf, entry_list_pop→aqg, slot_str_getitem→aqi, slot_str_ascii_iterator_next→aqq, entry_str_ascii_iterator_next→aqr, args_str_ascii_iterator_next_1→aqs, slot_str_iterator_next→aqt, entry_str_iterator_next→aqu, args_str_iterator_next_1→aqv, args_enumerate_next_1→aqw
open PySem.Frame renaming where_→RI
open _root_.Nat.succ renaming inj→RK
open PyProof renaming noPylong_small→RL
open PySem.Builtin.List renaming listFitsIndex→abz
open PySem.Builtin.SmallTypes renaming nextOf→abG, ownedTupleHandOut→aqx
open PySem.Shared renaming TypeIs→abH
open _root_.List.cons renaming inj→ab0
theorem nS {P:Prop}(h:none=some a):P:=nomatch h
theorem nB {P:Prop}(h:false=true):P:=nomatch h
theorem nB' {P:Prop}(h:true=false):P:=nomatch h
set_option hygiene false in
local macro_rules |`(tactic|rfl')=>`(tactic|with_unfolding_all rfl)
inductive E|v (i:Nat)|n (k:Nat)|a (x y:E)|m (k:Nat) (x:E)
inductive I|c (x:E)|n (k:Int)|a (x y:I)|s (x y:I)
inductive Hy|f|le (x y:E)|lt (x y:E)|eq (x y:E)|il (x y:I)|it (x y:I)|ie (x y:I)|no (h:Hy)
inductive Ti|g (k l:Int) (h:Hy)|c (k l:Int) (h:Hy) (t:Ti)
noncomputable def E.o:E:=.v 0
noncomputable def E.i:E:=.v 1
noncomputable def E.u:E:=.v 2
noncomputable def E.w:E:=.v 3
noncomputable def E.x:E:=.v 4
noncomputable def E.y:E:=.v 5
noncomputable def E.j:E:=.n 1
noncomputable def E.t:E:=.n 10
noncomputable def E.k:E:=.n 0
noncomputable def I.j:I:=.n 1
noncomputable def I.k:I:=.n 0
noncomputable def Ti.le (x y:E)(t:Ti):Ti:=.c 1 0 (.le x y) t
noncomputable def Ti.lt (x y:E)(t:Ti):Ti:=.c 1 0 (.lt x y) t
noncomputable def Ti.eq (x y:E)(t:Ti):Ti:=.c 1 0 (.eq x y) t
noncomputable def Ti.gl (x y:E):Ti:=.g 1 0 (.le x y)
noncomputable def Ti.gt (x y:E):Ti:=.g 1 0 (.lt x y)
noncomputable def Ti.ge (x y:E):Ti:=.g 1 1 (.eq x y)
noncomputable def Sc (c:List Nat):Nat->Nat:=List.rec (λu=>0) (λx u r i=>Nat.rec x (λj u=>r j) i) c
def E.ev (c:List Nat)(e:E):Nat:=E.rec (λi=>Sc c i) (λk=>k) (λu u x y=>x+y) (λk u x=>k*x) e
noncomputable def I.ev (c:List Nat)(e:I):Int:=I.rec (λx=>(x.ev c:Int)) (λk=>k) (λu u x y=>x+y) (λu u x y=>x-y) e
def Hy.den (c:List Nat)(h:Hy):Prop:=Hy.rec False (λx y=>x.ev c<=y.ev c) (λx y=>x.ev c<y.ev c) (λx y=>x.ev c=y.ev c) (λx y=>x.ev c<=y.ev c) (λx y=>x.ev c<y.ev c) (λx y=>x.ev c=y.ev c) (λu p=>¬p) h
noncomputable def Ti.den (c:List Nat)(t:Ti):Prop:=Ti.rec (λx x h=>h.den c) (λx x h x p=>h.den c->p) t
noncomputable def ad (k:Int)(p q:List Int):List Int:=List.rec (λq=>List.rec [] (λy u r=>k*y::r) q) (λx p r q=>List.rec (x::p) (λy q u=>(x+k*y)::r q) q) p q
noncomputable def vp (c:List Nat)(p:List Int):Int:=List.rec (λu=>0) (λx u r c=>List.rec 0 (λ(y:Nat) c u=>x*y+r c) c) p c
noncomputable def ng (p:List Int):Bool:=List.rec true (λx u r=>decide (x<=0)&&r) p
theorem Sd k:∀q c,vp c (ad k [] q)=k*vp c q:=λq=>by
 induction q with
 |nil=>exact λc=>(JY k).symm|cons y q ih=>intro c;cases c with|nil=>exact(JY k).symm|cons z c=>show k*y*z+vp c (ad k [] q)=k*(y*z+vp c q);rw[ih c,Int.mul_add,Int.mul_assoc]
theorem nJ k:∀p q c,vp c (ad k p q)=vp c p+k*vp c q:=λp=>by
 induction p with
 |nil=>exact λq c=>(Sd k q c).trans (aa8 _).symm|cons x p ih=>intro q c;cases q with
  |nil=>show _=_+k*0;rw[JY,JZ];rfl|cons y q=>cases c with|nil=>show(0:Int)=0+k*0;rw[JY];rfl|cons z c=>show(x+k*y)*z+vp c (ad k p q)=x*z+vp c p+k*(y*z+vp c q);rw[ih q c,Int.mul_add,Int.add_mul,Int.mul_assoc];ac_rfl
noncomputable def un (i:Nat):List Int:=Nat.rec [1] (λx r=>0::r) i
def E.p (e:E):List Int:=E.rec (λi=>0::un i) (λk=>[(k:Int)]) (λu u x y=>ad 1 x y) (λk u x=>ad k [] x) e
noncomputable def I.p (e:I):List Int:=I.rec (λx=>x.p) (λk=>[k]) (λu u x y=>ad 1 x y) (λu u x y=>ad (-1) x y) e
theorem ab2:∀c i,vp c (un i)=(Sc c i:Int):=λc=>by
 induction c with
 |nil=>intro i;cases i<;>rfl|cons x c ih=>intro i;cases i with|zero=>exact(JZ _).trans (J0 _)|succ i=>show 0*x+vp c (un i)=_;rw[Int.zero_mul,aa8,ih];rfl
theorem E.nK c (e:E):vp (1::c) e.p=(e.ev c:Int):=by induction e with|v i=>show 0*1+vp c (un i)=_;rw[Int.zero_mul,aa8,ab2];rfl|n k=>show(k:Int)*1+0=_;rw[aa9,JZ];rfl|a x y hx hy=>show vp _ (ad 1 x.p y.p)=(x.ev c+y.ev c:Nat);rw[nJ,hx,hy,J0,QW]|m k x hx=>show vp _ (ad k [] x.p)=(k*x.ev c:Nat);rw[Sd,hx,Int.natCast_mul]
theorem I.nK c (e:I):vp (1::c) e.p=e.ev c:=by induction e with|c x=>exact x.nK _|n k=>show k*1+0=_;rw[aa9,JZ];rfl|a x y hx hy=>show vp _ (ad 1 x.p y.p)=_;rw[nJ,hx,hy,J0];rfl|s x y hx hy=>show vp _ (ad (-1) x.p y.p)=_;rw[nJ,hx,hy,Int.neg_one_mul,<-Int.sub_eq_add_neg];rfl
noncomputable def Hy.l (h:Hy):Bool:=Hy.rec true (λx x=>true) (λx x=>true) (λx x=>false) (λx x=>true) (λx x=>true) (λx x=>false) (λx x=>false) h
noncomputable def Hy.e (h:Hy):Bool:=Hy.rec false (λx x=>false) (λx x=>false) (λx x=>true) (λx x=>false) (λx x=>false) (λx x=>true) (λx x=>false) h
noncomputable def Hy.p (h:Hy):List Int:=Hy.rec [-1] (λx y=>ad (-1) y.p x.p) (λx y=>ad 1 [-1] (ad (-1) y.p x.p)) (λx y=>ad (-1) y.p x.p) (λx y=>ad (-1) y.p x.p) (λx y=>ad 1 [-1] (ad (-1) y.p x.p)) (λx y=>ad (-1) y.p x.p) (λh r=>h.l.rec [] (ad (-1) [-1] r)) h
theorem z7 c  k:vp (1::c) [k]=k:=by show k*1+0=_;rw[aa9,JZ]
theorem Cd c {p:List Int}(hp:vp c p=a)(hq:vp c q=b):vp c (ad (-1) q p)=b-a:=by rw[nJ,hp,hq,Int.neg_one_mul];rfl
theorem Se c {p:List Int}(hp:vp (1::c) p=a)(hq:vp (1::c) q=b):vp (1::c) (ad 1 [-1] (ad (-1) q p))= -1+(b-a):=by rw[nJ,Cd _ hp hq,z7,J0]
theorem Sf:a<b↔0<=-1+(b-a):=by lia
theorem Hy.li c {h:Hy}(e:h.l=true):h.den c↔0<=vp (1::c) h.p:=by cases h with|f=>exact⟨False.elim,λh=>absurd (z7 c (-1)▸h)<|by decide⟩|le x y=>show x.ev c<=y.ev c↔0<=vp _ (ad (-1) y.p x.p);exact Cd _ (x.nK c) (y.nK c)▸EV.symm.trans Int.sub_nonneg.symm|lt x y=>show x.ev c<y.ev c↔0<=vp _ (ad 1 [-1]<|ad (-1) y.p x.p);exact Se _ (x.nK c) (y.nK c)▸xt.symm.trans Sf|il x y=>show x.ev c<=y.ev c↔0<=vp _ (ad (-1) y.p x.p);rw[Cd _ (x.nK c)<|y.nK c];exact Int.sub_nonneg.symm|it x y=>show x.ev c<y.ev c↔0<=vp _ (ad 1 [-1]<|ad (-1) y.p x.p);rw[Se _ (x.nK c)<|y.nK c];exact Sf|eq=>exact nB e|ie=>exact nB e|no=>exact nB e
theorem Hy.ei c {h:Hy}(e:h.e=true):h.den c↔vp (1::c) h.p=0:=by cases h with|eq x y=>show x.ev c=y.ev c↔vp _ (ad (-1) y.p x.p)=0;rw[Cd _ (x.nK c)<|y.nK c];exact Int.ofNat_inj.symm.trans (eq_comm.trans Int.sub_eq_zero.symm)|ie x y=>show x.ev c=y.ev c↔vp _ (ad (-1) y.p x.p)=0;rw[Cd _ (x.nK c)<|y.nK c];exact eq_comm.trans Int.sub_eq_zero.symm|_=>exact nB e
noncomputable def Hy.ok (h:Hy)(k:Int):Bool:=h.e||decide (0<=k)
theorem Hy.sd c {h:Hy}{k:Int}(e:h.ok k=true)(d:h.den c):0<=k*vp (1::c) h.p:=by
 cases h1:h.e with
 |true=>rw[(Hy.ei c h1).1 d,JY];exact zG 0|false=>
  rw[Hy.ok,h1] at e;apply aa'<|of_decide_eq_true e;cases h2:h.l with
  |true=>exact(Hy.li c h2).1 d|false=>
   cases h with
   |no h=>
    show 0<=vp (1::c) (h.l.rec []<|ad (-1) [-1] h.p);cases h3:h.l with
    |false=>exact zG 0|true=>have:=mt (Hy.li c h3).2 d;rw[nJ,z7];lia
   |eq=>exact nB' h1|ie=>exact nB' h1|_=>exact nB' h2
theorem ab3:∀p c,ng p=true->vp c p<=0:=λp=>by
 induction p with
 |nil=>exact λu u=>zG 0|cons x p ih=>intro c h;cases c with|nil=>exact zG 0|cons y c=>have h:=iR.1 (show(decide (x<=0)&&ng p)=true from h);exact Int.add_le_add (Int.mul_nonpos_of_nonpos_of_nonneg (of_decide_eq_true h.1)<|mK y)<|ih c h.2
def ma (p:List Int):Bool:=ng (ad 1 [1] p)
theorem Fq c {p:List Int}(h:ma p=true):vp (1::c) p<0:=by have:=ab3 _ (1::c) h;rw[nJ,z7] at this;lia
def Hy.gk (h:Hy)(k l:Int)(p q:List Int):Bool:=Hy.rec (motive:=λx=>Bool) (ma p) (λx x=>ma (ad k p (ad (-1) [-1] h.p))&&decide (0<=k)) (λx x=>ma (ad k p (ad (-1) [-1] h.p))&&decide (0<=k)) (λx x=>(ma (ad k p (ad (-1) [-1] h.p))&&decide (0<=k))&&(ma (ad l q (ad 1 [-1] h.p))&&decide (0<=l))) (λx x=>ma (ad k p (ad (-1) [-1] h.p))&&decide (0<=k)) (λx x=>ma (ad k p (ad (-1) [-1] h.p))&&decide (0<=k)) (λx x=>(ma (ad k p (ad (-1) [-1] h.p))&&decide (0<=k))&&(ma (ad l q (ad 1 [-1] h.p))&&decide (0<=l))) (λh x=>ma (ad k p h.p)&&h.ok k) h
def Ti.ck (t:Ti):List Int->List Int->Bool:=Ti.rec (λk l h p q=>h.gk k l p q) (λk l h x r p q=>h.ok k&&(h.ok l&&r (ad k p h.p) (ad l q h.p))) t
theorem gA c {p:List Int}{k:Int}(hp:0<=vp (1::c) p)(e:(ma (ad k p (ad (-1) [-1] r))&&decide (0<=k))=true):0<=vp (1::c) r:=by have e:=iR.1 e;have h:=Fq c e.1;rw[nJ,nJ,z7] at h;refine sB.1 λhn=>sB.2 (J6 hp<|aa' (of_decide_eq_true e.2) ?_) h;lia
theorem gB c {p:List Int}{k:Int}(hp:0<=vp (1::c) p)(e:(ma (ad k p (ad 1 [-1] r))&&decide (0<=k))=true):vp (1::c) r<=0:=by have e:=iR.1 e;have h:=Fq c e.1;rw[nJ,nJ,z7] at h;refine sB.1 λhn=>sB.2 (J6 hp<|aa' (of_decide_eq_true e.2) ?_) h;lia
theorem Hy.gs c {h:Hy}{k l:Int}{p q:List Int}(hp:0<=vp (1::c) p)(hq:0<=vp (1::c) q)(e:h.gk k l p q=true):h.den c:=by
 have E1 {h:Hy} e1 (e:((ma (ad k p<|ad (-1) [-1] h.p)&&decide (0<=k))&&(ma (ad l q<|ad 1 [-1] h.p)&&decide (0<=l)))=true):h.den c:=
  have e:=iR.1 e
  (Hy.ei c e1).2 (aax (gB c hq e.2)<|gA c hp e.1)
 cases h with|f=>exact sB.2 hp (Fq c e)|eq x y=>exact E1 rfl e|ie x y=>exact E1 rfl e|no h=>have e:=iR.1<|e;intro d;have:=Fq c e.1;rw[nJ] at this;exact sB.2 (J6 hp<|Hy.sd c e.2 d) this|_=>exact(Hy.li c rfl).2<|gA c hp e
theorem Ti.sd c (t:Ti):∀{p q},0<=vp (1::c) p->0<=vp (1::c) q->t.ck p q=true->t.den c:=by induction t with|g k l h=>exact λhp hq e=>Hy.gs c hp hq e|c k l h t ih=>intro p q hp hq e d;have e:=iR.1 e;have e2:=iR.1 e.2;exact ih (by rw[nJ];exact J6 hp<|Hy.sd c e.1 d) (by rw[nJ];exact J6 hq<|Hy.sd c e2.1 d) e2.2
theorem ah c (t:Ti)(h:t.ck [] []=true):t.den c:=t.sd c (p:=[]) (q:=[]) (zG 0) (zG 0) h
theorem fS (x y:Nat):x<=x-y+y:=Nat.le_add_of_sub_le<|aG _
theorem fD (x n:Nat)(h:nA 1 n=true):x<n*(x/n)+n:=Nat.lt_mul_div_succ x<|lj h
noncomputable def o1 {a b c:Nat}:=ah [a,b,c] (.lt .o .i (.c (-1) 0 (.eq .u .i) (.gt .o .u))) rfl
noncomputable def o4 {a:Nat}:=ah [a] (.lt .o (.n (2^17)) (.gt .o (.n (2^40)))) rfl
noncomputable def o8 {a b:Nat}:=ah [a,b] (.c 1 0 (.no (.lt .o .i)) (.gl .i .o)) rfl
noncomputable def pY {a b:Nat}:=ah [a,b] (.gl .o (.a .o .i)) rfl
noncomputable def xN {a b:Nat}:=ah [a,b] (.lt .o .i (.gl .o .i)) rfl
noncomputable def sS {a:Nat}:=ah [a] (.le .o (.n 1000) (.gl .o (.n 1000000))) rfl
noncomputable def ug {a b c:Nat}:=ah [a,b,c] (.le (.a .o .i) .u (.gl .o .u)) rfl
noncomputable def Fs {a b c:Nat}:=ah [a,b,c] (.lt (.a .o .i) .u (.gt .o .u)) rfl
noncomputable def Ce {a b:Nat}:=ah [a,b,((a+b)/2)] (.lt (.a .o .i) (.a (.m 2 .u) (.n 2)) (.lt .o .i (.g 2 0 (.le .o .u)))) rfl (fD (a+b) 2 rfl)
noncomputable def Cf {a b:Nat}:=ah [a,b,((a+b)/2)] (.le (.m 2 .u) (.a .o .i) (.lt .o .i (.g 2 0 (.le (.a .u .j) .i)))) rfl (QX (a+b) 2)
noncomputable def z9 {a b c:Nat}:=ah [a,b,c] (.ge (.a .o (.a .i .u)) (.a (.a .o .u) .i)) rfl
noncomputable def Aa {a b c:Nat}:=ah [a,b,c] (.ge (.a (.a .o .i) .u) (.a .o (.a .u .i))) rfl
noncomputable def uh {a b c:Nat}:=ah [a,b,c] (.le .o .i (.gl .o (.a .i .u))) rfl
noncomputable def Ft {a b:Nat}:=ah [a,b] (.g 1 0 (.il .k (.a (.c .o) (.c .i)))) rfl
noncomputable def Fu {a b c:Nat}:=ah [a,b,c] (.c 2 0 (.lt .o (.n (2^40))) (.lt .i .u (.c 2 0 (.le .u .o) (.g 1 0 (.it (.a (.c .i) (.c .u)) (.n (2^60))))))) rfl
noncomputable def Fx {a b c:Nat}:=ah [a,b,c,((a+b)/2)] (.le (.m 2 .w) (.a .o .i) (.lt .o .i (.c 2 0 (.le .i .u) (.g 2 0 (.lt .w .u))))) rfl (QX (a+b) 2)
noncomputable def Fy {a b c:Nat}:=ah [a,b,c,((b+a)/2)] (.le (.m 2 .w) (.a .i .o) (.le .o (.a .i (.a .u .j)) (.g 2 0 (.le .w (.a .i .u))))) rfl (QX (b+a) 2)
noncomputable def Fz {a b c d:Nat}:=ah [a,b,c,d,((b+a)/2)] (.lt (.a .i .o) (.a (.m 2 .x) (.n 2)) (.le .o (.a .i (.a .u .w)) (.g 2 0 (.le .o (.a (.a .x .w) .u))))) rfl (fD (b+a) 2 rfl)
noncomputable def FA {a b:Nat}:=ah [a,b] (.le .o .i (.c 0 1 (.no (.lt .o .i)) (.ge .o .i))) rfl
noncomputable def FB {a b:Nat}:=ah [a,b] (.gl .o (.a .i .o)) rfl
noncomputable def Sh {a b c d e:Nat}:=ah [a,b,c,d,e] (.lt (.a .o (.m 8 (.a .i .j))) .u (.le .w (.n 6) (.le .x .w (.gt (.a (.a .o .j) .x) .u)))) rfl
noncomputable def xO {a b c d:Nat}:=ah [a,b,c,d] (.c 1 (-1) (.eq (.a .o (.a .i .u)) .w) (.ge (.a (.a .o .u) .i) .w)) rfl
theorem Sj {a b c:Nat}:a=b+c->min b a=b:=λh=>zH<|h▸vH b c
noncomputable def FF {a b c d:Nat}:=ah [a,b,c,d] (.le (.a .o (.a .i .u)) .w (.gl (.a (.a .o .u) .i) .w)) rfl
noncomputable def FH {a:Nat}:=ah [a] (.le .o (.n 1000000) (.gl .o (.n (2^24)))) rfl
noncomputable def Sm {a b c:Nat}:=ah [a,b,c] (.le .o .i (.gl (.a .o .u) (.a .i .u))) rfl
noncomputable def KG {a:Nat}:=ah [a] (.ge (.a .k .o) .o) rfl
noncomputable def o64 {a b c:Nat}:=ah [a,b,c] (.lt .o .i (.gt .o (.a .i .u))) rfl
noncomputable def KJ {a b c d:Nat}:=ah [a,b,c,d] (.lt (.a .o (.a .i .u)) .w (.gt (.a (.a .o .u) .i) .w)) rfl
noncomputable def KL {a:Nat}:=ah [a] (.le .o (.n 1000000) (.gt .o (.n (2^24)))) rfl
noncomputable def KM {a:Nat}:=ah [a] (.g 1 0 (.il (.n (-2^63)) (.c .o))) rfl
noncomputable def o68 {a b:Nat}:=ah [a,b] (.le .o .i (.gl (.a .o .j) (.a .i .j))) rfl
noncomputable def FL {a b c:Nat}:=ah [a,b,c] (.eq (.a .o (.a .i .j)) .u (.gt .o .u)) rfl
noncomputable def KP {a b:Nat}:=ah [a,b] (.lt .o .i (.g 1 0 (.no (.ie (.c .i) .k)))) rfl
noncomputable def KS {a:Nat}:=ah [a] (.lt .o (.n (2^20)) (.g 1 0 (.it (.c .o) (.n 9223372036854775808)))) rfl
noncomputable def o80 {a:Nat}:=ah [a] (.g 1 0 (.no (.it (.c .o) .k))) rfl
noncomputable def Sy {a b c:Nat}:=ah [a,b,c] (.ge (.a (.a .o (.a .i .u)) .k) (.a (.a .o .u) .i)) rfl
noncomputable def SH {a b:Nat}:=ah [a,b] (.lt .o .i (.g (-1) 0 (.no (.eq .o .i)))) rfl
noncomputable def SO {a b c:Nat}:=ah [a,b,c] (.ge (.a (.a .o .i) .u) (.a .o (.a .i .u))) rfl
noncomputable def SQ {a b:Nat}:=ah [a,b,(min a b)] (.le .u .i (.c (-1) 0 (.eq .u .o) (.gl .o .i))) rfl (xx a b)
noncomputable def SV {a b c:Nat}:=ah [a,b,c] (.le (.a .o (.a .i .j)) .u (.gt .o .u)) rfl
noncomputable def SX {a:Nat}:=ah [a] (.le .o (.n (2^20)) (.gl .o (.n (2^24)))) rfl
noncomputable def ab' {a b c d:Nat}:=ah [a,b,c,d] (.lt (.a .o (.a .i .u)) .w (.gt (.a .o .i) .w)) rfl
noncomputable def Th {a b c:Nat}:=ah [a,b,c,(min c a)] (.le .w .o (.le .o .i (.gl .w .i))) rfl (xx c a)
noncomputable def Tq {a:Nat}:=ah [a] (.gl (.a .o .j) (.a .o (.n 2))) rfl
theorem Ts:a<4->a=0∨a=1∨a=2∨a=3:=λh=>(abc.mp h).elim (λh=>(abc.mp h).elim (λh=>(abc.mp h).elim (λh=>.inl<|Nat.lt_one_iff.mp h) λe=>.inr<|.inl e) λe=>.inr<|.inr<|.inl e) λe=>.inr<|.inr<|.inr e
noncomputable def Tt {a b:Nat}:=ah [a,b] (.le (.n 1000) .o (.le .i (.n 100) (.gl (.a .j .i) .o))) rfl
noncomputable def Tw {a:Nat}:=ah [a] (.le .o (.n 1000000) (.g 1 0 (.it (.c .o) (.n (2^63))))) rfl
theorem Tx {a b:Nat}:a<2^40->b<a->-2^63<=(↑b:Int)∧(↑b:Int)<2^63:=λh k=>⟨QY (by decide)<|mK b,ap0 (xt.mpr<|xu k h)<|by decide⟩
noncomputable def TB {a:Nat}:=ah [a] (.le .o (.n 1000000) (.gl (.a .o .j) (.n (2^24)))) rfl
noncomputable def TC {a b:Nat}:=ah [a,b] (.le .o .j (.le .i (.n 1000000) (.gl (.a .i .o) (.n (2^24))))) rfl
noncomputable def TD {a b c:Nat}:=ah [a,b,c] (.le (.a .o .i) .u (.gl .i .u)) rfl
noncomputable def TE {a b c d:Nat}:=ah [a,b,c,d] (.le (.a .o (.a .i .u)) .w (.gl .i .w)) rfl
noncomputable def TF {a b c:Nat}:=ah [a,b,c] (.le (.a (.a .o .i) .i) (.a .u .i) (.gl .o .u)) rfl
noncomputable def TG {a b c d e:Nat}:=ah [a,b,c,d,e] (.le (.a .o (.a (.a .i .u) .u)) .w (.eq .x (.a .o .u) (.gl (.a .x .i) .w))) rfl
noncomputable def TH {a b c:Nat}:=ah [a,b,c] (.le (.a .o .i) (.a .u .i) (.gl .o .u)) rfl
noncomputable def TI {a b c d e:Nat}:=ah [a,b,c,d,e] (.le (.a .o (.a .i .u)) .w (.eq .x (.a .o .u) (.gl (.a .x .i) .w))) rfl
noncomputable def aci {a b:Nat}:=ah [a,b,(max a b)] (.le .o .u (.gl .o .u)) rfl (Nat.le_max_left a b)
noncomputable def acj {a b c:Nat}:=ah [a,b,c,(max c b)] (.le .i .w (.le .o .i (.gl .o .w))) rfl (Nat.le_max_right c b)
noncomputable def ack {a b:Nat}:=ah [a,b,(min a b)] (.le .u .o (.gl .u .o)) rfl (EW a b)
noncomputable def act {a b c d:Nat}:=ah [a,b,c,d,(a-b)] (.le .x .o (.le (.a .o .i) .u (.le .w .i (.gl (.a .w .x) .u)))) rfl (lm a b)
noncomputable def acz {a b c:Nat}:=ah [a,b,c,((a+b)/2)] (.le (.m 2 .w) (.a .o .i) (.lt .o .i (.c 2 0 (.le .i .u) (.g 2 0 (.le .w .u))))) rfl (QX (a+b) 2)
noncomputable def acB {a b c d:Nat}:=ah [a,b,c,d,(a-b),(a-0)] (.le .x .o (.le .o (.a .y .k) (.c (-1) 0 (.eq .x .u) (.c (-1) 0 (.eq .u .w) (.gl .w .y))))) rfl (lm a b) (fS a 0)
noncomputable def acC {a b c d:Nat}:=ah [a,b,c,d,(c-d),(a-d),(min (c-d) (a-d))] (.le .y .o (.le (.v 6) .y (.eq .o .i (.gl (.v 6) .i)))) rfl (lm a d) (xx (c-d) (a-d))
theorem u1 {a b c:Nat}:a<=b->b+c-a=b-a+c:=λh=>Nat.sub_add_comm h
theorem u2 {a b:Nat}:a<=b->a+(b-a)=b:=λh=>ap1 h
theorem u4:a-b=c+1->b<a:=λh=>Nat.sub_pos_iff_lt.mp<|h▸vI c
noncomputable def u11 {a b:Nat}:=ah [a,b,(a-b)] (.c 0 1 (.le .o (.a .u .i)) (.c 0 1 (.eq .u .k) (.le .i .o (.ge .i .o)))) rfl (fS a b)
structure fe where
 args:pL
 body:List bl
 scope:d8
 deriving Inhabited
noncomputable def kP (name:Str):List bl->Option fe
 |[]=>none|s::r=>match s with
   |.FunctionDef n a b x u o sc z w v=>if n==name then some ⟨a,b,sc⟩ else kP name r|_=>kP name r
noncomputable def pZ (cls name:Str):List bl->Option fe
 |[]=>none|s::r=>match s with
   |.ClassDef n x u b o z w v q t y=>if n==cls then kP name b else pZ cls name r|_=>pZ cls name r
noncomputable def fw:List bl:=abe.main.body
def oL:fe:=(kP "_iter_escaped_chars" fw).getD default
def Cn:fe:=(pZ "Headers" "items" fw).getD default
def uk:fe:=(pZ "Headers" "__init__" fw).getD default
def mQ:fe:=(kP "_strip_quoted_realnames" fw).getD default
def qc:fe:=(kP "_check_parenthesis" fw).getD default
def ef:fe:=(kP "_law_desk" fw).getD default
def xP:fe:=(pZ "_netrclex" "_read_char" fw).getD default
def qd:fe:=(pZ "_netrclex" "get_token" fw).getD default
def Co:fe:=(pZ "_netrclex" "push_token" fw).getD default
def Cp:fe:=(pZ "_netrclex" "__init__" fw).getD default
def Ab:fe:=(pZ "Headers" "_convert_string_type" fw).getD default
def nL:fe:=(pZ "Headers" "get" fw).getD default
def xQ:fe:=(pZ "Headers" "add_header" fw).getD default
def f9:fe:=(kP "bisect_right" fw).getD default
def gL:fe:=(kP "bisect_left" fw).getD default
def kh:fe:=(kP "_law_even" fw).getD default
def Cq:fe:=(kP "_law_spelled" fw).getD default
def dMA:fe:=(kP "_law_mates" fw).getD default
def dDE:fe:=(kP "_law_dealt" fw).getD default
def dRU:fe:=(kP "_law_run" fw).getD default
def dHA:fe:=(kP "_law_halved" fw).getD default
def dLF:fe:=(kP "_law_left" fw).getD default
def dCO:fe:=(kP "_law_counters" fw).getD default
def dLW:fe:=(kP "law" fw).getD default
def dGA:fe:=(pZ "Headers" "get_all" fw).getD default
def Ac:fe:=(kP "insort_right" fw).getD default
def Ad:fe:=(kP "insort_left" fw).getD default
noncomputable def fP (nm qn:Str)(D:fe)(df kw md cd:an):el:={name:=nm,qualname:=qn,params:=D.args,body:=.stmts D.body,scope:=D.scope,globals:=jy,closure:=[],defaults:=df,kwdefaults:=kw,pyModule:=md,code:=cd}
noncomputable def en (P:BX)(x:Str)(t:Tok)(v:an):nC:=⟨q8 P x,.str x t,v⟩
def Cs:el:=fP "__init__" "Headers.__init__" uk (.ref 168) (.none) (.str "cpy313.wsgiref.headers" 439) (.ref 174)
def Ct:el:=fP "_convert_string_type" "Headers._convert_string_type" Ab (.none) (.none) (.str "cpy313.wsgiref.headers" 439) (.ref 181)
def Cu:el:=fP "get" "Headers.get" nL (.ref 221) (.none) (.str "cpy313.wsgiref.headers" 439) (.ref 227)
def FM:el:=fP "items" "Headers.items" Cn (.none) (.none) (.str "cpy313.wsgiref.headers" 439) (.ref 244)
def Cv:el:=fP "add_header" "Headers.add_header" xQ (.none) (.none) (.str "cpy313.wsgiref.headers" 439) (.ref 277)
def K5:el:=fP "insort_right" "insort_right" Ac (.ref 81) (.ref 82) (.str "cpy313.bisect" 349) (.ref 88)
def xR:el:=fP "bisect_right" "bisect_right" f9 (.ref 90) (.ref 91) (.str "cpy313.bisect" 349) (.ref 97)
def K6:el:=fP "insort_left" "insort_left" Ad (.ref 99) (.ref 100) (.str "cpy313.bisect" 349) (.ref 106)
def Ae:el:=fP "bisect_left" "bisect_left" gL (.ref 108) (.ref 109) (.str "cpy313.bisect" 349) (.ref 115)
def K7:el:=fP "_iter_escaped_chars" "_iter_escaped_chars" oL (.none) (.none) (.str "cpy313.email.utils" 405) (.ref 122)
def Cw:el:=fP "_strip_quoted_realnames" "_strip_quoted_realnames" mQ (.none) (.none) (.str "cpy313.email.utils" 405) (.ref 129)
def K8:el:=fP "_check_parenthesis" "_check_parenthesis" qc (.none) (.none) (.str "cpy313.email.utils" 405) (.ref 136)
def Af:el:=fP "__init__" "_netrclex.__init__" Cp (.none) (.none) (.str "cpy313.netrc" 289) (.ref 51)
def Ag:el:=fP "_read_char" "_netrclex._read_char" xP (.none) (.none) (.str "cpy313.netrc" 289) (.ref 58)
def FO:el:=fP "get_token" "_netrclex.get_token" qd (.none) (.none) (.str "cpy313.netrc" 289) (.ref 65)
def FP:el:=fP "push_token" "_netrclex.push_token" Co (.none) (.none) (.str "cpy313.netrc" 289) (.ref 72)
def FQ:el:=fP "_law_desk" "_law_desk" ef (.none) (.none) (.str "law_tc0073_01" 702) (.ref 291)
def K9:el:=fP "_law_spelled" "_law_spelled" Cq (.none) (.none) (.str "law_tc0073_01" 702) (.ref 298)
def La:el:=fP "_law_even" "_law_even" kh (.none) (.none) (.str "law_tc0073_01" 702) (.ref 305)
noncomputable def cW (a:Nat)(nm qn:Str)(t:Nat)(l n p q:Int)(c r:Nat)(x y:an):ai×Obj:=(a,⟨.type "code",none,.fields #[.str nm t,.str qn (t+1),.str "/claim/cut.py" (t+2),.int l 0,.int n 0,.int 0 0,.int p 0,.int q 0,.ref r,.bool true,.int 276 0,.ref (r+1),.none,x,y,.ref (a-1),.int c 0,.int l 0,.str "/claim/cut.py" (c+1)],#[]⟩)
def cO (a:Nat)(nm qn:Str)(t:Nat)(l n p q:Int)(c:Nat):ai×Obj:=cW a nm qn t l n p q c (a-5) (.ref (a-3)) (.ref (a-2))
def cN (a:Nat)(nm qn:Str)(t:Nat)(l n p q:Int)(c:Nat):ai×Obj:=cW a nm qn t l n p q c (a-3) .none .none
noncomputable def fO (a:Nat)(f:el):ai×Obj:=(a,⟨.type "function",none,.func f,#[]⟩)
def fMA:el:=fP "_law_mates" "_law_mates" dMA (.none) (.none) (.str "law_tc0073_01" 702) (.ref 310)
def fDE:el:=fP "_law_dealt" "_law_dealt" dDE (.none) (.none) (.str "law_tc0073_01" 702) (.ref 317)
def fRU:el:=fP "_law_run" "_law_run" dRU (.none) (.none) (.str "law_tc0073_01" 702) (.ref 322)
def fHA:el:=fP "_law_halved" "_law_halved" dHA (.none) (.none) (.str "law_tc0073_01" 702) (.ref 329)
def fLF:el:=fP "_law_left" "_law_left" dLF (.none) (.none) (.str "law_tc0073_01" 702) (.ref 334)
def fCO:el:=fP "_law_counters" "_law_counters" dCO (.none) (.none) (.str "law_tc0073_01" 702) (.ref 339)
def fLW:el:=fP "law" "law" dLW (.none) (.none) (.str "law_tc0073_01" 702) (.ref 344)
def fGA:el:=fP "get_all" "Headers.get_all" dGA (.none) (.none) (.str "cpy313.wsgiref.headers" 439) (.ref 219)
def kF (P:BX):Frag:=[(2,⟨.none,none,.dict #[en P "\x69mport.loaded._sre" 183 (.bool true),en P "class._frozen_importlib.BuiltinImporter" 185 (.ref 14),en P "watched.\x69mport" 206 (.ref 18),en P "class._frozen_importlib.ModuleSpec" 216 (.ref 22),en P "sys.modules.booked-epoch" 245 (.int 3 0),en P "\x69mport.later-laid._sre" 270 (.bool true),en P "watched.library" 272 (.ref 27),en P "watched.library-objects" 0 (.str "\x0c" 0),en P "watched.library-deep._sre" 273 (.str "\x04\x00\x00\x0b\x04\x00\x00\x0b\x04\x00\x00\x03\x04\x00\x00\x0b\x08\x04dict\x02" 0)] 9,#[]⟩),(3,⟨.type "dict",none,.dict #[en P "__name__" 165 (.str "law_tc0073_01" 702),en P "__doc__" 166 (.none),en P "__package__" 167 (.none),en P "__loader__" 168 (.builtin "__main__.__loader__#opaque"),en P "__spec__" 169 (.none),en P "__annotations__" 170 (.ref 6),en P "__builtins__" 171 (.ref 4),en P "__file__" 173 (.str "/claim/cut.py" 172),en P "__cached__" 174 (.none),en P "_sre" 275 (.ref 12),en P "_wall" 288 (.ref 38),en P "_netrclex" 348 (.ref 76),en P "insort_right" 363 (.ref 89),en P "bisect_right" 377 (.ref 98),en P "insort_left" 390 (.ref 107),en P "bisect_left" 404 (.ref 116),en P "_iter_escaped_chars" 416 (.ref 123),en P "_strip_quoted_realnames" 428 (.ref 130),en P "_check_parenthesis" 438 (.ref 137),en P "tspecials" 474 (.ref 142),en P "_name_disallowed_re" 500 (.ref 147),en P "_value_disallowed_re" 534 (.ref 152),en P "_formatparam" 544 (.ref 160),en P "Headers" 701 (.ref 281),en P "_law_desk" 712 (.ref 292),en P "_law_spelled" 722 (.ref 299),en P "_law_even" 730 (.ref 306),en P "_law_mates" 736 (.ref 311),en P "_law_dealt" 747 (.ref 318),en P "_law_run" 753 (.ref 323),en P "_law_halved" 766 (.ref 330),en P "_law_left" 772 (.ref 335),en P "_law_counters" 778 (.ref 340),en P "law" 784 (.ref 345)] 34,#[]⟩),cO 51 "__init__" "_netrclex.__init__" 303 8 2 0 3 308,fO 52 Af,cO 58 "_read_char" "_netrclex._read_char" 311 14 1 0 3 316,fO 59 Ag,cO 65 "get_token" "_netrclex.get_token" 319 20 1 0 3 326,fO 66 FO,cO 72 "push_token" "_netrclex.push_token" 329 47 2 0 3 334,fO 73 FP,(75,⟨.type "dict",none,.dict #[en P "__module__" 298 (.str "cpy313.netrc" 289),en P "__firstlineno__" 302 (.int 6 301),en P "__init__" 310 (.ref 52),en P "_read_char" 318 (.ref 59),en P "get_token" 328 (.ref 66),en P "push_token" 336 (.ref 73),en P "__static_attributes__" 341 (.ref 74),en P "__dict__" 343 (.ref 77),en P "__weakref__" 345 (.ref 78),en P "__doc__" 346 (.none)] 4,#[]⟩),(76,⟨.type "type",none,.cls {name := "_netrclex",bases := [.type "object"],mro := [.ref 76,.type "object"],ns := 75,qualname := "_netrclex",hasDict := true,slotNames := [],subclasses := [],abstract := false,collection := none,hasDel := false },#[none,none,some (.str "_netrclex" 291),some (.str "_netrclex" 299),some (.builtin "object.__new__"),some (.bool true)]⟩),(81,⟨.type "tuple",none,.seq #[.int 0 351,.none] 0,#[]⟩),(82,⟨.type "dict",none,.dict #[en P "key" 352 (.none)] 1,#[]⟩),cO 88 "insort_right" "insort_right" 353 50 4 1 3 361,fO 89 K5,(90,⟨.type "tuple",none,.seq #[.int 0 364,.none] 0,#[]⟩),(91,⟨.type "dict",none,.dict #[en P "key" 365 (.none)] 1,#[]⟩),cO 97 "bisect_right" "bisect_right" 366 56 4 1 3 375,fO 98 xR,(99,⟨.type "tuple",none,.seq #[.int 0 378,.none] 0,#[]⟩),(100,⟨.type "dict",none,.dict #[en P "key" 379 (.none)] 1,#[]⟩),cO 106 "insort_left" "insort_left" 380 76 4 1 3 388,fO 107 K6,(108,⟨.type "tuple",none,.seq #[.int 0 391,.none] 0,#[]⟩),(109,⟨.type "dict",none,.dict #[en P "key" 392 (.none)] 1,#[]⟩),cO 115 "bisect_left" "bisect_left" 393 82 4 1 3 402,fO 116 Ae,cO 122 "_iter_escaped_chars" "_iter_escaped_chars" 407 103 1 0 35 414,fO 123 K7,cO 129 "_strip_quoted_realnames" "_strip_quoted_realnames" 417 116 1 0 3 426,fO 130 Cw,cO 136 "_check_parenthesis" "_check_parenthesis" 429 134 1 0 3 436,fO 137 K8,(146,⟨.type "tuple",none,.seq #[.int 14 0,.int 10 0,.int 4 0,.int 1 0,.int 1 0,.int 22 0,.int 0 0,.int 31 0,.int 16 0,.int 127 0,.int 0 0,.int 13 0,.int 7 0,.int 22 0,.int 0 0,.int 31 0,.int 16 0,.int 127 0,.int 0 0,.int 1 0] 0,#[]⟩),(147,⟨.type "re.Pattern",none,.fields #[.str "[\\x00-\\x1F\\x7F]" 476,.int 32 499,.int 0 0,.none,.none,.ref 146,.int 0 0],#[]⟩),(151,⟨.type "tuple",none,.seq #[.int 14 0,.int 14 0,.int 4 0,.int 1 0,.int 1 0,.int 9 0,.int 4294966783 0,.int 0 0,.int 0 0,.int 2147483648 0,.int 0 0,.int 0 0,.int 0 0,.int 0 0,.int 0 0,.int 13 0,.int 11 0,.int 9 0,.int 4294966783 0,.int 0 0,.int 0 0,.int 2147483648 0,.int 0 0,.int 0 0,.int 0 0,.int 0 0,.int 0 0,.int 1 0] 0,#[]⟩),(152,⟨.type "re.Pattern",none,.fields #[.str "[\\x00-\\x08\\x0A-\\x1F\\x7F]" 502,.int 32 533,.int 0 0,.none,.none,.ref 151,.int 0 0],#[]⟩),(168,⟨.type "tuple",none,.seq #[.none] 0,#[]⟩),cO 174 "__init__" "Headers.__init__" 557 160 2 0 3 564,fO 175 Cs,cO 181 "_convert_string_type" "Headers._convert_string_type" 567 170 2 1 3 574,fO 182 Ct,cN 219 "get_all" "Headers.get_all" 615 195 2 0 3 618,fO 220 fGA,(221,⟨.type "tuple",none,.seq #[.none] 0,#[]⟩),cO 227 "get" "Headers.get" 621 199 3 0 3 629,fO 228 Cu,cO 244 "items" "Headers.items" 644 212 1 0 3 648,fO 245 FM,cO 277 "add_header" "Headers.add_header" 680 227 3 0 11 690,fO 278 Cv,(280,⟨.type "dict",none,.dict #[en P "__module__" 552 (.str "cpy313.wsgiref.headers" 439),en P "__firstlineno__" 556 (.int 158 555),en P "__init__" 566 (.ref 175),en P "_convert_string_type" 576 (.ref 182),en P "__len__" 583 (.ref 189),en P "__setitem__" 592 (.ref 196),en P "__delitem__" 598 (.ref 201),en P "__getitem__" 606 (.ref 208),en P "__contains__" 614 (.ref 215),en P "get_all" 620 (.ref 220),en P "get" 631 (.ref 228),en P "keys" 637 (.ref 233),en P "values" 643 (.ref 238),en P "items" 650 (.ref 245),en P "__repr__" 657 (.ref 252),en P "__str__" 663 (.ref 257),en P "__bytes__" 670 (.ref 264),en P "setdefault" 679 (.ref 271),en P "add_header" 692 (.ref 278),en P "__static_attributes__" 694 (.ref 279),en P "__dict__" 696 (.ref 282),en P "__weakref__" 698 (.ref 283),en P "__doc__" 699 (.none)] 4,#[]⟩),(281,⟨.type "type",none,.cls {name := "Headers",bases := [.type "object"],mro := [.ref 281,.type "object"],ns := 280,qualname := "Headers",hasDict := true,slotNames := [],subclasses := [],abstract := false,collection := none,hasDel := false },#[none,none,some (.str "Headers" 545),some (.str "Headers" 553),some (.builtin "object.__new__"),some (.bool true)]⟩),cO 291 "_law_desk" "_law_desk" 704 241 1 0 3 710,fO 292 FQ,cO 298 "_law_spelled" "_law_spelled" 713 246 2 0 3 720,fO 299 K9,cO 305 "_law_even" "_law_even" 723 250 1 0 3 728,fO 306 La,cN 310 "_law_mates" "_law_mates" 731 254 2 0 3 734,fO 311 fMA,cO 317 "_law_dealt" "_law_dealt" 737 264 4 0 3 745,fO 318 fDE,cN 322 "_law_run" "_law_run" 748 272 5 0 3 751,fO 323 fRU,cO 329 "_law_halved" "_law_halved" 754 285 3 0 3 764,fO 330 fHA,cN 334 "_law_left" "_law_left" 767 295 3 0 3 770,fO 335 fLF,cN 339 "_law_counters" "_law_counters" 773 299 1 0 3 776,fO 340 fCO,cN 344 "law" "law" 779 346 1 0 3 782,fO 345 fLW]
def TY:List ai:=[2,3,51,52,58,59,65,66,72,73,75,76,81,82,88,89,90,91,97,98,99,100,106,107,108,109,115,116,122,123,129,130,136,137,146,147,151,152,168,174,175,181,182,219,220,221,227,228,244,245,277,278,280,281,291,292,298,299,305,306,310,311,317,318,322,323,329,330,334,335,339,340,344,345]
noncomputable def ul:List (ai×ai):=[(291,287),(339,337)]
noncomputable def rW:RowW:=(J8.row).toRowW
noncomputable def TZ:List Str:=["tspecials","_name_disallowed_re","_value_disallowed_re","_formatparam","insort_right","bisect_right","insort_left","bisect_left"]
def Le (s:az):List (Option Obj)×List (Option Obj)×Bool:=(TY.map s.heap.get?,[287,337].map s.heap.get?,ft 0 s.toks)
def Lf (w:pM):List (Option Obj)×List (Option Obj)×Bool:=((kF w.params).map λp=>some p.2,[some (xy #[]),some (xy #[])],true)
noncomputable def P9:List Nat:=[0,1,3,10,11,12,14,15,16,18,20,21,22,23,24,25,26,27,28,29]
def vwL:q9:=view abe P9
noncomputable def btq:List Obj->Nat->BT->Option BT
 |[],_,t=>some t|o::l,n,t=>match ((t.ins n o).get n).isSome with
  |true=>btq l (n+1) (t.ins n o)|false=>none
theorem btS (f:Life):∀l n t t',btq l n t=some t'->absHeap t' (n+l.length) f=⟨(absHeap t n f).objs++l.toArray,f⟩
 |[],n,t,t',h=>by obtain rfl:=Option.some.inj h;show absHeap t n f=⟨_++#[],f⟩;rw[Array.append_empty];rfl|o::l,n,t,t',h=>by rw[btq] at h;cases g:((t.ins n o).get n).isSome with|false=>rw[g] at h;cases h|true=>rw[g] at h;have:=btS f l _ _ _ h;rw[List.length_cons,show n+(l.length+1)=n+1+l.length from Nat.add_right_comm n l.length 1,this,absHeap_ins g];show Heap.mk _ _=Heap.mk _ _;congr 1;show (absHeap t n f).objs.push o++_=_;simp
noncomputable def tRT (tb:String->Option Builtin)(p:Program)(w:World)(m:Nat)(ann:Option Value):Nat->SharedT->Thread->Option SharedT
 |0,_,_=>none|n+1,s,t=>match through t with
  |true=>some s|false=>match stepOk m ann t with
   |false=>none|true=>match stepT (denote tb) p w s t with
    |some (s',t')=>tRT tb p w m ann n s' t'|none=>none
theorem tRS {tb:String->Option Builtin}{p:Program}{w:World}{m:Nat}{ann:Option Value}:∀n s t r,tRT tb p w m ann n s t=some r->topRun tb p w m ann n s.abs t=some r.abs
 |0,_,_,_,h=>by cases h|n+1,s,t,r,h=>by
  rw[tRT] at h;rw[topRun];cases c:through t with
  |true=>rw[c] at h;obtain rfl:=Option.some.inj h;rfl|false=>
   rw[c] at h;cases d:stepOk m ann t with
   |false=>rw[d] at h;cases h|true=>rw[d] at h;cases e:stepT (denote tb) p w s t with|none=>rw[e] at h;cases h|some y=>obtain⟨s',t'⟩:=y;rw[e] at h;dsimp only;rw[stepT_spec e];exact tRS n s' t' r h
noncomputable def tFT (tb:String->Option Builtin)(p:Program)(w:World)(N:Nat)(s:Shared):Option Shared:=
 match s.heap.isNs mainGlobals&&s.gens.size==0 with
 |true=>(btq s.heap.objs.toList 0 .nil).bind λT=>(tRT tb p w s.heap.objs.size (s.heap.nsMap mainGlobals "__annotations__") N ⟨T,s.heap.objs.size,s.heap.life,s.gens,s.drawn,s.toks,s.os⟩ (topStub p)).bind λS=>match staticsOk (importedModules p.main.body) s.heap S.abs.heap&&namesBound p S.abs.heap&&gensDone S.abs&&laidKept s.heap S.abs.heap with
  |true=>some S.abs
  |false=>none
 |false=>none
theorem tFS {tb:String->Option Builtin}{p:Program}{w:World}{N:Nat}{s r:Shared}(h:tFT tb p w N s=some r):topFrom tb p w N s=some r:=by
 rw[tFT] at h;rw[topFrom];cases c:s.heap.isNs mainGlobals&&s.gens.size==0 with
 |false=>rw[c] at h;cases h|true=>
  rw[c] at h;dsimp only at h ⊢;obtain⟨T,h1,h⟩:=Option.bind_eq_some_iff.mp h;obtain⟨S,h2,h⟩:=Option.bind_eq_some_iff.mp h;have e:=btS s.heap.life _ _ _ _ h1;have e2:(absHeap T s.heap.objs.size s.heap.life)=s.heap:=by rw[Nat.zero_add] at e;exact e.trans (by show Heap.mk (#[]++s.heap.objs.toList.toArray) s.heap.life=s.heap;simp)
  have z:=tRS _ _ _ _ h2;rw[show (SharedT.mk T s.heap.objs.size s.heap.life s.gens s.drawn s.toks s.os).abs=s from by show Shared.mk _ _ _ _ _=s;rw[e2]] at z;rw[z];exact h
theorem lqT {p q:Program}{loose:List Str}{Xt:Shared->Bool}{α:Type}{Yf:Shared->α}{Ya:World->α}{N:Nat}{g0:Bool}(h:∀w,((fencedOpening treeTable p w N).bind (tFT treeTable p w N)).map (λs=>(openSeen q loose (importedModules p.main.body) Xt g0 s,Yf s))=some (openGood q loose,Ya w)):LeftO p q loose Xt Yf Ya N g0:=λw=>by obtain⟨r,h1,h2⟩:=Option.map_eq_some_iff.mp<|h w;obtain⟨s,h3,h4⟩:=Option.bind_eq_some_iff.mp h1;show ((fencedOpening treeTable p w N).bind<|topFrom treeTable p w N).map _=_;rw[h3];show (topFrom treeTable p w N s).map _=_;rw[tFS h4];exact congrArg some h2
theorem Qa:LeftO abe vwL TZ (λs=>xlAt vwL [] s&&recOk (RowW.records rW) s) Le Lf 3860:=lqT λw=>by kernel_rfl
theorem kT {α:Type}{xs:List α}{p m n:Nat}(h:xs.length<=n):((rq p xs).take m).length<=n:=fC (List.length_take_le' _ _)<|fC (by rw[jA];exact Nat.sub_le _ _) h
theorem kN (k n:Nat):min k n+(n-k+1)=n+1:=by rw[<-Nat.add_assoc,Nat.min_comm,Nat.add_comm<|min n k,Nat.sub_add_min_cancel]
theorem kM (a b d:Nat):a-b+(min b a-d)<=a:=fC (Nat.add_le_add_left (Nat.sub_le _ _) _) (by rw[Nat.min_comm,Nat.sub_add_min_cancel];exact aG _)
namespace Q
section
noncomputable def cnt (E:Nat->Bool):Nat->Nat
 |0=>0|t+1=>cnt E t+(E t).toNat
noncomputable def D1 (A:Nat->Nat)(E:Nat->Bool):Nat->Nat
 |0=>0|t+1=>min (A (t+1)) (D1 A E t+(E t).toNat)
noncomputable def D2 (A:Nat->Nat)(E L:Nat->Bool):Nat->Nat:=D1 (D1 A E) L
theorem cnt_le (E:Nat->Bool){a b:Nat}(h:a<=b):cnt E a<=cnt E b:=by induction h with|refl=>exact aG _|step _ ih=>exact fC ih<|vH _ _
theorem D1_le {A:Nat->Nat}{E:Nat->Bool}(h0:A 0=0):∀t,D1 A E t<=A t
 |0=>by rw[h0];exact aG _|t+1=>EW _ _
theorem We {A:Nat->Nat}{E:Nat->Bool}(h0:A 0=0){a:Nat}:∀t,a<=t->D1 A E t+cnt E a<=A a+cnt E t
 |0,h=>by obtain rfl:=aas.mp h;rw[h0];exact aG _|t+1,h=>by
  by_cases e:a=t+1
  ·subst e;have:=D1_le (E:=E) h0<|t+1;exact ah [_,_,_] (.le .o .i<|.g 1 0<|.le (.a .o .u)<|.a .i .u) rfl this
  have:=We (E:=E) h0 (a:=a) t (by lia);have h2:D1 A E (t+1)<=D1 A E t+(E t).toNat:=xx _ _;show _<=_+(cnt E t+_);exact ah [_,_,_,_,_,_] (.le (.a .o .i) (.a .u .w)<|.le .x (.a .o .y)<|.g 1 0<|.le (.a .x .i)<|.a .u<|.a .w .y) rfl this h2
theorem Wl {A:Nat->Nat}{E:Nat->Bool}(h0:A 0=0):∀t,∃a,a<=t∧D1 A E t+cnt E a=A a+cnt E t
 |0=>⟨0,aG _,by rw[h0];rfl⟩|t+1=>by
  by_cases h:A (t+1)<=D1 A E t+(E t).toNat
  ·exact⟨t+1,aG _,by rw[show D1 A E (t+1)=A (t+1) from zH h]⟩
  obtain⟨a,ha,e⟩:=Wl (E:=E) h0 t;refine⟨a,by exact ah [_,_,_] (.le .o .i<|.g 1 0<|.le .o<|.a .i .u) rfl ha,?_⟩;rw[show D1 A E (t+1)=D1 A E t+(E t).toNat from aai<|ah [_,_] (.c 1 0 (.no<|.le .o .i)<|.g 1 0<|.le .i .o) rfl h];show _=_+(cnt E t+_);exact ah [_,_,_,_,_] (.c 1 (-1) (.eq (.a .o .i)<|.a .u .w)<|.g 1 1<|.eq (.a (.a .o .x) .i)<|.a .u<|.a .w .x) rfl e
theorem D2_le {A:Nat->Nat}{E L:Nat->Bool}:∀t,D2 A E L t<=D1 A E t:=D1_le rfl
noncomputable def sumAt (A:Nat->Nat)(E L:Nat->Bool)(t a b:Nat):Nat:=A a+(cnt E b-cnt E a)+(cnt L t-cnt L b)
theorem D2_min_le {A:Nat->Nat}{E L:Nat->Bool}(h0:A 0=0){t a b:Nat}(hab:a<=b)(hbt:b<=t):D2 A E L t<=sumAt A E L t a b:=by have h1:=We (A:=D1 A E) (E:=L) rfl t hbt;have h2:=We (E:=E) h0 b hab;have h3:=cnt_le E hab;have h4:=cnt_le L hbt;unfold sumAt;exact ah [_,_,_,_,_,_,_,_,_] (.le (.v 6) (.a (.v 7) .x)<|.le .w (.a (.v 8) .i)<|.le (.a .o .i) (.a .u .w)<|.le (.a .u .x) (.a .y<|.v 6)<|.g 1 0<|.le .o<|.a (.a .y<|.v 7)<|.v 8) rfl (fS _ _) (fS _ _) h1 h2
theorem D2_min_at {A:Nat->Nat}{E L:Nat->Bool}(h0:A 0=0)(t:Nat):∃a b,a<=b∧b<=t∧D2 A E L t=sumAt A E L t a b:=by obtain⟨b,hb,e⟩:=Wl (A:=D1 A E) (E:=L) rfl t;obtain⟨a,ha,e'⟩:=Wl (E:=E) h0 b;refine⟨a,b,ha,hb,?_⟩;have h3:=cnt_le E ha;have h4:=cnt_le L hb;unfold sumAt;exact ah [_,_,_,_,_,_,_,_,_] (.le (.v 6) (.a (.v 7) .x)<|.le .w (.a (.v 8) .i)<|.c 0 1 (.eq (.a (.v 8) .i) .w)<|.c 0 1 (.eq (.a (.v 7) .x)<|.v 6)<|.c 1 (-1) (.eq (.a .o .i)<|.a .u .w)<|.c 0 0 (.le .i .w)<|.c 1 (-1) (.eq (.a .u .x)<|.a .y<|.v 6)<|.c 0 0 (.le .x<|.v 6)<|.g 1 1<|.eq .o<|.a (.a .y<|.v 7)<|.v 8) rfl (fS _ _) (fS _ _) (Nat.sub_add_cancel h4) (Nat.sub_add_cancel h3) e h4 e' h3
noncomputable def on (E:Nat->Bool)(p:Nat)(h:Nat):Bool:=E h||h==p
noncomputable def off (L:Nat->Bool)(p:Nat)(h:Nat):Bool:=L h&&!(h==p)
theorem TR {E:Nat->Bool}{p:Nat}(hp:E p=false):∀t,cnt (on E p) t=cnt E t+(if p<t then 1 else 0)
 |0=>rfl|t+1=>by
  show cnt (on E p) t+(on E p t).toNat=cnt E t+(E t).toNat+_;rw[TR hp t];by_cases e:t=p
  ·subst e;rw[on,hp];simp
  have:(on E p t)=E t:=by simp [on,e]
  rw[this];by_cases h:p<t
  ·rw[if_pos h,if_pos<|by lia];exact ah [_,_] (.g 1 1<|.eq (.a (.a .o .j) .i)<|.a (.a .o .i) .j) rfl
  rw[if_neg h,if_neg<|by lia];exact ah [_,_] (.g 1 1<|.eq (.a (.a .o .k) .i)<|.a (.a .o .i) .k) rfl
theorem TS {L:Nat->Bool}{p:Nat}(hp:L p=true):∀t,cnt (off L p) t+(if p<t then 1 else 0)=cnt L t
 |0=>rfl|t+1=>by
  show cnt (off L p) t+(off L p t).toNat+_=cnt L t+(L t).toNat;rw[<-TS hp t];by_cases e:t=p
  ·subst e;rw[off,hp];simp
  have:(off L p t)=L t:=by simp [off,e]
  rw[this];by_cases h:p<t
  ·rw[if_pos h,if_pos<|by lia];exact ah [_,_] (.g 1 1<|.eq (.a (.a .o .i) .j)<|.a (.a .o .j) .i) rfl
  rw[if_neg h,if_neg<|by lia];exact ah [_,_] (.g 1 1<|.eq (.a (.a .o .i) .k)<|.a (.a .o .k) .i) rfl
structure XH (E L:Nat->Bool)(p:Nat):Prop where
 e:E p=false
 l:L p=true
 lo:∀b,b<=p->cnt E p+cnt L b<=cnt E b+cnt L p
 hi:∀b,p<b->cnt E (p+1)+cnt L b<=cnt E b+cnt L (p+1)
theorem sCp {f g h i:Nat}(h1:f+i<=g+h):f-h<=g-i:=by rw[Nat.sub_le_iff_le_add];exact ah [_,_,_,_,_] (.le (.a .o .i) (.a .u .w)<|.le .u (.a .x .i)<|.g 1 0<|.le .o<|.a .x .w) rfl h1 (fS _ _)
theorem sCq {a b c e f g h i j:Nat}(h1:f+i<=g+h)(h2:c+b<=e+a):j+(f-h)+(c-a)<=j+(g-i)+(e-b):=Nat.add_le_add (Nat.add_le_add_left (sCp h1) j)<|sCp h2
theorem sCr {u v w y u' v' w' y' j:Nat}(h1:v<=u)(h2:y<=w)(h:u+w+y'+v'<=u'+w'+y+v):j+(u-v)+(w-y)<=j+(u'-v')+(w'-y'):=ah [_,_,_,_,_,_,_,_,_,_,_,_,_] (.eq (.a (.v 9) .i) .o<|.eq (.a (.v 10) .w) .u<|.le .x (.a (.v 11) .y)<|.le (.v 6) (.a (.v 12)<|.v 7)<|.le (.a (.a (.a .o .u)<|.v 7) .y) (.a (.a (.a .x<|.v 6) .w) .i)<|.g 1 0<|.le (.a (.a (.v 8)<|.v 9)<|.v 10)<|.a (.a (.v 8)<|.v 11)<|.v 12) rfl (Nat.sub_add_cancel h1) (Nat.sub_add_cancel h2) (fS _ _) (fS _ _) h
theorem V2 {A:Nat->Nat}{E L:Nat->Bool}{p:Nat}(h0:A 0=0)(hA:∀t,A t<=A (t+1))(H:XH E L p)(t:Nat):D2 A (on E p) (off L p) t=D2 A E L t:=by
 have c1:=TR H.e;have c2:=TS H.l;have hp1:cnt E (p+1)=cnt E p:=by show cnt E p+(E p).toNat=_;rw[H.e];rfl
 have hp2:cnt L (p+1)=cnt L p+1:=by show cnt L p+(L p).toNat=_;rw[H.l];rfl
 apply abh
 ·obtain⟨a,b,hab,hbt,e⟩:=D2_min_at (E:=E) (L:=L) h0 t;rw[e];by_cases hb:b<=p
  ·have h:=D2_min_le (E:=on E p) (L:=off L p) h0 hab hbt;have x:=c1 a;have y:=c1 b;have z:=c2 b;have w:=c2 t;rw[if_neg<|by lia] at x y z;apply fC h;exact sCq (ah [_,_,_,_,_] (.eq .o (.a .i .u)<|.c (-1) 0 (.eq .w<|.a .x .u)<|.g 1 0<|.le (.a .o .x)<|.a .i .w) rfl y x)<|ah [_,_,_,_,_] (.c (-1) 0 (.eq (.a .o .k) .i)<|.eq (.a .u .w) .x<|.g 1 0<|.le (.a .u .i)<|.a .x .o) rfl z w
  by_cases ha:a<=p
  ·have l:p+1<=b:=Nat.lt_of_not_le hb;have l4:p+1<=t:=fC l hbt;have h:=D2_min_le (E:=on E p) (L:=off L p) h0 (a:=a) (b:=p) ha (t:=t)<|Nat.le_of_lt l4;have x:=c1 a;have y:=c1 p;have z:=c2 p;have w:=c2 t;rw[if_neg<|J' _] at y z;rw[if_neg<|Nat.not_lt.2 ha] at x;rw[if_pos<|show p<t from l4] at w;apply fC h;exact sCr (cnt_le _ ha) (cnt_le _<|Nat.le_of_lt l4) (by have q:=H.hi b l;rw[hp1,hp2] at q;rw[x,y,<-w];exact ah [_,_,_,_,_,_,_] (.c (-1) 0 (.eq (.a .o .k) .i)<|.le (.a .u .w) (.a .x<|.a .i .j)<|.g 1 0<|.le (.a (.a (.a (.a .u .k) .y) .w)<|.v 6)<|.a (.a (.a .x<|.a .y .j) .o)<|.a (.v 6) .k) rfl z q)
  have h:=D2_min_le (E:=on E p) (L:=off L p) h0 hab hbt;have x:=c1 a;have y:=c1 b;have z:=c2 b;have w:=c2 t;rw[if_pos<|by lia] at x y z w;apply fC h;exact sCq (ah [_,_,_,_,_] (.eq .o (.a .i .u)<|.c (-1) 0 (.eq .w<|.a .x .u)<|.g 1 0<|.le (.a .o .x)<|.a .i .w) rfl y x)<|ah [_,_,_,_,_] (.eq (.a .o .i) .u<|.c (-1) 0 (.eq (.a .w .i) .x)<|.g 1 0<|.le (.a .o .x)<|.a .u .w) rfl w z
 obtain⟨a,b,hab,hbt,e⟩:=D2_min_at (E:=on E p) (L:=off L p) h0 t;rw[e];have x:=c1 a;have y:=c1 b;have z:=c2 b;have w:=c2 t;by_cases hb:b<=p
 ·by_cases ht:p<t
  ·have l:=fC hab<|Nat.le_succ_of_le hb;have h:=D2_min_le (E:=E) (L:=L) h0 l ht;rw[if_neg<|by lia] at x y z;rw[if_pos ht] at w;apply fC h;exact sCr (cnt_le _ l) (cnt_le _ ht) (by have q:=H.lo b hb;rw[hp1,hp2,x,y,<-w];exact ah [_,_,_,_,_,_,_] (.eq (.a .o .k) .i<|.le (.a .u .i) (.a .x .y)<|.g 1 0<|.le (.a (.a (.a .u<|.a (.v 6) .j) .o)<|.a .w .k)<|.a (.a (.a (.a .x .k)<|.v 6)<|.a .y .j) .w) rfl z q)
  have h:=D2_min_le (E:=E) (L:=L) h0 hab hbt;rw[if_neg<|by lia] at x y z w;apply fC h;exact sCq (ah [_,_,_,_,_] (.c (-1) 0 (.eq .o<|.a .i .u)<|.eq .w (.a .x .u)<|.g 1 0<|.le (.a .i .w)<|.a .o .x) rfl y x)<|ah [_,_,_,_,_] (.c (-1) 0 (.eq (.a .o .i) .u)<|.eq (.a .w .i) .x<|.g 1 0<|.le (.a .u .w)<|.a .o .x) rfl w z
 have h:=D2_min_le (E:=E) (L:=L) h0 hab hbt;rw[if_pos<|by lia] at y z w;by_cases ha:p<a
 ·rw[if_pos ha] at x;refine fC h ?_;exact sCq (ah [_,_,_,_,_] (.c (-1) 0 (.eq .o<|.a .i .u)<|.eq .w (.a .x .u)<|.g 1 0<|.le (.a .i .w)<|.a .o .x) rfl y x)<|ah [_,_,_,_,_] (.c (-1) 0 (.eq (.a .o .i) .u)<|.eq (.a .w .i) .x<|.g 1 0<|.le (.a .u .w)<|.a .o .x) rfl w z
 rw[if_neg ha] at x;refine fC h ?_;exact sCq (ah [_,_,_,_,_] (.eq .o (.a .i .k)<|.c (-1) 0 (.eq .u<|.a .w .x)<|.g 1 0<|.le (.a .w .o)<|.a .u .i) rfl x y)<|ah [_,_,_,_,_] (.c (-1) 0 (.eq (.a .o .i) .u)<|.eq (.a .w .i) .x<|.g 1 0<|.le (.a .u .w)<|.a .o .x) rfl w z
end
section
variable {α:Type}
noncomputable def ord (c:Nat->List α):Nat->List α
 |0=>[]|t+1=>ord c t++c t
structure St (α:Type) where
 q1:List α
 q2:List α
 left:List (Nat×α)
noncomputable def serve1 (E:Bool)(s:St α):St α:=if E then ⟨s.q1.tail,s.q2++s.q1.head?.toList,s.left⟩ else s
noncomputable def serve2 (L:Bool)(t:Nat)(s:St α):St α:=if L then ⟨s.q1,s.q2.tail,s.left++(s.q2.head?.map (t,·)).toList⟩ else s
noncomputable def runS (c:Nat->List α)(E L:Nat->Bool):Nat->St α
 |0=>⟨[],[],[]⟩|t+1=>serve2 (L t) t (serve1 (E t) {runS c E L t with q1:=(runS c E L t).q1++c t})
noncomputable def A (c:Nat->List α)(t:Nat):Nat:=(ord c t).length
theorem A0 (c:Nat->List α):A c 0=0:=rfl
theorem A_mono (c:Nat->List α)(t:Nat):A c t<=A c (t+1):=by show _<=(ord c t++c t).length;rw[dJ];exact vH _ _
noncomputable def gone (c:Nat->List α)(E L:Nat->Bool):Nat->List (Nat×α)
 |0=>[]|t+1=>gone c E L t++(if D2 (A c) E L t<D2 (A c) E L (t+1) then ((ord c (t+1))[D2 (A c) E L t]?.map (t,·)).toList else [])
theorem dm {α:Type}(O:List α)(k:Nat):O.drop (min O.length k)=O.drop k∧O.take (min O.length k)=O.take k:=by
 rcases Nat.le_total O.length k with h|h
 ·rw[Nat.min_eq_left h,aaC,B7,Fn h,uc h];exact⟨rfl,rfl⟩
 rw[Nat.min_eq_right h];exact⟨rfl,rfl⟩
theorem run_eq (c:Nat->List α)(E L:Nat->Bool):∀t,runS c E L t=⟨(ord c t).drop (D1 (A c) E t),((ord c t).take (D1 (A c) E t)).drop (D2 (A c) E L t),gone c E L t⟩
 |0=>rfl|t+1=>by
  have ih:=run_eq c E L t;have l1:=D1_le (E:=E) (A0 c) t;have l2:=D2_le (A:=A c) (E:=E) (L:=L) t;have e1:(ord c t).drop (D1 (A c) E t)++c t=(ord c<|t+1).drop (D1 (A c) E t):=by show _=(ord c t++c t).drop _;rw[aaQ l1]
  have e2:(ord c t).take (D1 (A c) E t)=(ord c<|t+1).take (D1 (A c) E t):=by show _=(ord c t++c t).take _;rw[aaR l1]
  have k:D1 (A c) E t<=(ord c<|t+1).length:=fC l1<|A_mono c t;have d1:D1 (A c) E (t+1)=min (ord c<|t+1).length (D1 (A c) E t+(E t).toNat):=rfl;have d2:D2 (A c) E L (t+1)=min (D1 (A c) E<|t+1) (D2 (A c) E L t+(L t).toNat):=rfl;show serve2 (L t) t (serve1 (E t) _)=_;rw[ih];dsimp only;rw[e1,e2];have g:gone c E L (t+1)=gone c E L t++(if D2 (A c) E L t<D2 (A c) E L (t+1) then ((ord c<|t+1)[D2 (A c) E L t]?.map (t,·)).toList else []):=rfl;rw[g,d2];clear d2 g ih l1 e1 e2;generalize D1 (A c) E (t+1)=m1 at *;generalize D1 (A c) E t=n1 at *;generalize D2 (A c) E L t=n2 at *;generalize ord c (t+1)=O at *;generalize gone c E L t=G at *;have s1:serve1 (E t) ⟨O.drop n1,(O.take n1).drop n2,G⟩=⟨O.drop m1,(O.take m1).drop n2,G⟩:=by
   rw[d1,(dm _ _).1,(dm _ _).2];cases E t
   ·rfl
   show St.mk (O.drop n1).tail ((O.take n1).drop n2++(O.drop n1).head?.toList) G=_;rw[Ki,List.head?_drop,<-aaQ (by rw[nG,Nat.min_eq_left k];exact l2),<-aa2];rfl
  have e:(O.take m1).length=m1:=by rw[nG,d1];exact Nat.min_eq_left<|Nat.min_le_left _ _
  rw[s1];cases L t
  ·have d:=(dm (O.take m1) n2).1;rw[e] at d;show St.mk (O.drop m1) ((O.take m1).drop n2) G=⟨_,(O.take m1).drop<|min m1 n2,G++if n2<min m1 n2 then _ else []⟩;rw[if_neg<|Nat.not_lt.2<|Nat.min_le_right _ _,dM,d]
  have d:=(dm (O.take m1)<|n2+1).1;rw[e] at d;show St.mk (O.drop m1) ((O.take m1).drop n2).tail (G++(((O.take m1).drop n2).head?.map (t,·)).toList)=⟨_,(O.take m1).drop<|min m1<|n2+1,G++if n2<min m1 (n2+1) then _ else []⟩;rw[Ki,List.head?_drop,d];by_cases h:n2<m1
  ·rw[if_pos<|Nat.lt_min.2 ⟨h,Nat.lt_succ_self _⟩,List.getElem?_take_of_lt h]
  rw[if_neg<|λq=>h<|Nat.lt_of_lt_of_le q<|Nat.min_le_left _ _,B5<|by rw[e];exact Nat.le_of_not_lt h];rfl
end
section
theorem V5 (E:Nat->Bool)(t:Nat):cnt E (t+1)<=cnt E t+1:=by show cnt E t+(E t).toNat<=_;cases E t<;>simp
noncomputable def Tj (E:Nat->Bool)(r:Nat->Nat):Nat->Nat
 |0=>cnt E (r 0)|n+1=>max (Tj E r n+1) (cnt E (r (n+1)))
theorem mIq {a b c d e:Nat}(h:a<b↔c<d)(k:a<e):a<min e b↔c<d:=⟨λq=>h.1<|Nat.lt_of_lt_of_le q<|Nat.min_le_right _ _,λq=>Nat.lt_min.2 ⟨k,h.2 q⟩⟩
theorem Wd {X:Nat->Nat}{E:Nat->Bool}{r:Nat->Nat}{T:Nat}(hX:∀n t,t<T->(n<X (t+1)↔r n<=t)):∀t,t<=T->∀n,n<D1 X E t↔Tj E r n<cnt E t
 |0,_,n=>⟨λh=>absurd h<|zY _,λh=>absurd h<|zY _⟩|t+1,ht,n=>by
  have ih:=Wd (E:=E) hX t<|Nat.le_of_lt ht;have x:=hX n t ht;have d:D1 X E (t+1)=min (X<|t+1) (D1 X E t+(E t).toNat):=rfl;have c:cnt E (t+1)=cnt E t+(E t).toNat:=rfl;have mono:∀a b,a<=b->cnt E a<=cnt E b:=λa b h=>cnt_le E h;have late:t+1<=r n->cnt E (t+1)<=Tj E r n:=λh=>by have:=mono _ _ h;cases n with|zero=>exact this|succ n=>exact fC this<|Nat.le_max_right _ _
  have soon:r n<=t->cnt E (r n)<=cnt E t:=mono _ _;rw[d,c];by_cases hr:r n<=t
  ·have hx:=x.mpr hr;cases n with
   |zero=>
    have p:Tj E r 0=cnt E (r 0):=rfl;have i0:=ih 0;have:=soon hr;cases hE:E t with
    |false=>rw[hE] at *;simp only [aaM,aaL];exact mIq i0 hx|true=>rw[hE] at *;simp only [aaN];exact⟨λ_=>Nat.lt_succ_of_le<|p▸this,λ_=>Nat.lt_min.2 ⟨hx,Nat.succ_pos _⟩⟩
   |succ n=>have p:Tj E r (n+1)=max (Tj E r n+1) (cnt E<|r<|n+1):=rfl;have i0:=ih<|n+1;have i1:=ih n;have:=soon hr;cases hE:E t with|false=>rw[hE] at *;simp [aaM,aaL];exact mIq i0 hx|true=>rw[hE] at *;simp only [aaN];exact p▸⟨λq=>Nat.lt_succ_of_le<|Nat.max_le.2 ⟨i1.1<|Nat.lt_of_succ_lt_succ<|Nat.lt_of_lt_of_le q<|Nat.min_le_right _ _,this⟩,λq=>Nat.lt_min.2 ⟨hx,Nat.succ_lt_succ<|i1.2 (Nat.max_le.1<|Nat.le_of_lt_succ q).1⟩⟩
  have l:=late<|Nat.lt_of_not_le hr;have hx:¬n<X (t+1):=λh=>hr<|x.mp h;rw[c] at l;exact⟨λq=>absurd (Nat.lt_of_lt_of_le q<|Nat.min_le_left _ _) hx,λq=>absurd q<|Nat.not_lt.2 l⟩
noncomputable def hrs (E:Nat->Bool)(T:Nat):List Nat:=(aK T).filter E
theorem Tp (E:Nat->Bool)(T:Nat):hrs E (T+1)=hrs E T++(if E T then [T] else []):=by unfold hrs;rw[abK,aqP];congr 1;cases h:E T<;>simp [h]
theorem Tu (E:Nat->Bool):∀T,(hrs E T).length=cnt E T
 |0=>rfl|T+1=>by rw[Tp,dJ,Tu E T];show _=cnt E T+(E T).toNat;cases E T<;>rfl
theorem TK {E:Nat->Bool}{T h:Nat}(m:h∈hrs E T):h<T∧E h=true:=by unfold hrs at m;rwa[Ca,gz] at m
theorem TL (E:Nat->Bool){T t i:Nat}(h:t<T):i<cnt E (t+1)↔(hrs E T).getD i T<=t:=by
 obtain⟨b,rfl⟩:=Nat.exists_eq_add_of_le (show t+1<=T from h);have e:hrs E (t+1+b)=hrs E (t+1)++(fc (t+1) b).filter E:=by unfold hrs;rw[pW,pW,<-aqP,<-List.range'_append_1,lq]
 rw[e,<-Tu E (t+1),ed];by_cases q:i<(hrs E<|t+1).length
 ·rw[d2 q,bA q];exact⟨λ_=>Nat.le_of_lt_succ (TK<|Rs q).1,λ_=>q⟩
 rw[dT<|Nat.le_of_not_lt q];refine⟨λz=>absurd z q,λz=>absurd z<|Nat.not_le.2 ?_⟩;cases g:((fc (t+1) b).filter E)[i-(hrs E<|t+1).length]? with|none=>exact h|some y=>exact (aah.mp (Ca.mp<|c8 g).1).1
theorem WZ {A:Nat->Nat}{E L:Nat->Bool}{r:Nat->Nat}{T:Nat}(hA:∀n t,t<T->(n<A (t+1)↔r n<=t))(t:Nat)(ht:t<=T)(n:Nat):n<D2 A E L t↔Tj L (λn=>(hrs E T).getD (Tj E r n) T) n<cnt L t:=by exact Wd (λn t ht=>(Wd hA (t+1) (ah [_,_] (.lt .o .i<|.g 1 0<|.le (.a .o .j) .i) rfl ht) n).trans<|TL E ht) t ht n
end
section
noncomputable def lv (D:Nat->Nat):Nat->List Nat
 |0=>[]|t+1=>lv D t++(if D t<D (t+1) then [t] else [])
theorem D2_one (A:Nat->Nat)(E L:Nat->Bool)(t:Nat):D2 A E L (t+1)<=D2 A E L t+1:=by
 have h:(L t).toNat<=1:=by cases L t<;>simp
 exact ah [_,_,_,_] (.le .o (.a .i .u)<|.le .u .w<|.g 1 0<|.le .o<|.a .i .w) rfl (xx _ _) h
theorem TT {A:Nat->Nat}{E:Nat->Bool}(hA:∀t,A t<=A (t+1)):∀t,D1 A E t<=D1 A E (t+1)
 |0=>dQ _|t+1=>by have h1:D1 A E (t+1)<=A (t+1):=EW _ _;have h2:A (t+1)<=A (t+2):=hA<|t+1;show _<=min (A<|t+2) (D1 A E (t+1)+_);exact Nat.le_min.mpr ⟨by exact ah [_,_,_] (.le .o .i<|.le .i .u<|.g 1 0<|.le .o .u) rfl h1 h2,vH _ _⟩
theorem D2_step {A:Nat->Nat}{E L:Nat->Bool}(hA:∀t,A t<=A (t+1))(t:Nat):D2 A E L t<=D2 A E L (t+1):=by exact TT (TT hA) t
theorem Xd {A:Nat->Nat}{E L:Nat->Bool}{p:Nat->Nat}{T:Nat}(hA:∀t,A t<=A (t+1))(hp:∀t,t<=T->∀n,n<D2 A E L t↔p n<cnt L t):∀t,t<=T->lv (D2 A E L) t=(aK (D2 A E L t)).map (λn=>(hrs L T).getD (p n) T)
 |0,_=>rfl|t+1,ht=>by
  show lv _ t++_=_;rw[Xd hA hp t<|ah [_,_,_] (.le (.a .o .i) .u<|.g 1 0<|.le .o .u) rfl ht];have h1:=D2_one A E L t;have h2:=D2_step (E:=E) (L:=L) hA t;by_cases h:D2 A E L t<D2 A E L (t+1)
  ·have e:D2 A E L (t+1)=D2 A E L t+1:=by exact ah [_,_] (.c 0 1 (.lt .o .i)<|.le .i (.a .o .j)<|.g 1 1<|.eq .i<|.a .o .j) rfl h h1
   rw[if_pos h,e,abK,fU];congr 1;have b:=(TL L<|show t<T by lia).mp ((hp (t+1) ht<|D2 A E L t).mp<|by omega);have c:t<=(hrs L T).getD (p<|D2 A E L t) T:=by cases t with|zero=>exact dQ _|succ s=>refine Nat.lt_of_not_le λq=>?_;have:=(TL L<|show s<T by lia).mpr q;exact absurd ((hp (s+1) (ah [_,_,_] (.le (.a .o .i) .u<|.g 1 0<|.le .o .u) rfl ht) _).mpr this)<|J' _
   show [t]=[(hrs L T).getD (p<|D2 A E L t) T];rw[show (hrs L T).getD (p<|D2 A E L t) T=t by exact ah [_,_] (.le .o .i<|.c 0 1 (.le .i .o)<|.g 1 1<|.eq .o .i) rfl b c]
  have e:D2 A E L (t+1)=D2 A E L t:=by exact ah [_,_] (.c 0 1 (.le .o .i)<|.c 1 0 (.no<|.lt .o .i)<|.g 1 1<|.eq .i .o) rfl h2 h
  rw[if_neg h,e,dM]
noncomputable def less (xs:List Nat)(h:Nat):Nat:=(xs.filter (λx=>decide (x<h))).length
noncomputable def halfGo (early late:List Nat):List Nat->Nat->Nat->List Nat
 |[],_,_=>[]
 |h::hs,i,j=>
   let i:=max i (less early h)
   let j:=if i<early.length then max j (less late (early.getD i 0)) else late.length
   if j=late.length then [] else late.getD j 0::halfGo early late hs (i+1) (j+1)
theorem less_hrs (E:Nat->Bool){h:Nat}:∀{T},h<=T->less (hrs E T) h=cnt E h
 |0,e=>by obtain rfl:=aas.mp e;rfl|T+1,e=>by
  by_cases z:h=T+1
  ·subst z;rw[<-Tu E (T+1)];unfold less;rw[aaj.mpr<|λx hx=>decide_eq_true (TK hx).1]
  have ih:=less_hrs E (h:=h) (T:=T) (by lia);unfold less at *;rw[Tp,aqP,dJ,ih];cases E T
  ·rfl
  have:decide (T<h)=false:=decide_eq_false (by lia);simp [this]
theorem TU {E L:Nat->Bool}{r:Nat->Nat}{T:Nat}(hr:∀n,r n<=T):∀(k n i j:Nat),j<=cnt L T->max i (cnt E (r n))=Tj E r n->(max j (cnt L ((hrs E T).getD (Tj E r n) T))=Tj L (λn=>(hrs E T).getD (Tj E r n) T) n)->∃m,m<=k∧halfGo (hrs E T) (hrs L T) ((fc n k).map r) i j=(fc n m).map (λn=>(hrs L T).getD (Tj L (λn=>(hrs E T).getD (Tj E r n) T) n) T)∧(m<k->cnt L T<=Tj L (λn=>(hrs E T).getD (Tj E r n) T) (n+m))∧∀q,q<m->Tj L (λn=>(hrs E T).getD (Tj E r n) T) (n+q)<cnt L T
 |0,n,i,j,_,_,_=>⟨0,aG _,rfl,λh=>absurd h<|J' _,λq h=>absurd h<|zY _⟩|k+1,n,i,j,hl,hi,hj=>by
  have lE:=Tu E T;have lL:=Tu L T;rw[mO,eC];unfold halfGo;rw[less_hrs E<|hr n,hi];dsimp only;have key:(if Tj E r n<(hrs E T).length then max j (less (hrs L T)<|(hrs E T).getD (Tj E r n) 0) else (hrs L T).length)=
   (if Tj E r n<cnt E T then Tj L (λn=>(hrs E T).getD (Tj E r n) T) n else cnt L T):=by
   rw[lE,lL];by_cases h:Tj E r n<cnt E T
   ·rw[if_pos h,if_pos h];have g:(hrs E T)[Tj E r n]?=some ((hrs E T)[Tj E r n]'(Nat.lt_of_lt_of_eq h lE.symm)):=bA<|Nat.lt_of_lt_of_eq h lE.symm;have e0:(hrs E T).getD (Tj E r n) 0=(hrs E T)[Tj E r n]'(Nat.lt_of_lt_of_eq h lE.symm):=by rw[ed,g];rfl
    have eT:(hrs E T).getD (Tj E r n) T=(hrs E T)[Tj E r n]'(Nat.lt_of_lt_of_eq h lE.symm):=by rw[ed,g];rfl
    rw[e0,less_hrs L<|Ff (TK<|Rs _).1,<-eT,hj]
   rw[if_neg h,if_neg h]
  rw[key];have big:¬Tj E r n<cnt E T->cnt L T<=Tj L (λn=>(hrs E T).getD (Tj E r n) T) n:=λh=>by
   have e:(hrs E T).getD (Tj E r n) T=T:=by rw[ed,B5<|by rw[lE];exact Nat.le_of_not_lt h];rfl
   rw[<-hj,e];exact Nat.le_max_right _ _
  by_cases h:Tj L (λn=>(hrs E T).getD (Tj E r n) T) n<cnt L T
  ·have hE:Tj E r n<cnt E T:=Decidable.byContradiction λz=>by have:=big z;exact absurd h<|Nat.not_lt.2 this
   rw[if_pos hE,lL,if_neg<|Nat.ne_of_lt h];obtain⟨m,hm,e,b,s⟩:=TU hr k (n+1) (Tj E r n+1) (Tj L (λn=>(hrs E T).getD (Tj E r n) T) n+1) h rfl rfl;refine⟨m+1,Nat.succ_le_succ hm,?_,λhq=>?_,λq hq=>?_⟩
   ·rw[e,mO,eC];congr 1;rw[ed,ed,bA<|by rw[lL];exact h];rfl
   ·have:=b<|Nat.lt_of_succ_lt_succ hq;rwa[show n+(m+1)=n+1+m from Nat.add_right_comm n m 1]
   cases q with|zero=>exact h|succ q=>rw[show n+(q+1)=n+1+q from Nat.add_right_comm n q 1];exact s q<|Nat.lt_of_succ_lt_succ hq
  refine⟨0,dQ _,?_,λ_=>by exact Nat.le_of_not_lt h,λq hq=>absurd hq<|zY _⟩;by_cases hE:Tj E r n<cnt E T
  ·rw[if_pos hE,lL];have u:Tj L (λn=>(hrs E T).getD (Tj E r n) T) n=cnt L T:=by
    have g:(hrs E T)[Tj E r n]?=some ((hrs E T)[Tj E r n]'(Nat.lt_of_lt_of_eq hE lE.symm)):=bA<|Nat.lt_of_lt_of_eq hE lE.symm;have eT:(hrs E T).getD (Tj E r n) T=(hrs E T)[Tj E r n]'(Nat.lt_of_lt_of_eq hE lE.symm):=by rw[ed,g];rfl
    exact Nat.le_antisymm (hj▸Nat.max_le.2 ⟨hl,cnt_le L<|show (hrs E T).getD (Tj E r n) T<=T by rw[eT];exact Ff (TK<|Rs _).1⟩)<|Nat.le_of_not_lt h
   rw[if_pos u];rfl
  rw[if_neg hE,lL,if_pos rfl];rfl
end
section
theorem Ty:∀{hs:List Nat},hs.Pairwise (·<=·)->∀n t T,t<T->(n<less hs (t+1)↔hs.getD n T<=t)
 |[],_,n,t,T,h=>by show n<0↔([].getD n T)<=t;simp;omega|x::xs,s,n,t,T,h=>by
  have ih:=Ty (aaO.mp s).2;have le:=(aaO.mp s).1;by_cases hx:x<t+1
  ·have e:less (x::xs) (t+1)=less xs (t+1)+1:=by unfold less;rw[sR,if_pos<|decide_eq_true hx];rfl
   rw[e];cases n with|zero=>simp;exact ah [_,_] (.lt .o (.a .i .j)<|.g 1 0<|.le .o .i) rfl hx|succ n=>have:=ih n t T h;show _↔xs.getD n T<=t;lia
  have z:∀ys:List Nat,(∀y∈ys,t+1<=y)->less ys (t+1)=0:=λys hy=>by unfold less;rw[aac.mpr (λy m=>by have:=hy y m;simp;omega)];rfl
  have all:∀y∈x::xs,t+1<=y:=λy m=>by
   rcases pO.mp m with rfl|m
   ·exact ah [_,_] (.c 1 0 (.no<|.lt .o .i)<|.g 1 0<|.le .i .o) rfl hx
   have:=le y m;exact ah [_,_,_] (.le .o .i<|.c 1 0 (.no<|.lt .o .u)<|.g 1 0<|.le .u .i) rfl this hx
  rw[z _ all];refine⟨λh=>absurd h<|zY _,λq=>?_⟩;rw[ed] at q;cases g:(x::xs)[n]? with|none=>rw[g] at q;exact absurd (show T<=t from q) (ah [_,_] (.lt .o .i<|.g 1 0<|.no<|.le .i .o) rfl h)|some y=>rw[g] at q;have:=all y<|c8 g;exact absurd (show y<=t from q)<|ah [_,_] (.le (.a .o .j) .i<|.g 1 0<|.no<|.le .i .o) rfl this
theorem less_mono (hs:List Nat)(t:Nat):less hs t<=less hs (t+1):=by
 unfold less;induction hs with
 |nil=>exact aG _|cons x xs ih=>
  rw[sR,sR];by_cases h:x<t
  ·rw[if_pos<|decide_eq_true h,if_pos<|decide_eq_true<|show x<t+1 by lia];exact z4 ih
  rw[if_neg<|by simpa using h];by_cases k:x<t+1
  ·rw[if_pos<|decide_eq_true k];exact Fa ih
  rwa[if_neg<|by simpa using k]
theorem less_zero (hs:List Nat):less hs 0=0:=by unfold less;rw[aac.mpr<|λy _=>by simp];rfl
theorem half_leaves {E L:Nat->Bool}{hs:List Nat}{T:Nat}(s:hs.Pairwise (·<=·))(b:∀x∈hs,x<T):halfGo (hrs E T) (hrs L T) hs 0 0=lv (D2 (less hs) E L) T:=by
 have hr:∀n,hs.getD n T<=T:=λn=>by rw[ed];cases g:hs[n]? with|none=>exact aG _|some y=>exact Ff<|b y<|c8 g
 have hA:∀n t,t<T->(n<less hs (t+1)↔(λn=>hs.getD n T) n<=t):=λn t h=>Ty s n t T h;have hs':hs=(fc 0 hs.length).map (λn=>hs.getD n T):=by
  apply Ku
  ·simp
  intro i h1 h2;simp [h1]
 obtain⟨m,hm,e,bb,q⟩:=TU (E:=E) hr hs.length 0 0 0 (dQ _) (Nat.max_eq_right<|dQ _)<|Nat.max_eq_right<|dQ _;have iff:=WZ (E:=E) (L:=L) hA;rw[Xd (less_mono hs) iff T<|aG _];have c:D2 (less hs) E L T=m:=by
  apply abh
  ·refine Q0 λh=>?_;have x:=(iff T (aG _) m).mp h;by_cases z:m<hs.length
   ·have:=bb z;rw[lq] at this;exact ah [_,_] (.lt .o .i<|.le .i .o<|.g 0 0 .f) rfl x this
   have u:D2 (less hs) E L T<=less hs T:=fC (D2_le T)<|D1_le (less_zero hs) T;have v:less hs T<=hs.length:=abZ _ _;exact ah [_,_,_,_] (.lt .o .i<|.le .i .u<|.le .u .w<|.c 1 0 (.no<|.lt .o .w)<|.g 0 0 .f) rfl h u v z
  refine Q0 λh=>?_;have x:=q (D2 (less hs) E L T) h;rw[lq] at x;exact absurd ((iff T (aG _) _).mpr x)<|J' _
 have g:halfGo (hrs E T) (hrs L T) hs 0 0=halfGo (hrs E T) (hrs L T) ((fc 0 hs.length).map<|λn=>hs.getD n T) 0 0:=by rw[<-hs']
 rw[g,e,c,pW]
theorem UM {D D':Nat->Nat}(h:∀t,D t=D' t):∀t,lv D t=lv D' t:=λt=>by rw[funext h]
theorem TV {E L:Nat->Bool}{p T:Nat}{hs:List Nat}(H:XH E L p)(s:hs.Pairwise (·<=·))(b:∀x∈hs,x<T):halfGo (hrs (on E p) T) (hrs (off L p) T) hs 0 0=halfGo (hrs E T) (hrs L T) hs 0 0:=by rw[half_leaves s b,half_leaves s b];exact UM (V2 (less_zero hs) (less_mono hs) H) T
end
section
noncomputable def marks (e l:Nat):List (Bool×Nat):=(aK 6).flatMap λh=>(if e.testBit h then [(true,h)] else [])++(if l.testBit h then [(false,h)] else [])
noncomputable def closeAt:List Bool->Nat->Nat->Option Nat
 |[],_,_=>none|true::r,d,i=>closeAt r (d+1) (i+1)|false::r,d,i=>if d==1 then some i else closeAt r (d-1) (i+1)
noncomputable def pairs (w:List Bool):List (Nat×Nat):=(aK w.length).filterMap λp=>match w.drop p with
 |true::r=>(closeAt r 1 (p+1)).map λq=>(p,q)|_=>none
noncomputable def mates (w:List Bool):List Nat:=(pairs w).flatMap λx=>[x.1,x.2]
structure Br where
 fore:List Nat
 aft:List Nat
 spare:List Nat
 k0:Nat
noncomputable def br (e l:Nat):Br:=
 let m:=marks e l
 let ma:=mates (m.map (·.1))
 let ks:=(aK m.length).zip m
 ⟨(ks.filter λx=>ma.contains x.1&&x.2.1).map (·.2.2),(ks.filter λx=>ma.contains x.1&& !x.2.1).map (·.2.2),(ks.filter λx=> !ma.contains x.1).map (·.2.2),(ks.filter λx=> !ma.contains x.1&& !x.2.1).length⟩
noncomputable def up:List Nat->Bool
 |a::b::r=>ft a b&&up (b::r)|_=>true
noncomputable def Tk (xs:List Nat)(h:Nat):Nat:=xs.foldr (λx n=>if ft x h then n+1 else n) 0
noncomputable def XK (e l:Nat)(b:Br):Bool:=up b.fore&&up b.aft&&up b.spare&&(b.fore++b.aft).all (λx=>ft x 6)&&nA b.k0 b.spare.length&&(aK 7).all (λh=>nA (Tk b.aft h) (Tk b.fore h))&&b.spare.all (λp=>bT (Tk b.aft p) (Tk b.fore p)&&bT (Tk b.aft (p+1)) (Tk b.fore (p+1))&& !b.fore.contains p&& !b.aft.contains p&&ft p 6)&&(aK 6).all (λh=>(e.testBit h==(b.fore.contains h||(b.spare.drop b.k0).contains h))&&(l.testBit h==(b.aft.contains h||(b.spare.take b.k0).contains h)))
noncomputable def chk (e l:Nat):Bool:=XK e l (br e l)
noncomputable def V1 (i:Nat):Bool:=(fc (8*i) 8).all λe=>(aK 64).all λl=>chk e l
theorem c0:V1 0=true:=by decide +kernel
theorem c1:V1 1=true:=by decide +kernel
theorem c2:V1 2=true:=by decide +kernel
theorem c3:V1 3=true:=by decide +kernel
theorem c4:V1 4=true:=by decide +kernel
theorem c5:V1 5=true:=by decide +kernel
theorem c6:V1 6=true:=by decide +kernel
theorem c7:V1 7=true:=by decide +kernel
theorem XI:∀i,i<8->V1 i=true
 |0,_=>c0|1,_=>c1|2,_=>c2|3,_=>c3|4,_=>c4|5,_=>c5|6,_=>c6|7,_=>c7|n+8,h=>absurd h<|ah [_,_] (.g 1 0<|.no<|.lt (.a .o .i) .i) rfl
theorem chk_all {e l:Nat}(he:e<64)(hl:l<64):chk e l=true:=by exact dI.mp (dI.mp (XI (e/8)<|ah [_,_] (.le (.m 8 .i) .o<|.lt .o (.n 64)<|.g 8 0<|.lt .i<|.n 8) rfl (Nat.mul_div_le _ 8) he) e<|aah.mpr ⟨by exact ah [_,_] (.le (.m 8 .i) .o<|.g 1 0<|.le (.m 8 .i) .o) rfl (Nat.mul_div_le _ 8),by exact ah [_,_] (.lt .o (.a (.m 8 .i)<|.n 8)<|.g 1 0<|.lt .o<|.a (.m 8 .i)<|.n 8) rfl (fD _ 8 rfl)⟩) l<|gz.mpr hl
end
section
theorem blt_iff {a b:Nat}:ft a b=true↔a<b:=by rw[Nat.blt_eq]
theorem Tm (x:Nat)(xs:List Nat)(h:Nat):Tk (x::xs) h=Tk xs h+(if x<h then 1 else 0):=by
 show (if ft x h=true then Tk xs h+1 else Tk xs h)=_;by_cases z:x<h
 ·rw[if_pos<|blt_iff.mpr z,if_pos z]
 rw[if_neg<|λq=>z<|blt_iff.mp q,if_neg z];rfl
noncomputable def has (xs:List Nat)(h:Nat):Bool:=xs.contains h
theorem up_cons {a:Nat}{xs:List Nat}(h:up (a::xs)=true):up xs=true∧∀x∈xs,a<x:=by
 induction xs generalizing a with
 |nil=>exact⟨rfl,λx m=>nomatch m⟩|cons b r ih=>
  have h:=(bz _ _).mp h;refine⟨h.2,λx m=>?_⟩;have ab:=blt_iff.mp h.1;rcases pO.mp m with rfl|m
  ·exact ab
  exact xu ab<|(ih h.2).2 x m
theorem Tn:∀{xs:List Nat},up xs=true->∀t,cnt (has xs) t=Tk xs t
 |[],_,t=>by
  induction t with
  |zero=>rfl|succ t ih=>show cnt _ t+_=0;rw[ih];rfl
 |x::xs,u,t=>by
  have uc:=up_cons u;rw[Tm,<-Tn uc.1 t];have n:has xs x=false:=by exact Q9.mpr λq=>absurd (uc.2 x<|ap9.mp q)<|J' _
  have e:has (x::xs)=on (has xs) x:=funext λh=>by unfold has on;rw[List.contains_cons,Bool.or_comm]
  rw[e,TR n]
end
section
theorem TM {E F:Nat->Bool}(d:∀h,E h=true->F h=false):∀t,cnt (λh=>E h||F h) t=cnt E t+cnt F t
 |0=>rfl|t+1=>by show cnt _ t+(E t||F t).toNat=cnt E t+(E t).toNat+(cnt F t+(F t).toNat);rw[TM d t];cases h:E t with|false=>simp;exact ah [_,_,_] (.g 1 1<|.eq (.a (.a .o .i) .u)<|.a .o<|.a .i .u) rfl|true=>rw[d t h];simp;exact ah [_,_,_] (.g 1 1<|.eq (.a (.a .o .i) .u)<|.a (.a .o .u) .i) rfl
theorem TW:∀{xs:List Nat} k,up xs=true->up (xs.drop k)=true
 |_,0,h=>h|[],_+1,h=>h|_::_,k+1,h=>TW k (up_cons h).1
theorem TX:∀{xs:List Nat} k,up xs=true->up (xs.take k)=true
 |_,0,_=>by simp [up]|[],_+1,h=>h|[_],k+1,_=>by cases k<;>simp [up]|a::b::r,1,_=>rfl|a::b::r,k+2,h=>by have h2:=(bz _ _).mp h;exact (bz _ _).mpr ⟨h2.1,TX (xs:=b::r) (k+1) h2.2⟩
theorem has_mem {xs:List Nat}{h:Nat}:has xs h=true↔h∈xs:=ap9
theorem not_has {xs:List Nat}{h:Nat}:has xs h=false↔h∉xs:=by rw[<-has_mem];cases has xs h<;>simp
theorem Tz (xs:List Nat){a b:Nat}(h:a<=b):Tk xs a<=Tk xs b:=by
 induction xs with
 |nil=>exact aG _|cons x xs ih=>
  rw[Tm,Tm];by_cases q:x<a
  ·rw[if_pos q,if_pos<|by lia];exact ah [_,_,_] (.le .o .i<|.g 1 0<|.le (.a .o .u)<|.a .i .u) rfl ih
  rw[if_neg q];exact ah [_,_,_] (.le .o .i<|.g 1 0<|.le (.a .o .k)<|.a .i .u) rfl ih
theorem Tv {xs:List Nat}{b:Nat}(h:∀x∈xs,b<=x):Tk xs b=0:=by induction xs with|nil=>rfl|cons x xs ih=>rw[Tm,ih<|λy m=>h y<|.tail _ m,if_neg (by have:=h x<|.head _;exact ah [_,_] (.le .o .i<|.g 1 0<|.no<|.lt .i .o) rfl this)]
theorem To {xs:List Nat}{b:Nat}(h:∀x∈xs,x<b):Tk xs b=xs.length:=by induction xs with|nil=>rfl|cons x xs ih=>rw[Tm,ih<|λy m=>h y<|.tail _ m,if_pos<|h x<|.head _];rfl
theorem T1 (xs:List Nat)(b:Nat):Tk xs b<=xs.length:=by induction xs with|nil=>exact aG _|cons x xs ih=>rw[Tm,dO];split<;>lia
structure Good (f a s:List Nat):Prop where
 uf:up f=true
 ua:up a=true
 us:up s=true
 le:∀b,Tk a b<=Tk f b
 at0:∀p∈s,Tk a p=Tk f p
 at1:∀p∈s,Tk a (p+1)=Tk f (p+1)
 nf:∀p∈s,p∉f
 na:∀p∈s,p∉a
noncomputable def Ek (f s:List Nat)(k:Nat)(h:Nat):Bool:=has f h||has (s.drop k) h
noncomputable def Lk (a s:List Nat)(k:Nat)(h:Nat):Bool:=has a h||has (s.take k) h
theorem TN {f a s:List Nat}(G:Good f a s)(k t:Nat):cnt (Ek f s k) t=Tk f t+Tk (s.drop k) t:=by rw[<-Tn G.uf,<-Tn (TW k G.us)];exact TM (λh m=>not_has.mpr λq=>G.nf h (Sa q)<|has_mem.mp m) t
theorem TO {f a s:List Nat}(G:Good f a s)(k t:Nat):cnt (Lk a s k) t=Tk a t+Tk (s.take k) t:=by rw[<-Tn G.ua,<-Tn (TX k G.us)];exact TM (λh m=>not_has.mpr λq=>G.na h (B4 q)<|has_mem.mp m) t
theorem TA:∀{xs:List Nat} {k p},up xs=true->xs[k]?=some p->(∀x∈xs.take k,x<p)∧∀x∈xs.drop (k+1),p<x
 |[],k,p,_,h=>by simp at h|x::xs,0,p,u,h=>by
  obtain rfl:x=p:=by simpa using h
  exact⟨by simp,by simpa using (up_cons u).2⟩
 |x::xs,k+1,p,u,h=>by
  have ih:=TA (up_cons u).1 (by simpa using h);refine⟨λy m=>?_,λy m=>ih.2 y<|by simpa using m⟩;rw[RV] at m;rcases pO.mp m with rfl|m
  ·exact (up_cons u).2 p (c8<|by simpa using h)
  exact ih.1 y m
theorem T2 {f a s:List Nat}{k p:Nat}(G:Good f a s)(hp:s[k]?=some p):XH (Ek f s (k+1)) (Lk a s (k+1)) p:=by
 have sp:=TA G.us hp;have m:=c8 hp;have hk:=(bV.mp hp).1;have tk:s.take (k+1)=s.take k++[p]:=by rw[aa2,hp];rfl
 refine⟨?_,?_,λb hb=>?_,λb hb=>?_⟩
 ·show (has f p||has _ p)=false;rw[not_has.mpr<|G.nf p m,not_has.mpr<|λq=>J' _<|sp.2 p q];rfl
 ·show (has a p||has _ p)=true;rw[has_mem.mpr (show p∈s.take (k+1) by rw[tk];simp),abf]
 ·rw[TN G,TN G,TO G,TO G,Tv<|λx q=>Ff<|sp.2 x q,Tv (xs:=s.drop<|k+1) (λx q=>by have:=sp.2 x q;exact ah [_,_,_] (.lt .o .i<|.le .u .o<|.g 1 0<|.le .u .i) rfl this hb)];have h1:=G.at0 p m;have h2:=G.le b;have h3:=Tz (s.take<|k+1) hb;exact ah [_,_,_,_,_,_] (.c (-1) 0 (.eq .o .i)<|.le .u .w<|.le .x .y<|.g 1 0<|.le (.a (.a .i .k)<|.a .u .x)<|.a (.a .w .k)<|.a .o .y) rfl h1 h2 h3
 rw[TN G,TN G,TO G,TO G];have h1:=G.at1 p m;have h2:=G.le b;have h3:=Tz (s.drop<|k+1) (show p+1<=b by lia);have h4:Tk (s.take<|k+1) (p+1)=(s.take<|k+1).length:=To λx q=>by
  rw[tk] at q;rcases f7.mp q with q|q
  ·have:=sp.1 x q;exact ah [_,_] (.lt .o .i<|.g 1 0<|.lt .o<|.a .i .j) rfl this
  have:x=p:=by simpa using q
  exact ah [_,_] (.eq .o .i<|.g 1 0<|.lt .o<|.a .i .j) rfl this
 have h5:=T1 (s.take<|k+1) b;exact ah [_,_,_,_,_,_,_,_,_] (.c (-1) 0 (.eq .o .i)<|.c (-1) 0 (.eq .u .w)<|.le .x .i<|.le .y (.v 6)<|.le (.v 7) (.v 8)<|.g 1 0<|.le (.a (.a .w .y)<|.a (.v 7) .x)<|.a (.a (.v 8)<|.v 6)<|.a .u .o) rfl h4 h1 h5 h3 h2
theorem XJ {f s:List Nat}{k p:Nat}(hp:s[k]?=some p):Ek f s k=on (Ek f s (k+1)) p:=by funext h;have hk:=(bV.mp hp);unfold Ek on has;rw[Ky hk.1,hk.2,List.contains_cons];show(_||(_||_))=((_||_)||_);generalize f.contains h=x;generalize (h==p)=y;generalize (rq (k+1) s).contains h=z;cases x<;>cases y<;>cases z<;>rfl
theorem XD {f a s:List Nat}{k p:Nat}(G:Good f a s)(hp:s[k]?=some p):Lk a s k=off (Lk a s (k+1)) p:=by
 funext h;have m:=c8 hp;have tk:s.take (k+1)=s.take k++[p]:=by rw[aa2,hp];rfl
 unfold Lk off;by_cases e:h=p
 ·subst e;rw[not_has.mpr<|G.na h m,not_has.mpr<|λq=>J' _<|(TA G.us hp).1 h q];simp
 have:has (s.take<|k+1) h=has (s.take k) h:=by rw[tk];unfold has;rw[aaJ,List.any_append,<-aaJ];simp [e]
 show _=((has a h||has (s.take<|k+1) h)&& !(h==p));rw[this];simp [e]
theorem TJ {f a s hs:List Nat}{T:Nat}(G:Good f a s)(o:hs.Pairwise (·<=·))(b:∀x∈hs,x<T):∀k,k<=s.length->halfGo (hrs (Ek f s k) T) (hrs (Lk a s k) T) hs 0 0=halfGo (hrs (Ek f s 0) T) (hrs (Lk a s 0) T) hs 0 0
 |0,_=>rfl|k+1,h=>by have hp:s[k]?=some s[k]:=bA<|ah [_,_] (.le (.a .o .j) .i<|.g 1 0<|.lt .o .i) rfl h;rw[<-TJ G o b k (ah [_,_,_] (.le (.a .o .i) .u<|.g 1 0<|.le .o .u) rfl h),XJ hp,XD G hp];exact (TV (T2 G hp) o b).symm
end
section
theorem good_br {e l:Nat}(h:chk e l=true):Good (br e l).fore (br e l).aft (br e l).spare∧(br e l).k0<=(br e l).spare.length∧(∀x∈(br e l).fore++(br e l).aft++(br e l).spare,x<6)∧∀t,t<6->e.testBit t=Ek (br e l).fore (br e l).spare (br e l).k0 t∧l.testBit t=Lk (br e l).aft (br e l).spare (br e l).k0 t:=by
 unfold chk XK at h;generalize br e l=b at *;simp only [bz] at h;obtain⟨⟨⟨⟨⟨⟨⟨u1,u2⟩,u3⟩,six⟩,hk⟩,le⟩,sp⟩,bits⟩:=h;have six:∀x∈b.fore++b.aft,x<6:=λx m=>blt_iff.mp<|dI.mp six x m;have le6:∀t,t<7->Tk b.aft t<=Tk b.fore t:=λt q=>lj<|dI.mp le t<|gz.mpr q;have sp:∀p∈b.spare,Tk b.aft p=Tk b.fore p∧Tk b.aft (p+1)=Tk b.fore (p+1)∧p∉b.fore∧p∉b.aft∧p<6:=λp m=>by have:=dI.mp sp p m;simp only [bz,E0] at this;obtain⟨⟨⟨⟨a1,a2⟩,a3⟩,a4⟩,a5⟩:=this;exact⟨mP a1,mP a2,not_has.mp a3,not_has.mp a4,blt_iff.mp a5⟩
 have le:=λt=>by
  by_cases q:t<7
  ·exact le6 t q
  rw[To λx m=>by have:=six x<|f7.mpr<|.inr m;lia,To λx m=>by have:=six x<|f7.mpr<|.inl m;lia];have:=le6 6<|ah [] (.g 1 0<|.lt (.n 6)<|.n 7) rfl;rwa[To λx m=>six x<|f7.mpr<|.inr m,To λx m=>six x<|f7.mpr<|.inl m] at this
 refine⟨⟨u1,u2,u3,le,λp m=>(sp p m).1,λp m=>(sp p m).2.1,λp m=>(sp p m).2.2.1,λp m=>(sp p m).2.2.2.1⟩,lj hk,λx m=>?_,λt q=>?_⟩
 ·rcases f7.mp m with m|m
  ·exact six x m
  exact (sp x m).2.2.2.2
 have:=dI.mp bits t<|gz.mpr q;have:=(bz _ _).mp this;exact⟨beq_iff_eq.mp this.1,beq_iff_eq.mp this.2⟩
theorem hrs_congr {E F:Nat->Bool}:∀{T},(∀t,t<T->E t=F t)->hrs E T=hrs F T
 |0,_=>rfl|T+1,h=>by rw[Tp,Tp,hrs_congr (λt q=>h t<|by lia),h T<|by lia]
theorem weber {e l:Nat}(he:e<64)(hl:l<64){hs:List Nat}(o:hs.Pairwise (·<=·))(b:∀x∈hs,x<6){k:Nat}(hk:k<=(br e l).spare.length):halfGo (hrs (Ek (br e l).fore (br e l).spare k) 6) (hrs (Lk (br e l).aft (br e l).spare k) 6) hs 0 0=lv (D2 (less hs) e.testBit l.testBit) 6:=by obtain⟨G,k0,_,bits⟩:=good_br<|chk_all he hl;rw[TJ G o b k hk,<-TJ G o b _ k0,<-hrs_congr (λt q=>(bits t q).1),<-hrs_congr (λt q=>(bits t q).2)];exact half_leaves o b
end
section
noncomputable def crowd:List Nat:=[0,0,0,0,0,0]
theorem TQ (t:Nat):less crowd (t+1)=6:=by rfl
theorem XG (E:Nat->Bool):∀t,cnt E t<=t
 |0=>aG _|t+1=>by have:=XG E t;have:=V5 E t;exact ah [_,_,_,_] (.le .o (.a .i .u)<|.le .i .w<|.g 1 0<|.le .o<|.a .w .u) rfl this (by assumption)
theorem TP (E:Nat->Bool):∀t,t<=6->D1 (less crowd) E t=cnt E t
 |0,_=>rfl|t+1,h=>by show min (less crowd<|t+1) (D1 (less crowd) E t+(E t).toNat)=_;rw[TQ,TP E t<|ah [_,_,_] (.le (.a .o .i) .u<|.g 1 0<|.le .o .u) rfl h];have:=XG E<|t+1;show min 6 (cnt E<|t+1)=_;lia
noncomputable def op (P R:Nat->Bool):Nat->Nat
 |0=>0|t+1=>if P t then op P R t+1 else if R t then op P R t-1 else op P R t
theorem crowd_eq {f a s:List Nat}{P R:Nat->Bool}(G:Good f a s)(hP:∀h,P h=true->h∈s∧R h=false)(hR:∀h,R h=true->h∈s):∀t,t<=6->D2 (less crowd) (λh=>has f h||P h) (λh=>has a h||R h) t+op P R t=Tk a t+cnt P t∧lv (D2 (less crowd) (λh=>has f h||P h) (λh=>has a h||R h)) t=hrs (λh=>has a h||(R h&&ft 0 (op P R h))) t
 |0,_=>⟨by rw[Tv<|λx _=>dQ x];rfl,rfl⟩|t+1,ht=>by
  obtain⟨ih,il⟩:=crowd_eq G hP hR t<|Nat.le_of_lt ht;have d:D2 (less crowd) (λh=>has f h||P h) (λh=>has a h||R h) (t+1)=min (D1 (less crowd) (λh=>has f h||P h)<|t+1) (D2 (less crowd) (λh=>has f h||P h) (λh=>has a h||R h) t+(has a t||R t).toNat):=rfl;rw[TP _ _ ht,TM (λh m=>by
   cases q:P h with
   |false=>rfl|true=>exact absurd (has_mem.mp m)<|G.nf h (hP h q).1)<|t+1,Tn G.uf] at d
  have ba:Tk a (t+1)=Tk a t+(has a t).toNat:=by rw[<-Tn G.ua,<-Tn G.ua];rfl
  have l1:=G.le<|t+1;have c:cnt P (t+1)=cnt P t+(P t).toNat:=rfl;have o:op P R (t+1)=if P t then op P R t+1 else if R t then op P R t-1 else op P R t:=rfl
  show _∧lv (D2 _ _ _) t++(if D2 _ _ _ t<_ then [t] else [])=_;rw[il,Tp,d,o,ba];rw[ba] at l1;clear il d o;generalize D2 (less crowd) (λh=>has f h||P h) (λh=>has a h||R h) t=X at *;generalize hrs (λh=>has a h||(R h&&ft 0 (op P R h))) t=H;cases ha:has a t with
  |true=>have m:=has_mem.mp ha;have p0:P t=false:=Bool.eq_false_iff.2 λq=>G.na t (hP t q).1 m;have r0:R t=false:=Bool.eq_false_iff.2 λq=>G.na t (hR t q) m;rw[ha] at l1;rw[c,p0,r0];have hm:X+1<=Tk f (t+1)+cnt P t:=fC (show X+1<=Tk a t+1+cnt P t by rw[Nat.add_right_comm _ 1,<-ih];exact Nat.succ_le_succ<|vH _ _)<|Nat.add_le_add_right l1 _;show min _ (X+1)+_=_∧H++(if X<min _ (X+1) then [t] else [])=H++[t];rw[show Tk f (t+1)+(cnt P t+false.toNat)=Tk f (t+1)+cnt P t from rfl,Nat.min_eq_right hm,if_pos<|Nat.lt_succ_self X];exact⟨ah [_,_,_,_] (.c 1 (-1) (.eq (.a .o .i)<|.a .u .w)<|.g 1 1<|.eq (.a (.a .o .j) .i)<|.a (.a .u .j)<|.a .w .k) rfl ih,rfl⟩|false=>
   rw[ha] at ba;cases hr:R t with
   |true=>
    have p0:P t=false:=Bool.eq_false_iff.2 λq=>nB' ((hP t q).2.symm.trans hr).symm;rw[c,p0,<-G.at1 t (hR t hr),ba];show min (Tk a t+cnt P t) (X+1)+(op P R t-1)=Tk a t+cnt P t∧H++(if X<min (Tk a t+cnt P t) (X+1) then [t] else [])=H++(if ft 0 (op P R t)=true then [t] else []);rw[<-ih];generalize op P R t=k;cases k with
    |zero=>rw[Nat.min_eq_left<|Nat.le_succ<|X+0,show (if X<X+0 then [t] else [])=[] from if_neg<|J' X];exact⟨rfl,rfl⟩|succ k=>rw[Nat.min_eq_right<|Nat.add_le_add_left (Nat.succ_le_succ<|dQ k) X,if_pos<|Nat.lt_succ_self X];exact⟨Nat.add_right_comm X 1 k,rfl⟩
   |false=>
    rw[ha] at l1;have hm:X<=Tk f (t+1)+cnt P (t+1):=fC (fC (vH X _)<|Nat.le_of_eq ih)<|Nat.add_le_add l1<|cnt_le P<|Nat.le_succ t;show min _ X+_=_∧H++(if X<min _ X then [t] else [])=H++[];rw[Nat.min_eq_right hm,if_neg<|J' _,c];refine⟨?_,rfl⟩;cases P t
    ·exact ih
    exact congrArg Nat.succ ih
end
end Q
section
set_option genInjectivity true in
inductive CV where|none|bool (b:Bool)|int (i:Int)|str (s:Str)|ab (n:Nat)|cB (xs:List CV)|sl (xs:List CV)|fW (a b c:Int)|aH (a:ai)|bi (id:String)|ty (n:String)|any
 deriving Inhabited
noncomputable def CV.ctorIdx (x:CV):Nat:=CV.casesOn x 0 (λx=>1) (λx=>2) (λx=>3) (λx=>4) (λx=>5) (λx=>6) (λx x x=>7) (λx=>8) (λx=>9) (λx=>10) 11
inductive ae where|list (xs:List CV)|frame (vars:List (Str×CV))|cell (v:Option CV)|bE (C:ai) (d:Nat)|bt (es:List (Str×CV))|map (es:List (Str×CV))|d3 (params:pL) (body:aq) (scope:d8) (cells:List (Str×Nat)) (dict:Option Nat)|bg (f:ai) (qf:Nat)|jf (f:Nat) (Ah:Str)|mR|ki (x:Str) (i:Nat)|gc (n:Nat) (i:Nat)|iz|qg
 deriving Inhabited
noncomputable def ae.ctorIdx (x:ae):Nat:=ae.casesOn x (λx=>0) (λx=>1) (λx=>2) (λx x=>3) (λx=>4) (λx=>5) (λx x x x x=>6) (λx x=>7) (λx x=>8) 9 (λx x=>10) (λx x=>11) 12 13
structure Cx where
 prog:q9
 w:pM
 K:Frag
 p:q9
 loose:List Str
 acF:ExcName->Option an
 mg:Str->Option an
 mb:Str->Option an
 H:bf
 cU:List (ai×ai)
structure um where
 w:pM
 s:az
 mg:Str->Option an
 mb:Str->Option an
 lo:List Str
 me:ExcName->Option an
 Ai:ai
 vs:List an
 zs:List Int
structure um.Ok (e:um):Prop where
 hT:TabsAt ul e.s.heap
 fw:Top topProg e.lo e.me e.mg e.mb (ghostOf e.s.heap ul)
 KI:(kF e.w.params).In (ghostOf e.s.heap ul)
 hL:e.s.heap.IsList e.Ai e.vs.toArray
 hI:IntsAre e.vs e.zs
 hz:e.zs.length<=63
 tk:e.s.toks≠0
 hg:e.s.gens = #[]
def um.Aj (e:um):Prop:=be (aQ rW.prog e.w) callerA (call (.ref 345) [.ref e.Ai]) (λv s'=>v=.bool true∧OldK e.s.heap s'.heap∧s'.os=e.s.os∧AllBare s'.gens) (λx x=>False) e.s
theorem acG:Nonempty um:=⟨⟨⟨λx x=>0,⟨λx=>0,λx=>0,λt=>t,λx=>0,λx x=>0,λx=>false,λx=>0,.refcount,.text,λx=>0,λx=>none,λx=>false,λx x x=>true,λx x x=>true,true,λx=>false,λx=>none,λx=>none,λx x x=>0,λx x=>none,λx=>none,λx=>(0,false,""),λx=>none,λd=>d,λx=>false⟩⟩,{},λx=>none,λx=>none,[],λx=>none,0,[],[]⟩⟩
noncomputable def e0:um:=@Classical.epsilon _ acG λe=>e.Ok∧¬e.Aj
theorem acH (h:e0.Ok->e0.Aj)(e:um)(k:e.Ok):e.Aj:=Classical.byContradiction λn=>
 have q:=@Classical.epsilon_spec _ (λe:um=>e.Ok∧¬e.Aj) ⟨e,k,n⟩
 q.2 (h q.1)
@[irreducible] noncomputable def X:Cx:=⟨rW.prog,e0.w,kF e0.w.params,topProg,e0.lo,e0.me,e0.mg,e0.mb,ghostOf e0.s.heap ul,ul⟩
abbrev Cx.P (X:Cx):List ai:=X.cU.map (·.2)
structure Cx.Ok (X:Cx):Prop where
 fw:Top X.p X.loose X.acF X.mg X.mb X.H
 k:X.K.In X.H
 code:CodeAll X.cU X.H
 T3:∀q∈X.P,X.H.get? q=none
def P0:BX:=X.w.params
theorem hX:X.K=kF P0:=by rfl'
theorem Cy:X.cU=ul:=by rfl'
theorem FR:X.H=ghostOf e0.s.heap ul:=by rfl'
theorem acI (k:e0.Ok):X.Ok:=⟨by with_unfolding_all exact k.fw,by with_unfolding_all exact k.KI,by rw[Cy,FR];exact ghost_code k.hT,λq hq=>by rw[Cx.P,Cy] at hq;exact FR▸hideAll_none _ hq⟩
noncomputable def mc:an->String->Bool
 |.type t,s=>decide (t=s)|x,u=>false
noncomputable def rB (vs:Array an):Bool:=match vs[1]? with
 |some (an.str x u)=>true|_=>false
def T4 (c:an):Data->Bool
 |.seq x u=>mc c "tuple"|.fields vs=>mc c "slice"||(mc c "range"||(rB vs&&!mc c "callable_iterator"))|_=>false
def eO (o:Obj):Prop:=T4 o.cls o.data=true
theorem FS:eO {cls:=.type "tuple",data:=.seq vs n}:=rfl
theorem acJ:eO {cls:=.type "slice",data:=.fields vs}:=(Bool.true_or<|mc (.type "slice") "range"||(rB vs&&!mc (.type "slice") "callable_iterator"))
theorem acK:eO {cls:=.type "range",data:=.fields vs}:=(congrArg (mc (.type "range") "slice"||·)<|Bool.true_or<|rB vs&&!mc (.type "range") "callable_iterator").trans<|abf _
theorem acL (h:c≠.type s):mc c s=false:=by
 cases e:mc c s with
 |false=>rfl|true=>cases c with|type t=>exact absurd (congrArg an.type<|of_decide_eq_true e) h|_=>exact nB e
theorem FT {o:Obj}{t:Tok}(h1:o.data=.fields vs)(h2:vs[1]?=some (.str q t))(h3:o.cls≠.type "callable_iterator"):eO o:=by
 have e:rB vs=true:=by unfold rB;rw[h2]
 unfold eO;rw[h1];show(mc o.cls "slice"||(mc o.cls "range"||(rB vs&&!mc o.cls "callable_iterator")))=true;rw[acL h3,e];show(mc o.cls "slice"||(mc o.cls "range"||true))=true;rw[abf,abf]
abbrev FU (o:Obj):Prop:=eO o
inductive acM (own:List ai)(n:Nat)(v:an):Prop|mk (a:ai) (e:own[n]?=some a) (q:v=.ref a)
inductive acN (own:List ai)(h:bf)(R:List an->Prop)(v:an):Prop|mk (a:ai) (vs:List an) (n:Nat) (e:v=.ref a) (hn:a∉own) (hp:a∉X.P) (ho:h.get? a=some {cls:=.type "tuple",data:=.seq vs.toArray n}) (hr:R vs)
inductive SlR (own:List ai)(h:bf)(R:List an->Prop)(v:an):Prop|mk (a:ai) (vs:List an) (e:v=.ref a) (hn:a∉own) (hp:a∉X.P) (ho:h.get? a=some {cls:=.type "slice",data:=.fields vs.toArray}) (hr:R vs)
inductive acP (own:List ai)(h:bf)(a b c:Int)(v:an):Prop|mk (r:ai) (t u w:Tok) (e:v=.ref r) (hn:r∉own) (hp:r∉X.P) (ho:IsRange h r a b c t u w)
inductive acQ {α:Type}(P:α->Prop)(Q:List α->Prop)(vs:List α):Prop|mk (v:α) (r:List α) (e:vs=v::r) (hv:P v) (hr:Q r)
mutual
noncomputable def RelV (own:List ai)(h:bf):CV->an->Prop
 | .none,v=>v = .none
 | .bool b,v=>v = .bool b
 | .int i,v=>∃t,v = .int i t
 | .str x,v=>∃t,v = .str x t
 | .ab n,v=>acM own n v
 | .cB xs,v=>acN own h (aF own h xs) v
 | .sl xs,v=>SlR own h (aF own h xs) v
 | .fW a b c,v=>acP own h a b c v
 | .aH a,v=>v = .ref a
 | .bi id,v=>v = .builtin id
 | .ty n,v=>v = .type n
 | .any,u=>False
noncomputable def aF (own:List ai)(h:bf):List CV->List an->Prop
 | [],vs=>vs = []
 | x::xs,vs=>acQ (RelV own h x) (aF own h xs) vs
end
def kQ (own:List ai)(h:bf):Option CV->Option an->Prop
 |none,v=>v=none|some x,v=>∃y,v=some y∧RelV own h x y
def uo (own:List ai)(h:bf)(c:Option CV)(v:Option an):Prop:=c=some .any∨kQ own h c v
inductive acR (x:Str)(P:an->Prop)(Q:List nC->Prop)(es:List nC):Prop|mk (t:Tok) (v:an) (ls:List nC) (e:es=⟨q8 X.w.params x,.str x t,v⟩::ls) (hv:P v) (hr:Q ls)
noncomputable def gm (own:List ai)(h:bf):List (Str×CV)->List nC->Prop
 |[],es=>es=[]|(x,c)::r,es=>acR x (RelV own h c) (gm own h r) es
inductive T5 {α:Type}(x:Str)(P:α->Prop)(Q:List (Str×α)->Prop)(es:List (Str×α)):Prop|mk (v:α) (ls:List (Str×α)) (e:es=(x,v)::ls) (hv:P v) (hr:Q ls)
noncomputable def cf (own:List ai)(h:bf):List (Str×CV)->List (Str×an)->Prop
 |[],k=>k=[]|(x,c)::r,k=>T5 x (RelV own h c) (cf own h r) k
noncomputable def gZ (own:List ai):List (Str×Nat)->List (Str×ai)->Prop
 |[],cs=>cs=[]|(x,n)::r,cs=>T5 x (λa=>own[n]?=some a) (gZ own r) cs
noncomputable def Lg (own:List ai):Option Nat->Option ai->Prop
 |none,d=>d=none|some n,d=>∃a,own[n]?=some a∧d=some a
inductive acS (h:bf)(R:List an->Prop)(a:ai):Prop|mk (vs:List an) (n:Nat) (e:h.get? a=some {cls:=.type "list",data:=.seq vs.toArray n}) (q:R vs)
inductive acT (h:bf)(R:List (Str×an)->Prop)(a:ai):Prop|mk (kvs:List (Str×an)) (o:Obj) (e:h.get? a=some o) (f:o.IsDictOf (strKind X.prog X.w) kvs) (q:R kvs)
inductive xS (own:List ai)(h:bf)(jN:an):Prop|mk (c:ai) (e:jN=.ref c) (hn:c∉own) (hp:c∉X.P) (hi:∀o,h.get? c=some o->o.cls≠.type "callable_iterator")
inductive acU (own:List ai)(h:bf)(params:pL)(body:aq)(scope:d8)(cells:List (Str×Nat))(dict:Option Nat)(a:ai):Prop|mk (name qual:Str) (cl:List (Str×ai)) (pm jN ct:an) (d:Option ai) (e:h.get? a=some {cls:=.type "function",dict:=d,data:=.func (vJ name qual params body scope cl pm jN ct)})
   (c1:∃q,h.CodeRec jN q) (c2:xS own h jN) (c3:gZ own cells cl) (c4:Lg own dict d)
inductive T6 (own:List ai)(k:Nat)(P:ai->Prop):Prop|mk (x:ai) (e:own[k]?=some x) (q:P x)
inductive acV (own:List ai)(h:bf)(f:Nat)(Ah:Str)(a:ai):Prop|mk (x:ai) (t:Tok) (e:own[f]?=some x) (q:h.get? a=some {cls:=.type "callable_iterator",data:=.fields #[.ref x,.str Ah t,.bool false]})
inductive acW (own:List ai)(h:bf)(n i:Nat)(a:ai):Prop|mk (it:ai) (jg:an) (e:own[n]?=some it) (q:zI h a it i jg)
def Rep (own:List ai)(h:bf):ae->ai->Prop
 |.list xs,a=>acS h (aF own h xs) a|.frame vars,a=>∃m,h.Ns a m∧∀x,uo own h (vars.lookup x) (m x)|.cell c,a=>∃v,h.IsCell a v∧kQ own h c v|.bE C d,a=>T6 own d λdx=>h.get? a=some (instObj C dx)|.bt es,a=>∃dA n,h.get? a=some (BY dA n)∧gm own h es dA|.map es,a=>acT h (cf own h es) a|.d3 params body scope cells dict,a=>acU own h params body scope cells dict a|.bg f qf,a=>T6 own qf λx=>h.get? a=some (methodObj (.ref f) (.ref x))|.jf f Ah,a=>acV own h f Ah a|.mR,a=>h.get? a=some {cls:=.type "callable_iterator",data:=.fields #[.none,.none,.bool true]}|.ki x i,a=>∃t,h.IsStrIter a (jM x) x t i|.gc n i,a=>acW own h n i a|.iz,a=>(∃n,h.get? a=some (BY [] n))∧(a==sysModules)=false|.qg,a=>∃o,h.get? a=some o∧¬FU o
structure sT (s s':az):Prop where
 os:s'.os=s.os
 gens:∀(i:Nat) (g:vK),s.gens[i]?=some g->s'.gens[i]?=some g
theorem sT.of (h:s'.os=s.os)(hg:s'.gens=s.gens):sT s s':=⟨h,λi g e=>by rwa[hg]⟩
theorem sT.trans (a:sT s s₁)(b:sT s₁ aR):sT s aR:=⟨b.os.trans a.os,λi g e=>b.gens i g<|a.gens i g e⟩
structure a9 (own:List ai)(s:az)(av:List ai)(s':az):Prop where
 pre:∃r,av=own++r
 new:∀a∈av,a∈own∨s.heap.get? a=none
 bj:∀b o,s.heap.get? b=some o->b∉own->b∉X.P->s'.heap.get? b=some o
 cU:∀q∈X.P,∀o,s.heap.get? q=some o->∃o',s'.heap.get? q=some o'
 os:sT s s'
theorem Obj.uq {o:Obj}{T:String}(h1:o.cls=.type T)(h2:o.data=.fields vs)(h4:T≠"slice")(h5:T≠"range")(h6:rB vs=false):¬eO o:=λh=>by unfold eO at h;rw[h1,h2] at h;have h:(decide (T="slice")||(decide (T="range")||(rB vs&&!mc (.type T) "callable_iterator")))=true:=h;rw[h6,decide_eq_false h4,decide_eq_false h5] at h;exact nB h
theorem FV {o:Obj}(h:o.data=D)(hD:∀c,T4 c D=false):¬eO o:=λq=>nB<|(hD o.cls).symm.trans<|h▸q
theorem T7 vs:¬eO {cls:=.type "callable_iterator",data:=.fields vs}:=λh=>by have h:(decide ("callable_iterator"="slice")||(decide ("callable_iterator"="range")||(rB vs&&!decide ("callable_iterator"="callable_iterator"))))=true:=h;rw[abg] at h;exact nB h
theorem Rep.ob {o:ae}(r:Rep own h o a):∃ob,h.get? a=some ob∧¬eO ob:=by cases o with|list=>obtain⟨_,_,e,_⟩:=r;exact⟨_,e,λq=>nB q⟩|frame=>obtain⟨_,⟨_,_,_,e,e2,_⟩,_⟩:=r;exact⟨_,e,FV e2 λx=>rfl⟩|cell=>obtain⟨_,⟨_,e,e2⟩,_⟩:=r;exact⟨_,e,FV e2 λx=>rfl⟩|bE=>obtain⟨_,_,e⟩:=r;exact⟨_,e,λq=>nB q⟩|bt=>obtain⟨_,_,e,_⟩:=r;exact⟨_,e,λq=>nB q⟩|map=>obtain⟨_,_,e,⟨_,_,_,e2,_⟩,_⟩:=r;exact⟨_,e,FV e2 λx=>rfl⟩|d3=>obtain⟨_,_,_,_,_,_,_,e,_⟩:=r;exact⟨_,e,λq=>nB q⟩|bg=>obtain⟨_,_,e⟩:=r;exact⟨_,e,Obj.uq rfl rfl (by decide) (by decide) rfl⟩|jf=>obtain⟨_,_,_,e⟩:=r;exact⟨_,e,T7 _⟩|mR=>exact⟨_,r,T7 _⟩|ki=>obtain⟨_,_,e,e2,e3⟩:=r;exact⟨_,e,Obj.uq e2 e3 (by unfold jM;split<;>decide) (by unfold jM;split<;>decide) rfl⟩|gc=>obtain⟨_,_,_,e⟩:=r;exact⟨_,e,Obj.uq rfl rfl (by decide) (by decide) rfl⟩|iz=>obtain⟨⟨_,e⟩,_⟩:=r;exact⟨_,e,λq=>nB q⟩|qg=>exact r
theorem Rep.rC {o:ae}(r:Rep own h o a){ob:Obj}(e:h.get? a=some ob):¬FU ob:=by obtain⟨_,e1,h1⟩:=r.ob;rw[e] at e1;obtain rfl:=dE e1;exact h1
theorem Rep.qh {o:ae}(r:Rep own h o a):∃ob,h.get? a=some ob:=r.ob.imp λx h=>h.1
inductive T8 (h:bf)(cv:an):Prop|mk (c':ai) (o:Obj) (vs:Array an) (q:Str) (t:Tok) (e1:cv=.ref c') (e2:c'∉X.P) (e3:h.get? c'=some o) (e4:o.data=.fields vs) (e5:vs[1]?=some (.str q t)) (e6:o.cls≠.type "callable_iterator")
def xT (h:bf)(ps:List an):Prop:=∀pos cv,vL pos ps=some cv->T8 h cv
def Ak (h:bf)(P:ai):Prop:=∃ps,h.get? P=some (xy ps)∧J9 ps.toList∧xT h ps.toList
theorem xT.bj (k:∀b o,h.get? b=some o->eO o->b∉X.P->h'.get? b=some o)(c:xT h ps):xT h' ps:=λpos cv e=>by obtain⟨c',o,vs,q,t,e1,e2,e3,e4,e5,e6⟩:=c pos cv e;exact⟨c',o,vs,q,t,e1,e2,k c' o e3 (FT e4 e5 e6) e2,e4,e5,e6⟩
structure Sx (own:List ai)(st:List ae)(s:az):Prop where
 bj:∀b o,X.H.get? b=some o->s.heap.get? b=some o
 len:own.length=st.length
 kj:own.Nodup
 fresh:∀a∈own,X.H.get? a=none∧a∉X.P
 iV:∀(i:Nat) (o:ae) (a:ai),st[i]?=some o->own[i]?=some a->Rep own s.heap o a
 cU:∀q∈X.P,Ak s.heap q
 bare:AllBare s.gens
 tk:s.toks≠0
 ok:X.Ok
section
variable {own av aO aS:List ai}{s s' s₁ aR:az}{h h':bf}{st:List ae}
theorem a9.refl:a9 own s own s:=
 ⟨⟨[],by simp⟩,λx h=>.inl h,λx x e x x=>e,λx x o e=>⟨o,e⟩,.of rfl rfl⟩
theorem a9.trans (a:a9 own s aO s₁)(b:a9 aO s₁ aS aR):a9 own s aS aR:=by
 obtain⟨r,hr⟩:=a.pre;obtain⟨r',fX⟩:=b.pre;have sU:∀x,s₁.heap.get? x=none->x∈own∨s.heap.get? x=none:=λx h=>by
  by_cases hq:x∈own
  ·exact .inl hq
  right;cases q:s.heap.get? x with
  |none=>rfl|some o=>
   by_cases hP:x∈X.P
   ·obtain⟨o',e⟩:=a.cU x hP o q;rw[h] at e;exact nS e
   rw[a.bj x o q hq hP] at h;cases h
 refine⟨⟨r++r',by rw[fX,hr,eJ]⟩,λx hx=>?_,λx o e hn hp=>?_,λq hq o e=>?_,a.os.trans b.os⟩
 ·rcases b.new x hx with h|h
  ·exact a.new x h
  exact sU x h
 ·refine b.bj x o (a.bj x o e hn hp) (λhx=>?_) hp;rcases a.new x hx with h|h
  ·exact hn h
  rw[h] at e;exact nS e
 obtain⟨o',e'⟩:=a.cU q hq o e;exact b.cU q hq o' e'
structure eD (own:List ai)(h:bf)(av:List ai)(h':bf):Prop where
 bD:∀(i:Nat) (a:ai),own[i]?=some a->av[i]?=some a
 bj:∀b o,h.get? b=some o->eO o->b∉own->b∉X.P->h'.get? b=some o
 new:∀a∈av,a∈own∨∀o,h.get? a=some o->¬eO o
theorem FW (e:h.get? a=none):∀o,h.get? a=some o->¬eO o:=λo e'=>by rw[e] at e';exact nS e'
theorem a9.aM (e:a9 own s av s'):eD own s.heap av s'.heap:=
 ⟨λi a hi=>by obtain⟨r,rfl⟩:=e.pre;rw[d2<|(bV.mp hi).1];exact hi,λb o h1 x h2 h3=>e.bj b o h1 h2 h3,λa ha=>(e.new a ha).imp id FW⟩
theorem eD.not (g:eD own h av h'){o:Obj}(e:h.get? a=some o)(hn:a∉own)(hv:eO o):a∉av:=λhx=>by
 rcases g.new a hx with q|q
 ·exact hn q
 exact q o e hv
mutual
noncomputable def CV.bI (f:Nat->Option Nat):CV->Option CV
 | .ab n=>(f n).map .ab
 | .cB xs=>(CV.gn f xs).map .cB
 | .sl xs=>(CV.gn f xs).map .sl
 | c=>some c
noncomputable def CV.gn (f:Nat->Option Nat):List CV->Option (List CV)
 | []=>some []
 | x::xs=>(x.bI f).bind λy=>(CV.gn f xs).map (y::·)
end
noncomputable def jh (f:Nat->Option Nat):List (Str×CV)->Option (List (Str×CV))
 |[]=>some []|(x,v)::r=>(v.bI f).bind λy=>(jh f r).map ((x,y)::·)
noncomputable def qi (f:Nat->Option Nat):List (Str×Nat)->Option (List (Str×Nat))
 |[]=>some []|(x,v)::r=>(f v).bind λy=>(qi f r).map ((x,y)::·)
noncomputable def ur (f:Nat->Option Nat):Option Nat->Option (Option Nat)
 |none=>some none|some k=>(f k).map some
noncomputable def ae.bI (f:Nat->Option Nat):ae->Option ae
 |.list xs=>(CV.gn f xs).map .list|.frame vars=>(jh f vars).map .frame|.cell (some v)=>(v.bI f).map λy=>.cell (some y)|.bE C d=>(f d).map (.bE C)|.bt es=>(jh f es).map .bt|.map es=>(jh f es).map .map|.d3 p b s cells dict=>(qi f cells).bind λcs=>(ur f dict).map (.d3 p b s cs)|.bg f' k=>(f k).map (.bg f')|.jf k Ah=>(f k).map λj=>.jf j Ah|.gc k i=>(f k).map λj=>.gc j i|o=>some o
theorem Cz (h:(a&&b)=true):a=true∧b=true:=(bz a b).mp h
theorem sI {P:α->Prop}(e:some a=some b)(r:P a):P b:=dE e▸r
theorem eE {o:Option α}{P:β->Prop}(h:o.map g=some c)(k:∀m,o=some m->P (g m)):P c:=by cases o with|none=>exact nS h|some m=>exact sI h<|k m rfl
theorem kl {o:Option α}{P:Prop}(h:o.bind g=some c)(k:∀m,o=some m->g m=some c->P):P:=by cases o with|none=>exact nS h|some m=>exact k m rfl h
structure Mv (own:List ai)(h:bf)(av:List ai)(h':bf)(f:Nat->Option Nat):Prop where
 bD:∀k j a,f k=some j->own[k]?=some a->av[j]?=some a
 bj:∀b o,h.get? b=some o->eO o->b∉own->b∉X.P->b∉av∧h'.get? b=some o
section
variable {f:Nat->Option Nat}
def CA (own:List ai)(h:bf)(av:List ai)(h':bf)(f:Nat->Option Nat)(c:CV):Prop:=∀c' v,c.bI f=some c'->RelV own h c v->RelV av h' c' v
def Al (own:List ai)(h:bf)(av:List ai)(h':bf)(f:Nat->Option Nat)(xs:List CV):Prop:=∀ys vs,CV.gn f xs=some ys->aF own h xs vs->aF av h' ys vs
theorem us (hc:c.bI f=some c)(r:∀v,RelV own h c v->RelV av h' c v):CA own h av h' f c:=λc' v e q=>sI (P:=λc=>RelV av h' c v) (hc.symm.trans e)<|r v q
theorem T9 x  xs (i1:CA own h av h' f x)(i2:Al own h av h' f xs):Al own h av h' f (x::xs):=λys vs e r=>by obtain⟨v,w,e1,hv,hr⟩:=r;exact kl e λy hy e=>eE (P:=λys=>aF av h' ys vs) e λys km=>⟨v,w,e1,i1 y v hy hv,i2 ys w km hr⟩
theorem Ua:Al own h av h' f []:=λys vs e r=>sI (P:=λc=>aF av h' c vs) e r
theorem RelV.mv (M:Mv own h av h' f) c:CA own h av h' f c:=
 CV.rec (us rfl λx r=>r) (λx=>us rfl λx r=>r) (λx=>us rfl λx r=>r) (λx=>us rfl λx r=>r)
  (λn c' v e r=>by obtain⟨a,e1,e2⟩:=r;exact eE (P:=λc=>RelV av h' c v) e λm hm=>⟨a,M.bD _ _ _ hm e1,e2⟩)
  ((λxs ih=>λc' v e r=>by
   obtain⟨a,vs,n,e1,h1,h2,ho,hr⟩:=r;have k:=M.bj a _ ho FS h1 h2;exact eE (P:=λc=>RelV av h' c v) e λys hy=>⟨a,vs,n,e1,k.1,h2,k.2,ih ys vs hy hr⟩)) ((λxs ih=>λc' v e r=>by
   obtain⟨a,vs,e1,h1,h2,ho,hr⟩:=r;have k:=M.bj a _ ho acJ h1 h2;exact eE (P:=λc=>RelV av h' c v) e λys hy=>⟨a,vs,e1,k.1,h2,k.2,ih ys vs hy hr⟩)) (λx x x=>us rfl λx r=>by obtain⟨a,t,u,w,e,h1,h2,ho⟩:=r;have k:=M.bj a _ ho acK h1 h2;exact⟨a,t,u,w,e,k.1,h2,k.2⟩)
  (λx=>us rfl λx r=>r) (λx=>us rfl λx r=>r) (λx=>us rfl λx r=>r) (us rfl λx r=>r) Ua T9 c
theorem aF.mv (M:Mv own h av h' f) xs:Al own h av h' f xs:=by induction xs with|nil=>exact Ua|cons x xs ih=>exact T9 x xs (RelV.mv M x) ih
theorem acZ {vars:List (Str×CV)}{x:Str}:∀{rD:List (Str×CV)},jh f vars=some rD->match vars.lookup x with|none=>rD.lookup x=none|some v=>∃v',v.bI f=some v'∧rD.lookup x=some v':=by
 induction vars with
 |nil=>intro rD e;exact sI (P:=λv=>BZ x v=none) e rfl|cons p r ih=>obtain⟨z,v⟩:=p;intro rD e;refine kl e λy hy e=>?_;refine eE (P:=λrD=>match((z,v)::r).lookup x with|none=>rD.lookup x=none|some v=>∃v',v.bI f=some v'∧rD.lookup x=some v') e λys km=>?_;rw[nD,nD];cases x==z with|true=>exact⟨y,hy,rfl⟩|false=>exact ih km
theorem gm.mv (M:Mv own h av h' f):∀{ls} {dA},jh f es=some ls->gm own h es dA->gm av h' ls dA:=by induction es with|nil=>intro _ dA e r;exact sI (P:=λes=>gm av h' es dA) e r|cons p es ih=>intro _ dA e r;obtain⟨t,v,r,e1,hv,hr⟩:=r;exact kl e λy hy e=>eE (P:=λes=>gm av h' es dA) e λys km=>⟨t,v,r,e1,RelV.mv M _ _ _ hy hv,ih km hr⟩
theorem cf.mv (M:Mv own h av h' f):∀{ls} {ks},jh f es=some ls->cf own h es ks->cf av h' ls ks:=by induction es with|nil=>intro _ ks e r;exact sI (P:=λes=>cf av h' es ks) e r|cons p es ih=>intro _ ks e r;obtain⟨v,r,e1,hv,hr⟩:=r;exact kl e λy hy e=>eE (P:=λes=>cf av h' es ks) e λys km=>⟨v,r,e1,RelV.mv M _ _ _ hy hv,ih km hr⟩
theorem gZ.mv (M:Mv own h av h' f){cs:List (Str×Nat)}:∀{iJ} {ad},qi f cs=some iJ->gZ own cs ad->gZ av iJ ad:=by induction cs with|nil=>intro _ ad e r;exact sI (P:=λes=>gZ av es ad) e r|cons p es ih=>intro _ ad e r;obtain⟨v,r,e1,hv,hr⟩:=r;exact kl e λy hy e=>eE (P:=λes=>gZ av es ad) e λys km=>⟨v,r,e1,M.bD _ _ _ hy hv,ih km hr⟩
theorem kQ.mv (M:Mv own h av h' f)(e:c.bI f=some c')(r:kQ own h (some c) v):kQ av h' (some c') v:=r.imp λy h=>⟨h.1,RelV.mv M c c' y e h.2⟩
theorem uo.mv (M:Mv own h av h' f)(e:jh f vars=some rD) x (r:uo own h (vars.lookup x) v):uo av h' (rD.lookup x) v:=by
 have h1:=acZ (x:=x) e;cases hl:vars.lookup x with
 |none=>rw[hl] at h1 r;exact h1▸r.imp nS id|some c=>
  rw[hl] at h1 r;obtain⟨c',e2,e3⟩:=h1;rw[e3];rcases r with r|r
  ·obtain rfl:=dE r;obtain rfl:=dE e2;exact .inl rfl
  exact .inr<|kQ.mv M e2 r
theorem xS.mv (M:Mv own h av h' f)(e:h.CodeRec jN q)(hc:xS own h jN):h'.CodeRec jN q∧xS av h' jN:=by obtain⟨c,o,vs,t,e1,e2,e3,e4⟩:=e;obtain⟨c',f1,f2,f3,f4⟩:=hc;rw[e1] at f1;cases f1;have k:=M.bj c o e2 (FT e3 e4<|f4 _ e2) f2 f3;exact⟨⟨c,o,vs,t,e1,k.2,e3,e4⟩,c,e1,k.1,f3,λo' h=>by rw[k.2] at h;obtain rfl:=dE h;exact f4 _ e2⟩
theorem Rep.mv (M:Mv own h av h' f){o:ae}(e:o.bI f=some o')(r:Rep own h o a)(ha:h'.get? a=h.get? a):Rep av h' o' a:=by
 cases o with
 |list xs=>obtain⟨vs,n,e1,q⟩:=r;exact eE (P:=λo=>Rep av h' o a) e λys hy=>⟨vs,n,ha.trans e1,aF.mv M _ _ _ hy q⟩|frame vars=>obtain⟨m,⟨o,es,ep,e1,r1⟩,q⟩:=r;exact eE (P:=λo=>Rep av h' o a) e λys hy=>⟨m,⟨o,es,ep,ha.trans e1,r1⟩,λx=>uo.mv M hy x<|q x⟩|cell c=>
  obtain⟨v,⟨o,e1,e2⟩,q⟩:=r;cases c with
  |none=>exact sI (P:=λo=>Rep av h' o a) e ⟨v,⟨o,ha.trans e1,e2⟩,q⟩|some c=>exact eE (P:=λo=>Rep av h' o a) e λys hy=>⟨v,⟨o,ha.trans e1,e2⟩,kQ.mv M hy q⟩
 |bE C d=>obtain⟨dx,e1,q⟩:=r;exact eE (P:=λo=>Rep av h' o a) e λys hy=>⟨dx,M.bD _ _ _ hy e1,ha.trans q⟩|bt es=>obtain⟨dA,n,e1,q⟩:=r;exact eE (P:=λo=>Rep av h' o a) e λys hy=>⟨dA,n,ha.trans e1,gm.mv M hy q⟩|map es=>obtain⟨kvs,o,e1,f,q⟩:=r;exact eE (P:=λo=>Rep av h' o a) e λys hy=>⟨kvs,o,ha.trans e1,f,cf.mv M hy q⟩|d3 p b s cells dict=>
  obtain⟨name,qual,cl,pm,jN,ct,d,e1,⟨q,c1⟩,c2,c3,c4⟩:=r;have k:=xS.mv M c1 c2;refine kl e λcs hc e=>eE (P:=λo=>Rep av h' o a) e λdd hd=>⟨name,qual,cl,pm,jN,ct,d,ha.trans e1,⟨q,k.1⟩,k.2,gZ.mv M hc c3,?_⟩;cases dict with
  |none=>exact sI (P:=λdd=>Lg av dd d) hd c4|some j=>obtain⟨y,b1,b2⟩:=c4;exact eE (P:=λdd=>Lg av dd d) hd λi hi=>⟨y,M.bD _ _ _ hi b1,b2⟩
 |bg f' k=>obtain⟨x,e1,q⟩:=r;exact eE (P:=λo=>Rep av h' o a) e λys hy=>⟨x,M.bD _ _ _ hy e1,ha.trans q⟩|jf k s=>obtain⟨x,t,e1,q⟩:=r;exact eE (P:=λo=>Rep av h' o a) e λys hy=>⟨x,t,M.bD _ _ _ hy e1,ha.trans q⟩|mR=>exact sI (P:=λo=>Rep av h' o a) e (ha.trans r)|ki x i=>obtain⟨t,o,e1,q⟩:=r;exact sI (P:=λo=>Rep av h' o a) e ⟨t,o,ha.trans e1,q⟩|gc k i=>obtain⟨it,jg,e1,q⟩:=r;exact eE (P:=λo=>Rep av h' o a) e λys hy=>⟨it,jg,M.bD _ _ _ hy e1,ha.trans q⟩|iz=>obtain⟨⟨n,e1⟩,q⟩:=r;exact sI (P:=λo=>Rep av h' o a) e ⟨⟨n,ha.trans e1⟩,q⟩|qg=>obtain⟨ob,e1⟩:=r;exact sI (P:=λo=>Rep av h' o a) e ⟨ob,ha.trans e1.1,e1.2⟩
end
theorem gC {α β:Type}{a:Option α}{b:Option (List β)}{x:α}{xs:List β}{g:α->β}(h1:a=some x)(h2:b=some xs):(a.bind λy=>b.map (g y::·))=some (g x::xs):=by rw[h1,h2];rfl
theorem CV.Am (c:CV):c.bI some=some c:=
 CV.rec (motive_2:=λxs=>CV.gn some xs=some xs) rfl (λu=>rfl) (λu=>rfl) (λu=>rfl) (λu=>rfl) (λu ih=>congrArg (dg CV.cB) ih) (λu ih=>congrArg (dg CV.sl) ih) (λu u u=>rfl) (λu=>rfl) (λu=>rfl) (λu=>rfl) rfl rfl
  (λx xs i1 i2=>gC i1 i2) c
theorem CV.Ub xs:CV.gn some xs=some xs:=by induction xs with|nil=>rfl|cons x xs ih=>exact gC (CV.Am x) ih
theorem CB es:jh some es=some es:=by induction es with|nil=>rfl|cons p es ih=>exact gC (CV.Am p.2) ih
theorem Uc es:qi some es=some es:=by induction es with|nil=>rfl|cons p es ih=>exact gC rfl ih
theorem ae.Am (o:ae):o.bI some=some o:=by
 cases o with
 |list xs=>exact congrArg (dg ae.list) (CV.Ub xs)|frame xs=>exact congrArg (dg ae.frame) (CB xs)|cell c=>cases c with
  |none=>rfl|some c=>exact congrArg (dg λy=>ae.cell<|some y)<|CV.Am c
 |bt xs=>exact congrArg (dg ae.bt) (CB xs)|map xs=>exact congrArg (dg ae.map) (CB xs)|d3 p b s cells d=>exact(congrArg (λo=>QZ o λcs=>(ur some d).map<|ae.d3 p b s cs)<|Uc cells).trans (by cases d<;>rfl)|_=>rfl
theorem eD.mv (g:eD own h av h'):Mv own h av h' some:=⟨λk j a e h=>by obtain rfl:=dE e;exact g.bD _ _ h,λb o e v hn hp=>⟨g.not e hn v,g.bj b o e v hn hp⟩⟩
theorem RelV.aM (g:eD own h av h') c (r:RelV own h c v):RelV av h' c v:=RelV.mv g.mv c c v c.Am r
theorem aF.aM (g:eD own h av h') xs (r:aF own h xs vs):aF av h' xs vs:=aF.mv g.mv xs xs vs (CV.Ub xs) r
theorem kQ.aM (g:eD own h av h')(e:kQ own h c v):kQ av h' c v:=by cases c with|none=>exact e|some c=>exact let ⟨y,a,b⟩:=e;⟨y,a,b.aM g⟩
theorem uo.aM (g:eD own h av h')(e:uo own h c v):uo av h' c v:=e.imp id λe=>e.aM g
theorem gm.aM (g:eD own h av h')(r:gm own h es dA):gm av h' es dA:=gm.mv g.mv (CB es) r
theorem cf.aM (g:eD own h av h'){k:List (Str×an)}(r:cf own h es k):cf av h' es k:=cf.mv g.mv (CB es) r
theorem gZ.aM (g:eD own h av h'){cs:List (Str×Nat)}{ad:List (Str×ai)}(r:gZ own cs ad):gZ av cs ad:=gZ.mv g.mv (Uc cs) r
theorem Rep.aM (g:eD own h av h'){o:ae}(r:Rep own h o a)(ha:h'.get? a=h.get? a):Rep av h' o a:=Rep.mv g.mv o.Am r ha
theorem Sx.bD (S:Sx own st s){i:Nat}{o:ae}(e:st[i]?=some o):∃a,own[i]?=some a∧Rep own s.heap o a:=by have aZ:i<own.length:=S.len▸(bV.mp e).1;exact⟨own[i],bA aZ,S.iV i o _ e<|bA aZ⟩
theorem Sx.rC (S:Sx own st s){o:Obj}(e:s.heap.get? a=some o)(t:FU o):a∉own:=λha=>by
 obtain⟨i,hi,e1⟩:=pN.mp ha;have hs:i<st.length:=by rwa[<-S.len]
 exact(S.iV i st[i] a (bA hs)<|by rw[bA hi,e1]).rC e t
theorem Sx.toks (S:Sx own st s)(t:Tok)(ht:t≠0:=by first|exact ka _|assumption|exact Sx.tk (by assumption)):Sx own st {s with toks:=t}:=⟨S.bj,S.len,S.kj,S.fresh,S.iV,S.cU,S.bare,ht,S.ok⟩
theorem a9.toks {t:Tok}:a9 own s own {s with toks:=t}:=⟨⟨[],by simp⟩,λx h=>.inl h,λx x e x x=>e,λx x o e=>⟨o,e⟩,.of rfl rfl⟩
theorem Sx.qh (S:Sx own st s)(ha:a∈own):∃ob,s.heap.get? a=some ob:=by
 obtain⟨i,hi,e⟩:=pN.mp ha;have hs:i<st.length:=by rwa[<-S.len]
 exact(S.iV i st[i] a (bA hs)<|by rw[bA hi,e]).qh
theorem Sx.jO (S:Sx own st s)(h:s.heap.get? a=none):a∉own:=λha=>by obtain⟨ob,e⟩:=S.qh ha;rw[h] at e;exact nS e
theorem Sx.mf (S:Sx own st s)(h:s.heap.get? a=none):a∉X.P:=λha=>by obtain⟨ps,e,_⟩:=S.cU a ha;rw[h] at e;exact nS e
theorem Sx.ut (S:Sx own st s)(h:s.heap.get? a=none):X.H.get? a=none:=by cases q:X.H.get? a with|none=>rfl|some o=>rw[S.bj a o q] at h;cases h
theorem Rep.more (g:eD own h av h')(hk:∀b o,h.get? b=some o->h'.get? b=some o){o:ae}(r:Rep own h o a):Rep av h' o a:=by obtain⟨ob,e⟩:=r.qh;exact r.aM g<|(hk _ _ e).trans e.symm
theorem Sx.more (S:Sx own st s){t:Tok}(hk:∀b o,s.heap.get? b=some o->h'.get? b=some o)(ht:t≠0:=by first|exact ka _|assumption|exact Sx.tk (by assumption)):Sx own st {s with heap:=h',toks:=t}:=by refine⟨λb o e=>hk _ _<|S.bj b o e,S.len,S.kj,S.fresh,λi o a e1 e2=>(S.iV i o a e1 e2).more ⟨λx x e=>e,λb o e x x x=>hk b o e,λx h=>.inl h⟩ hk,λq hq=>?_,S.bare,ht,S.ok⟩;obtain⟨ps,e,r,r'⟩:=S.cU q hq;exact⟨ps,hk _ _ e,r,r'.bj λb o e x x=>hk b o e⟩
theorem a9.more {t:Tok}(hk:∀b o,s.heap.get? b=some o->h'.get? b=some o):a9 own s own {s with heap:=h',toks:=t}:=
 ⟨⟨[],by simp⟩,λx h=>.inl h,λb o e x x=>hk b o e,λq x o e=>⟨o,hk _ _ e⟩,.of rfl rfl⟩
theorem eD.iW (hv:∀o,h.get? L=some o->¬eO o)(hk:f6 L h h'):eD own h own h':=
 ⟨λx x e=>e,λb o e v x x=>hk b o (λq=>hv o (q▸e) v) e,λx h=>.inl h⟩
theorem Sx.CC (S:Sx own st s)(hB:X.H.get? L=none)(hk:f6 L s.heap h'):∀b o,X.H.get? b=some o->h'.get? b=some o:=λb o e=>hk _ _ (λq=>by rw[q,hB] at e;exact nS e)<|S.bj b o e
theorem Sx.FX (S:Sx own st s)(hP:L∉X.P)(hv:∀o,s.heap.get? L=some o->¬eO o)(hk:f6 L s.heap h'):∀q∈X.P,Ak h' q:=λq hq=>by obtain⟨ps,e,r,r'⟩:=S.cU q hq;exact⟨ps,hk _ _ (λz=>hP<|z▸hq) e,r,r'.bj λb o e v x=>hk b o (λq=>hv o (q▸e) v) e⟩
theorem Rep.CD (g:eD own h av h')(hk:f6 L h h'){o:ae}(ha:a≠L)(r:Rep own h o a):Rep av h' o a:=by obtain⟨ob,e⟩:=r.qh;exact r.aM g<|(hk a ob ha e).trans e.symm
theorem Lh {i:Nat}(hL:L∉own)(e:own[i]?=some b):b≠L:=λq=>hL<|q▸c8 e
theorem Sx.iW (S:Sx own st s){t:Tok}(hL:L∉own)(hP:L∉X.P)(hB:X.H.get? L=none)(hv:∀o,s.heap.get? L=some o->¬eO o)(hk:f6 L s.heap h')(ht:t≠0:=by first|exact ka _|assumption|exact Sx.tk (by assumption)):Sx own st {s with heap:=h',toks:=t}:=by exact⟨S.CC hB hk,S.len,S.kj,S.fresh,λi o a e1 e2=>(S.iV i o a e1 e2).CD (eD.iW hv hk) hk<|Lh hL e2,S.FX hP hv hk,S.bare,ht,S.ok⟩
theorem a9.iW (E:a9 bx aT own s){t:Tok}(h0:aT.heap.get? L=none)(hP:∀q∈X.P,∃o,aT.heap.get? q=some o)(hk:f6 L s.heap h'):a9 bx aT own {s with heap:=h',toks:=t}:=
 ⟨E.pre,E.new,λb o e hb hp=>hk b o (λq=>by rw[q,h0] at e;exact nS e)<|E.bj b o e hb hp,λq hq o e=>by obtain⟨o',e'⟩:=E.cU q hq o e;exact⟨o',hk q o' (λz=>by rw[z,h0] at e;exact nS e) e'⟩,⟨E.os.1,E.os.2⟩⟩
theorem Sx.ne (S:Sx own st s){i j:Nat}(hi:own[i]?=some a)(hj:own[j]?=some b)(ii:i≠j):a≠b:=λe=>by subst e;obtain⟨h1,e1⟩:=bV.mp hi;obtain⟨h2,e2⟩:=bV.mp hj;exact ii<|(List.getElem_inj S.kj).mp<|e1.trans e2.symm
theorem Sx.set (S:Sx own st s){i:Nat}{t:Tok}(hi:own[i]?=some a)(hs:f6 a s.heap h')(hr:eD own s.heap own h'->Rep own h' o' a)(ht:t≠0:=by first|exact ka _|assumption|exact Sx.tk (by assumption)):Sx own (st.set i o') {s with heap:=h',toks:=t}:=by
 have ha:=c8 hi;have g:eD own s.heap own h':=⟨λx x e=>e,λb o e x hb x=>hs b o (λq=>hb<|q▸ha) e,λx h=>.inl h⟩;refine⟨S.CC (S.fresh a ha).1 hs,by rw[lY];exact S.len,S.kj,S.fresh,λj o b e1 e2=>?_,S.FX (S.fresh a ha).2 (λo e v=>S.rC e v ha) hs,S.bare,ht,S.ok⟩;by_cases ii:i=j
 ·subst ii;obtain rfl:=dE<|hi.symm.trans e2;rw[vM<|S.len▸(bV.mp hi).1] at e1;exact dE e1▸hr g
 rw[lZ ii] at e1;exact(S.iV j o b e1 e2).CD g hs (S.ne hi e2 ii).symm
theorem a9.set (S:Sx own st s){i:Nat}{t:Tok}(hi:own[i]?=some a)(hs:f6 a s.heap h'):a9 own s own {s with heap:=h',toks:=t}:=
 ⟨⟨[],by simp⟩,λx h=>.inl h,λb o e hb x=>hs b o (λq=>hb<|q▸c8 hi) e,λq hq o e=>⟨o,hs q o (λz=>(S.fresh a<|c8 hi).2<|z▸hq) e⟩,.of rfl rfl⟩
theorem Ud {x y:α}{i:Nat}(h:(xs++[x])[i]?=some y):xs[i]?=some y∨i=xs.length∧x=y:=by
 by_cases hi:i<xs.length
 ·left;rwa[d2 hi] at h
 rw[dT<|Q0 hi] at h;cases e:i-xs.length with|zero=>rw[e] at h;exact .inr ⟨abh (ap2 e)<|Q0 hi,dE h⟩|succ n=>rw[e] at h;exact nS h
theorem Li (hk:∀b o,h.get? b=some o->eO o->b∉own->b∉X.P->h'.get? b=some o)(hv:∀o,h.get? D=some o->¬eO o):eD own h (own++[D]) h':=
 ⟨λi b e=>by rw[d2 (bV.mp e).1];exact e,hk,λb hb=>(f7.mp hb).imp id λq=>by rwa[gV.mp q]⟩
theorem Sx.CE (S:Sx own st s){t:Tok}(hD:D∉own)(hf:X.H.get? D=none∧D∉X.P)(kp:∀b o,X.H.get? b=some o->h'.get? b=some o)(jg:∀(i:Nat) o  b,st[i]?=some o->own[i]?=some b->Rep own s.heap o b->Rep (own++[D]) h' o b)(new:Rep (own++[D]) h' o' D)(tb:∀q∈X.P,Ak h' q)(ht:t≠0):Sx (own++[D]) (st++[o']) {s with heap:=h',toks:=t}:=by
 refine⟨kp,by simp [S.len],?_,λb hb=>(f7.mp hb).elim (S.fresh b) λq=>gV.mp q▸hf,λi o b e1 e2=>?_,tb,S.bare,ht,S.ok⟩
 ·rw[xz];exact⟨S.kj,zJ.mpr ⟨List.not_mem_nil,EX⟩,λx hx y hy e=>hD<|gV.mp hy▸e▸hx⟩
 rcases Ud e1 with h1|⟨h1,e1⟩<;>rcases Ud e2 with h2|⟨h2,e2⟩
 ·exact jg i o b h1 h2<|S.iV i o b h1 h2
 ·exact absurd (bV.mp h1).1<|h2▸S.len▸J' _
 ·exact absurd (bV.mp h2).1<|h1▸S.len▸J' _
 exact e1▸e2▸new
theorem Sx.push (S:Sx own st s){t:Tok}(hk:∀b o,s.heap.get? b=some o->h'.get? b=some o)(ha:s.heap.get? a=none)(hr:eD own s.heap (own++[a]) h'->Rep (own++[a]) h' o' a)(ht:t≠0:=by first|exact ka _|assumption|exact Sx.tk (by assumption)):Sx (own++[a]) (st++[o']) {s with heap:=h',toks:=t}:=by have g:eD own s.heap (own++[a]) h':=Li (λb o e x x x=>hk b o e)<|FW ha;have S':=S.more hk ht;exact S.CE (S.jO ha) ⟨S.ut ha,S.mf ha⟩ S'.bj (λx x x x x r=>r.more g hk) (hr g) S'.cU ht
theorem a9.push {t:Tok}(hk:∀b o,s.heap.get? b=some o->h'.get? b=some o)(ha:s.heap.get? a=none):a9 own s (own++[a]) {s with heap:=h',toks:=t}:=
 ⟨⟨_,rfl⟩,λb hb=>(f7.mp hb).imp id λq=>by rw[gV.mp q];exact ha,λb o e x x=>hk b o e,λq x o e=>⟨o,hk _ _ e⟩,.of rfl rfl⟩
mutual
noncomputable def CV.lo (n:Nat):CV->Bool
 | .ab k=>decide (k<n)
 | .cB xs=>CV.cV n xs
 | .sl xs=>CV.cV n xs
 | _=>true
noncomputable def CV.cV (n:Nat):List CV->Bool
 | []=>true
 | x::xs=>x.lo n&&CV.cV n xs
end
noncomputable def Lj (n:Nat):Option Nat->Bool
 |none=>true|some k=>decide (k<n)
noncomputable def ae.lo (n:Nat):ae->Bool
 |.list xs=>CV.cV n xs|.frame vars=>vars.all λp=>p.2.lo n|.cell none=>true|.cell (some v)=>v.lo n|.bE x d=>decide (d<n)|.bt es=>es.all λp=>p.2.lo n|.map es=>es.all λp=>p.2.lo n|.d3 x u o cells d=>cells.all (λp=>decide (p.2<n))&&Lj n d|.bg x k=>decide (k<n)|.jf k x=>decide (k<n)|.mR=>true|.ki x u=>true|.gc k x=>decide (k<n)|.iz=>true|.qg=>true
theorem CV.uu {x:CV}:CV.cV n (x::xs)=(x.lo n&&CV.cV n xs):=rfl
theorem An:∀{xs},CV.cV n xs=true↔∀x∈xs,x.lo n=true
 |[]=>⟨λu u h=>(nomatch h),λu=>rfl⟩|x::xs=>by rw[CV.uu,bz,An,zK]
section
variable {n:Nat}{f:Nat->Option Nat}(hf:∀k,k<n->f k=some k)
include hf
theorem CV.kR (c:CV):c.lo n=true->c.bI f=some c:=
 CV.rec (motive_2:=λxs=>CV.cV n xs=true->CV.gn f xs=some xs) (λu=>rfl) (λu u=>rfl) (λu u=>rfl) (λu u=>rfl) (λk h=>congrArg (dg CV.ab)<|hf k<|of_decide_eq_true h) (λu ih h=>congrArg (dg CV.cB)<|ih h) (λu ih h=>congrArg (dg CV.sl)<|ih h) (λu u u u=>rfl) (λu u=>rfl) (λu u=>rfl) (λu u=>rfl) (λu=>rfl) (λu=>rfl)
  (λx xs i1 i2 h=>have h:=Cz h;gC (i1 h.1) (i2 h.2)) c
theorem CV.FY (h:CV.cV n xs=true):CV.gn f xs=some xs:=by induction xs with|nil=>rfl|cons x xs ih=>have h:=Cz h;exact gC (CV.kR hf x h.1)<|ih h.2
theorem CF (h:(es.all λp=>p.2.lo n)=true):jh f es=some es:=by induction es with|nil=>rfl|cons p es ih=>have h:=Cz h;exact gC (CV.kR hf _ h.1)<|ih h.2
theorem ac1 (h:(es.all λp=>decide (p.2<n))=true):qi f es=some es:=by induction es with|nil=>rfl|cons p es ih=>have h:=Cz h;exact gC (hf _<|of_decide_eq_true h.1)<|ih h.2
theorem ae.kR (o:ae)(h:o.lo n=true):o.bI f=some o:=by
 cases o with
 |list xs=>exact congrArg (dg ae.list) (CV.FY hf h)|frame xs=>exact congrArg (dg ae.frame) (CF hf h)|cell c=>cases c with
  |none=>rfl|some c=>exact congrArg (dg λy=>ae.cell<|some y)<|CV.kR hf c h
 |bE C k=>exact congrArg (dg<|ae.bE C) (hf k<|of_decide_eq_true h)|bt xs=>exact congrArg (dg ae.bt) (CF hf h)|map xs=>exact congrArg (dg ae.map) (CF hf h)|d3 p b s cells d=>
  have h:=h;have h:=Cz h;apply(congrArg (λo=>QZ o λcs=>(ur f d).map<|ae.d3 p b s cs)<|ac1 hf h.1).trans;cases d with
  |none=>rfl|some k=>exact congrArg (λo=>dg (ae.d3 p b s cells)<|dg some o)<|hf k<|of_decide_eq_true h.2
 |bg F k=>exact congrArg (dg<|ae.bg F) (hf k<|of_decide_eq_true h)|jf k s=>exact congrArg (dg λj=>ae.jf j s) (hf k<|of_decide_eq_true h)|gc k i=>exact congrArg (dg λj=>ae.gc j i) (hf k<|of_decide_eq_true h)|_=>rfl
end
section
variable {f:Nat->Option Nat}{x:Str}{k j:Nat}(hj:f k=some j)
include hj
theorem ij:CV.bI f (.ab k)=some (.ab j):=congrArg (dg CV.ab) hj
theorem Ue (hr:jh f r=some r'):jh f ((x,.ab k)::r)=some ((x,.ab j)::r'):=gC (ij hj) hr
theorem uv:ae.bI f (.bt [(x,.ab k)])=some (.bt [(x,.ab j)]):=congrArg (dg ae.bt)<|Ue hj rfl
theorem Uf:ae.bI f (.cell (some (.ab k)))=some (.cell (some (.ab j))):=congrArg (dg λy=>ae.cell<|some y)<|ij hj
theorem rE:ae.bI f (.bE C k)=some (.bE C j):=congrArg (dg<|ae.bE C) hj
theorem Ug (hr:qi f r=some r'):qi f ((x,k)::r)=some ((x,j)::r'):=gC hj hr
end
theorem FZ {f:Nat->Option Nat}{p:pL}{b:aq}{s:d8}{cells cs:List (Str×Nat)}{dd ds:Option Nat}(hc:qi f cells=some cs)(hd:ur f dd=some ds):ae.bI f (.d3 p b s cells dd)=some (.d3 p b s cs ds):=(congrArg (λo=>QZ o λcs=>(ur f dd).map<|ae.d3 p b s cs) hc).trans<|congrArg (dg<|ae.d3 p b s cs) hd
noncomputable def Lk (n k:Nat):Option Nat:=if k<n then some k else none
theorem Uh k (h:k<n):Lk n k=some k:=if_pos h
theorem Ui:Mv (own++r) h own h (Lk own.length):=⟨λk j a e h=>(by
 unfold Lk at e;by_cases hk:k<own.length
 ·rw[if_pos hk] at e;obtain rfl:=dE e;exact by rwa[d2 hk] at h
 rw[if_neg hk] at e;exact nS e),λb o e x hn x=>⟨λq=>hn<|EY _ q,e⟩⟩
theorem RelV.drop c (hb:c.lo own.length=true)(q:RelV (own++r) h c v):RelV own h c v:=RelV.mv Ui c c v (c.kR Uh hb) q
theorem Uj [BEq α] [LawfulBEq α]:∀{l:List (α×β)} {x} {v},l.lookup x=some v->(x,v)∈l
 |(y,u)::r,x,v,h=>by rw[nD] at h;cases xU:x==y with|true=>rw[xU] at h;obtain rfl:=dE h;exact eq_of_beq xU▸.head _|false=>rw[xU] at h;exact .tail _<|Uj h
theorem Rep.drop {o:ae}(hb:o.lo own.length=true)(q:Rep (own++r) h o a):Rep own h o a:=Rep.mv Ui (o.kR Uh hb) q rfl
theorem Sx.drop {g:List ae}{r:List ai}(S:Sx (own++r) (st++g) s)(hl:own.length=st.length)(hb:(st.all λo=>o.lo st.length)=true):Sx own st s:=by refine⟨S.bj,hl,(xz.mp S.kj).1,λa ha=>S.fresh a<|EY _ ha,λi o a e1 e2=>?_,S.cU,S.bare,S.tk,S.ok⟩;have hi:=(bV.mp e1).1;refine Rep.drop ?_ (S.iV i o a (by rwa[d2 hi])<|by rwa[d2<|by exact o1 hi hl]);exact hl▸dI.mp hb o (c8 e1)
end
end
section
def Rm (d:Nat)(A:Around):Prop:=A.handled=none∧A.depth+d<Ka∧A.units+8*d<xA
theorem Rm.le (r:Rm d A)(h:d'<=d):Rm d' A:=⟨r.1,by have:=r.2.1;exact ah [_,_,_,_] (.lt (.a .o .i) .u<|.le .w .i<|.gt (.a .o .w) .u) rfl this h,by exact ah [_,_,_,_] (.lt (.a .o<|.m 8 .i) .u<|.c 8 0 (.le .w .i)<|.gt (.a .o<|.m 8 .w) .u) rfl r.2.2 h⟩
theorem Rm.in1 (r:Rm (d+1) A):Rm d A.in1:=⟨r.1,by have:=r.2.1;simp;exact ab' this,by simp;exact ah [_,_,_,_] (.lt (.a .o<|.m 8<|.a .i .u) .w<|.gt (.a (.a .o .u)<|.m 8 .i) .w) rfl r.2.2⟩
theorem Rm.deeper (r:Rm (d+1) A):Rm d (A.deeper env):=⟨r.1,by have:=r.2.1;simp [Around.deeper];exact KJ this,by simp;exact ah [_,_,_] (.lt (.a .o<|.m 8<|.a .i .j) .u<|.gt (.a (.a .o<|.n 3)<|.m 8 .i) .u) rfl r.2.2⟩
theorem Rm.units (r:Rm d A):A.units<xA:=by exact Fs r.2.2
theorem Rm.depth (r:Rm d A):A.depth<Ka:=by exact Fs r.2.1
inductive Ao {α:Type}(own:List ai)(s:az)(P:List ai->α->az->Prop)(v:α)(s':az):Prop|mk (av:List ai) (e:a9 own s av s') (p:P av v s')
def Tr (A:Around)(own:List ai)(s:az)(t:Sem α)(P:List ai->α->az->Prop):Prop:=be (aQ X.prog X.w) A t (Ao own s P) (λx x=>False) s
structure PV (st:List ae)(v:CV)(own:List ai)(x:an)(s:az):Prop where
 S:Sx own st s
 r:RelV own s.heap v x
structure Uk (st:List ae)(v:List CV)(own:List ai)(x:List an)(s:az):Prop where
 S:Sx own st s
 r:aF own s.heap v x
structure PE {α:Type}(st:List ae)(v:α)(own:List ai)(x:α)(s:az):Prop where
 S:Sx own st s
 e:x=v
section
variable {α β:Type}{A:Around}{own:List ai}{s:az}
theorem Tr.pure {P:List ai->α->az->Prop}(h:P own v s):Tr A own s (pure v) P:=bH ⟨own,.refl,h⟩
theorem Tr.bind {m:Sem α}{P:List ai->α->az->Prop}(h:Tr A own s m P)(k:∀av v s',a9 own s av s'->P av v s'->Tr A av s' (f v) Q):Tr A own s (m>>=f) Q:=
 aB (bC h (λv s' ⟨av,e,p⟩=>bC (k av v s' e p) (λu u ⟨aS,cY,q⟩=>⟨aS,e.trans cY,q⟩) λu u x=>x) λu u x=>x)
theorem Tr.ac2 {m:Sem α}{P:List ai->α->az->Prop}(h:Tr A own s m P)(k:∀av v s',a9 own s av s'->P av v s'->Q av v s'):Tr A own s m Q:=
 bC h (λv s' ⟨av,e,p⟩=>⟨av,e,k av v s' e p⟩) λu u x=>x
theorem Tr.holding {m:Sem α}{P:List ai->α->az->Prop}(h:Tr A own s m P):Tr A own s (holding vs m) P:=vN h
theorem Tr.operate {m:Sem an}{P:List ai->an->az->Prop}(h:Tr A own s m P):Tr A own s (operate vs m) P:=abi h
theorem Tr.skip {m:Sem Unit}{k:Sem α}{P:List ai->α->az->Prop}(hm:∀Q:Unit->az->Prop,Q () s->be (aQ X.prog X.w) A m Q (λx x=>False) s)(h:Tr A own s k P):Tr A own s (m>>=λx=>k) P:=aB<|hm _ h
theorem Tr.eh {pos:Pos}{k:Sem α}{P:List ai->α->az->Prop}(h:Tr A own s k P):Tr A own s (nE pos>>=λx=>k) P:=Tr.skip (λx q=>zM q) h
theorem Tr.eq {m:Sem α}{P:List ai->α->az->Prop}(e:m=m')(h:Tr A own s m' P):Tr A own s m P:=e▸h
end
structure aY where
 scope:d8
 locals:Nat
 cells:List (Str×Nat)
 tab:Option (ai×ai):=none
 deriving Inhabited
structure dK (own:List ai)(c:aY)(env:Env):Prop where
 scope:env.scope=c.scope
 kind:c.scope.kind = .function
 wc:own[c.locals]?=some env.locals
 cells:gZ own c.cells env.cells
 globals:env.globals=jy
 builtins:env.builtins=Kb
 tab:∀q,c.tab=some q->q∈X.cU∧env.code = .ref q.1
theorem dK.ext (R:dK own c env)(e:a9 own s av s'):dK av c env:=
 ⟨R.scope,R.kind,e.aM.bD _ _ R.wc,R.cells.aM e.aM,R.globals,R.builtins,R.tab⟩
theorem dK.hk (R:dK own c env):env.scope.kind=.function:=R.scope▸R.kind
theorem dK.kd (R:dK own c env){x:Str}:env.kindOf x=c.scope.names.lookup x:=congrArg (λz:d8=>z.names.lookup x) R.scope
inductive cZ where|next|brk|cont|ret (v:CV)
 deriving Inhabited
noncomputable def cZ.ctorIdx (x:cZ):Nat:=cZ.casesOn x 0 1 2 (λx=>3)
def xV (own:List ai)(h:bf):cZ->Flow->Prop
 |.next,f=>f=.next|.brk,f=>f=.brk|.cont,f=>f=.cont|.ret v,f=>∃x,f=.ret x∧RelV own h v x
structure PF (st:List ae)(f:cZ)(own:List ai)(x:Flow)(s:az):Prop where
 S:Sx own st s
 r:xV own s.heap f x
def a8 (d:Nat)(c:aY)(e:aq)(st:List ae)(v:CV)(ag:List ae):Prop:=∀A own s env,Rm d A->Sx own st s->dK own c env->Tr A own s (d9 e env) (PV ag v)
def fx (d:Nat)(c:aY)(e:aq)(st:List ae)(b:Bool)(ag:List ae):Prop:=∀A own s env,Rm d A->Sx own st s->dK own c env->Tr A own s (xB e env (d9 e env)) (PE ag b)
def dB (d:Nat)(c:aY)(e:bl)(st:List ae)(f:cZ)(ag:List ae):Prop:=∀A own s env,Rm d A->Sx own st s->dK own c env->Tr A own s (exec e env) (PF ag f)
def aI (d:Nat)(c:aY)(e:List bl)(st:List ae)(f:cZ)(ag:List ae):Prop:=∀A own s env,Rm d A->Sx own st s->dK own c env->Tr A own s (l4 e env) (PF ag f)
def bk (d:Nat)(f:CV)(args:List CV)(kw:List (Str×CV))(st:List ae)(v:CV)(ag:List ae):Prop:=∀A own s fv vs ks,Rm d A->Sx own st s->RelV own s.heap f fv->aF own s.heap args vs->cf own s.heap kw ks->Tr A own s (call fv vs ks) (PV ag v)
theorem gZ.lookup:∀{cs} {ad} {x} {n},gZ own cs ad->cs.lookup x=some n->∃a,ad.lookup x=some a∧own[n]?=some a
 |(y,m)::r,u,x,n,⟨a,iJ,e,hv,hr⟩,h=>by subst e;rw[nD] at h ⊢;cases xU:x==y with|true=>rw[xU] at h;obtain rfl:=dE h;exact⟨a,rfl,hv⟩|false=>rw[xU] at h;exact gZ.lookup hr h
theorem fE {o:Option α}{y:β}{P:Prop}(h:o.bind f=some y)(k:∀x,o=some x->f x=some y->P):P:=by cases o with|none=>nomatch h|some x=>exact k x rfl h
noncomputable def CV.uw:CV->Bool
 |.any=>true|_=>false
noncomputable def ae.Ul (o:ae):Option {vars // o=.frame vars}:=match o with
 |.frame v=>some ⟨v,rfl⟩|_=>none
noncomputable def ae.Um (o:ae):Option {v // o=.cell v}:=match o with
 |.cell v=>some ⟨v,rfl⟩|_=>none
noncomputable def ae.ls? (o:ae):Option {v // o=.list v}:=match o with
 |.list v=>some ⟨v,rfl⟩|_=>none
noncomputable def Ll (c:aY)(st:List ae)(x:Str):Option CV:=(st[c.locals]?).bind λo=>o.Ul.bind λf=>(f.1.lookup x).bind λv=>bif v.uw then none else some v
noncomputable def Ap (c:aY)(st:List ae)(x:Str):Option CV:=(c.cells.lookup x).bind λn=>(st[n]?).bind λo=>o.Um.bind λf=>f.1
def ji (c:aY)(st:List ae)(x:Str):Option CV:=
 match c.scope.names.lookup x with
 |some .local=>Ll c st x
 |some .cell=>Ap c st x
 |some .free=>Ap c st x
 |_=>none
theorem ac4 {c:aY}{st:List ae}{x:Str}{v:CV}{P:Prop}(h:Ll c st x=some v)(k:∀vars,st[c.locals]?=some (.frame vars)->vars.lookup x=some v->v≠.any->P):P:=
 fE h λo ho h=>fE h λf z h=>fE h λu hu h=>by cases ha:u.uw with|true=>rw[ha] at h;nomatch h|false=>rw[ha] at h;obtain rfl:=dE h;exact k f.1 (f.2▸ho) hu λe=>fL<|ha.symm.trans<|congrArg CV.uw e
theorem ac5 {c:aY}{st:List ae}{x:Str}{v:CV}{P:Prop}(h:Ap c st x=some v)(k:∀n,c.cells.lookup x=some n->st[n]?=some (.cell (some v))->P):P:=
 fE h λn hn h=>fE h λo ho h=>fE h λf u h=>k n hn<|h▸f.2▸ho
theorem Lm {A:Around}{own:List ai}{s:az}{c:aY}{env:Env}{st:List ae}{x:Str}{v:CV}(S:Sx own st s)(R:dK own c env) (h:ji c st x=some v)(mh:(x==("__classdict__":Str))=false){Q:an->az->Prop}(hQ:∀y,RelV own s.heap v y->Q y s):be (aQ X.prog X.w) A (loadName env x) Q (λu u=>False) s:=
 ((show (c.scope.names.lookup x=some .local∧Ll c st x=some v)∨((c.scope.names.lookup x=some .cell∨c.scope.names.lookup x=some .free)∧Ap c st x=some v) from by
  unfold ji at h;generalize c.scope.names.lookup x=k at h;cases k with
  |none=>nomatch h|some k=>cases k<;>first|exact .inl ⟨rfl,h⟩|exact .inr ⟨.inl rfl,h⟩|exact .inr ⟨.inr rfl,h⟩|nomatch h)).elim (λh=>ac4 h.2 λvars hf hl hn=>by
  obtain⟨a,ha,m,hm,hv⟩:=S.bD hf;obtain rfl:=dE<|R.wc.symm.trans ha;have:=hv x;rw[hl] at this;obtain⟨y,hy,hr⟩:=this.resolve_left λe=>hn<|dE e;exact wpAny_loadName_local R.hk (R.kd.trans h.1) hm hy<|hQ y hr) λh=>ac5 h.2 λn hn hc=>by
  obtain⟨a,ha,cv,hm,y,rfl,hr⟩:=S.bD hc;obtain⟨a',h1,h2⟩:=R.cells.lookup hn;obtain rfl:=dE<|ha.symm.trans h2;exact h.1.elim (λhk=>wpAny_loadName_cell R.hk (R.kd.trans hk) h1 hm<|hQ y hr) λhk=>wpAny_loadName_free R.hk (R.kd.trans hk) h1 hm (hQ y hr) mh
theorem CG {c:aY}{x:Str}{st:List ae}{vars:List (Str×CV)}{v:CV}(h1:c.scope.names.lookup x=some .local)(h2:st[c.locals]?=some (.frame vars))(h3:vars.lookup x=some v)(h4:v.uw=false):ji c st x=some v:=by unfold ji;rw[h1];show(st[c.locals]?).bind _=_;rw[h2];show(vars.lookup x).bind _=_;rw[h3];show(bif v.uw then none else some v)=_;rw[h4];rfl
theorem Un {c:aY}{x:Str}{st:List ae}{v:CV}{n:Nat}(h2:c.cells.lookup x=some n)(h3:st[n]?=some (.cell (some v))):Ap c st x=some v:=by unfold Ap;rw[h2];show(st[n]?).bind _=_;rw[h3];rfl
theorem Aq {c:aY}{x:Str}{st:List ae}{v:CV}{n:Nat}(h1:c.scope.names.lookup x=some .cell)(h2:c.cells.lookup x=some n)(h3:st[n]?=some (.cell (some v))):ji c st x=some v:=by unfold ji;exact h1▸Un h2 h3
def F4 (x:Str):CV->Prop
 |.aH a=>nsIn X.K jy x=some (some (.ref a))|.bi id=>nsIn X.K jy x=some none∧Q8 x=some (.builtin id)∧x≠"__name__"|.ty n=>nsIn X.K jy x=some none∧Q8 x=some (.type n)∧x≠"__name__"|_=>False
def Gl (gl:List (Str×CV)):Prop:=∀x v,gl.lookup x=some v->F4 x v
noncomputable def Uo (K:Frag)(p:Str×CV):Bool:=match p.2 with
 |.aH a=>decide (nsIn K jy p.1=some (some (.ref a)))|.bi id=>decide (nsIn K jy p.1=some none)&&(decide (Q8 p.1=some (.builtin id))&&decide (p.1≠"__name__"))|.ty id=>decide (nsIn K jy p.1=some none)&&(decide (Q8 p.1=some (.type id))&&decide (p.1≠"__name__"))|_=>false
theorem Up [Decidable a] [Decidable b] [Decidable c] (h:(decide a&&(decide b&&decide c))=true):a∧b∧c:=
 have q:=(bz _ _).mp h;have r:=(bz _ _).mp q.2
 ⟨of_decide_eq_true q.1,of_decide_eq_true r.1,of_decide_eq_true r.2⟩
theorem ac7 {p:Str×CV}(h:Uo X.K p=true):F4 p.1 p.2:=by obtain⟨x,v⟩:=p;cases v with|aH a=>exact of_decide_eq_true (p:=nsIn X.K jy x=some (some<|.ref a)) h|bi id=>exact Up h|ty id=>exact Up h|_=>exact nB h
theorem ac8 {gl:List (Str×CV)}(h:gl.all (Uo (kF P0))=true):Gl gl:=λx v e=>by
 rw[<-hX] at h;have:(x,v)∈gl:=by
  clear h;induction gl with
  |nil=>exact nS e|cons p gl ih=>rw[nD] at e;cases hb:x==p.1 with|true=>rw[hb] at e;obtain rfl:=dE e;exact eq_of_beq hb▸.head _|false=>rw[hb] at e;exact .tail _<|ih e
 exact ac7<|dI.mp h _ this
noncomputable def Uq:List (Str×CV):=[("len",.bi "len"),("range",.ty "range"),("list",.ty "list"),("bisect_right",.aH 98),("bisect_left",.aH 116),("min",.bi "min"),("max",.bi "max"),("Headers",.aH 281),("type",.ty "type"),("str",.ty "str"),("sorted",.bi "sorted"),("sum",.bi "sum"),("iter",.bi "iter"),("enumerate",.ty "enumerate"),("_iter_escaped_chars",.aH 123),("_strip_quoted_realnames",.aH 130),("_netrclex",.aH 76),("_name_disallowed_re",.aH 147),("_value_disallowed_re",.aH 152),("_law_spelled",.aH 299),("_law_desk",.aH 292),("insort_left",.aH 107),("insort_right",.aH 89),("_check_parenthesis",.aH 137),("_law_even",.aH 306),("_law_mates",.aH 311),("_law_dealt",.aH 318),("_law_run",.aH 323),("_law_halved",.aH 330),("_law_left",.aH 335),("_law_counters",.aH 340)]
theorem ac9:Gl Uq:=ac8 (by kernel_rfl)
theorem ac' {A:Around}{own:List ai}{s:az}{c:aY}{env:Env}{st:List ae}{x:Str}{v:CV}(S:Sx own st s)(R:dK own c env) (hk:c.scope.names.lookup x=some .globalImplicit)(h:F4 x v){Q:an->az->Prop}(hQ:∀y,RelV own s.heap v y->Q y s):be (aQ X.prog X.w) A (loadName env x) Q (λu u=>False) s:=by
 have T:=S.ok.fw;have go:be (aQ X.prog X.w) A (loadGlobal env x) Q (λu u=>False) s:=by cases v with|aH a=>exact loadGlobal_global (by rw[R.globals];exact T.g.keeps S.bj) (mg_of S.ok.k T.g h) (hQ _ rfl)|bi id=>exact loadGlobal_builtin (by rw[R.globals];exact T.g.keeps S.bj) (mg_none_of S.ok.k T.g h.1) (by rw[R.builtins];exact T.b.keeps S.bj) ((T.builtins x h.2.2).trans h.2.1) (hQ _ rfl)|ty id=>exact loadGlobal_builtin (by rw[R.globals];exact T.g.keeps S.bj) (mg_none_of S.ok.k T.g h.1) (by rw[R.builtins];exact T.b.keeps S.bj) ((T.builtins x h.2.2).trans h.2.1) (hQ _ rfl)|_=>exact h.elim
 have hx:=R.kd.trans hk;unfold loadName;simp [Env.blockKind,R.hk,hx,ScopeKind.isAnnotationScope,if_false];exact go
noncomputable def mj (vars:List (Str×CV))(x:Str)(v:CV):List (Str×CV):=match vars with
 |[]=>[(x,v)]|(y,u)::r=>if x==y then(x,v)::r else(y,u)::mj r x v
theorem Ur {y:Str}{u:CV}{x:Str}:mj ((y,u)::r) x v=if x==y then(x,v)::r else(y,u)::mj r x v:=rfl
theorem Us:∀vars x y v,(mj vars x v).lookup y=if y=x then some v else vars.lookup y
 |[],x,y,v=>by
  show([(x,v)]).lookup y=_;rw[nD];by_cases h:y=x
  ·simp [h]
  simp [h,beq_eq_false_iff_ne.mpr h]
 |(z,u)::r,x,y,v=>by
  rw[Ur];by_cases hz:x=z
  ·subst hz;simp [beq_self_eq_true,if_true,nD];by_cases h:y=x
   ·simp [h]
   simp [h,beq_eq_false_iff_ne.mpr h]
  simp [beq_eq_false_iff_ne.mpr hz,gJ,if_false,nD];by_cases hy:y=z
  ·subst hy;simp [rc hz]
  simp [beq_eq_false_iff_ne.mpr hy];exact Us r x y v
def Ut (c:aY)(st:List ae)(x:Str)(v:CV):Option (List ae):=(st[c.locals]?).bind λo=>o.Ul.bind λf=>match f with
 |⟨vars,u⟩=>some (st.set c.locals (.frame (mj vars x v)))
noncomputable def Uu (c:aY)(st:List ae)(x:Str)(v:CV):Option (List ae):=(c.cells.lookup x).bind λn=>(st[n]?).bind λo=>o.Um.bind λu=>some (st.set n (.cell (some v)))
def kn (c:aY)(st:List ae)(x:Str)(v:CV):Option (List ae):=
 match c.scope.names.lookup x with
 |some .local=>Ut c st x v
 |some .cell=>Uu c st x v
 |_=>none
theorem ada {c:aY}{x:Str}{st:List ae}{vars:List (Str×CV)}{v:CV}(h1:c.scope.names.lookup x=some .local)(h2:st[c.locals]?=some (.frame vars)):kn c st x v=some (st.set c.locals (.frame (mj vars x v))):=by unfold kn;rw[h1];show(st[c.locals]?).bind _=_;rw[h2];rfl
theorem F5 {A:Around}{own:List ai}{s:az}{c:aY}{env:Env}{st ag:List ae}{x:Str}{v:CV}{y:an}(S:Sx own st s)(R:dK own c env) (h:kn c st x v=some ag)(hr:RelV own s.heap v y){P:List ai->Unit->az->Prop}(hP:∀s',a9 own s own s'->Sx own ag s'->P own () s'):Tr A own s (bindName env x y) P:=
 wpAny_bindName (show Tr A own s (storeName env x y) P from((show (c.scope.names.lookup x=some .local∧Ut c st x v=some ag)∨(c.scope.names.lookup x=some .cell∧Uu c st x v=some ag) from by
  unfold kn at h;generalize c.scope.names.lookup x=k at h;cases k with
  |none=>nomatch h|some k=>cases k<;>first|exact .inl ⟨rfl,h⟩|exact .inr ⟨rfl,h⟩|nomatch h)).elim (λh=>fE h.2 λo hf h'=>fE h' λf u h'=>by
  obtain⟨vars,f⟩:=f;rw[f] at hf;obtain rfl:=dE h';obtain⟨a,ha,m,hm,hv⟩:=S.bD hf;obtain rfl:=dE<|R.wc.symm.trans ha;exact wpAny_storeName_local (R.kd.trans h.1) hm (λh' hn hs=>⟨own,a9.set S R.wc hs.extBut,hP _ (a9.set S R.wc hs.extBut) (S.set R.wc hs.extBut λg=>⟨_,hn,λz=>by
   rw[Us];by_cases hz:z=x
   ·rw[if_pos hz,if_pos hz];exact .inr ⟨y,rfl,hr.aM g⟩
   rw[if_neg hz,if_neg hz];exact(hv z).aM g⟩)⟩)<|by rw[R.hk];rfl) λh=>fE h.2 λn hn h'=>fE h' λo hc h'=>fE h' λf u h'=>by
  rw[f.2] at hc;obtain rfl:=dE h';obtain⟨a,ha,cv,hm,_⟩:=S.bD hc;obtain⟨a',h1,h2⟩:=R.cells.lookup hn;obtain rfl:=dE<|ha.symm.trans h2;exact wpAny_storeName_cell R.hk (R.kd.trans h.1) h1 hm λh' hv hs=>⟨own,a9.set S ha hs.extBut,hP _ (a9.set S ha hs.extBut)<|S.set ha hs.extBut λg=>⟨_,hv,y,rfl,hr.aM g⟩⟩)
theorem aF.append:∀{xs ys} {vs ws},aF own h xs vs->aF own h ys ws->aF own h (xs++ys) (vs++ws)
 |[],u,o,z,e,r=>by subst e;exact r|x::xs,u,o,z,⟨v,r,e,hv,hr⟩,q=>by subst e;exact⟨v,_,rfl,hv,aF.append hr q⟩
theorem aF.length:∀{xs} {vs},aF own h xs vs->xs.length=vs.length
 |[],u,e=>by subst e;rfl|x::xs,u,⟨v,r,e,o,hr⟩=>by subst e;simp [aF.length hr]
theorem aF.get:∀{xs} {vs} {i:Nat} {x},aF own h xs vs->xs[i]?=some x->∃v,vs[i]?=some v∧RelV own h x v
 |[],u,o,z,t,e=>by exact nS e|x::xs,u,0,o,⟨v,r,e,hv,hr⟩,q=>by subst e;obtain rfl:=dE q;exact⟨v,rfl,hv⟩|x::xs,u,i+1,o,⟨v,r,e,z,hr⟩,q=>by subst e;rw[re] at q;obtain⟨w,h1,h2⟩:=aF.get hr q;exact⟨w,by rw[re];exact h1,h2⟩
theorem Sx.newList {own:List ai}{st:List ae}{s:az}{xs:List CV}{vs:List an}{n:Nat}(S:Sx own st s)(r:aF own s.heap xs vs):Ao own s (PV (st++[.list xs]) (.ab st.length)) (.ref s.heap.objs.size) {s with heap:=s.heap.push {cls:=.type "list",data:=.seq vs.toArray n}}:=by have ml:∀b o,s.heap.get? b=some o->(s.heap.push {cls:=.type "list",data:=.seq vs.toArray n}).get? b=some o:=λb o e=>fT _ e;have iA:s.heap.get? s.heap.objs.size=none:=iI<|aG _;refine⟨own++[s.heap.objs.size],a9.push ml iA,S.push ml iA λg=>⟨vs,n,iy _ rfl,aF.aM g _ r⟩,_,?_,rfl⟩;rw[<-S.len,dT<|aG _];simp
theorem Sx.adc {own:List ai}{st:List ae}{s:az}{xs:List CV}{vs:List an}{n:Nat}(S:Sx own st s)(r:aF own s.heap xs vs):Ao own s (PV st (.cB xs)) (.ref s.heap.objs.size) {s with heap:=s.heap.push {cls:=.type "tuple",data:=.seq vs.toArray n}}:=by have ml:∀b o,s.heap.get? b=some o->(s.heap.push {cls:=.type "tuple",data:=.seq vs.toArray n}).get? b=some o:=λb o e=>fT _ e;have iA:s.heap.get? s.heap.objs.size=none:=iI<|aG _;have E3:a9 own s own {s with heap:=s.heap.push {cls:=.type "tuple",data:=.seq vs.toArray n},toks:=s.toks}:=a9.more ml;exact⟨own,E3,S.more ml,_,vs,n,rfl,S.jO iA,S.mf iA,iy _ rfl,aF.aM E3.aM _ r⟩
end
section
def ade (d:Nat)(t:an->Sem an)(a:CV)(st:List ae)(v:CV)(ag:List ae):Prop:=∀A own s x,Rm d A->Sx own st s->RelV own s.heap a x->Tr A own s (t x) (PV ag v)
def Ar (d:Nat)(t:an->an->Sem an)(a b:CV)(st:List ae)(v:CV)(ag:List ae):Prop:=∀A own s x y,Rm d A->Sx own st s->RelV own s.heap a x->RelV own s.heap b y->Tr A own s (t x y) (PV ag v)
def rF (d:Nat)(a:CV)(st:List ae)(b:Bool)(ag:List ae):Prop:=∀A own s x,Rm d A->Sx own st s->RelV own s.heap a x->Tr A own s (zN x) (PE ag b)
structure PM (st:List ae)(f:CV)(first:List CV)(own:List ai)(r:an×List an)(s:az):Prop where
 S:Sx own st s
 hf:RelV own s.heap f r.1
 hs:aF own s.heap first r.2
def gM (d:Nat)(name:Str)(a:CV)(st:List ae)(f:CV)(first:List CV):Prop:=∀A own s x pl,Rm d A->Sx own st s->RelV own s.heap a x->Tr A own s (getMethod x name pl) (PM st f first)
def oM (f:CV)(st:List ae):Prop:=∀own s x,Sx own st s->RelV own s.heap f x->∃k,Looks (aQ X.prog X.w) s.heap (keeperOf x) k
noncomputable abbrev rG (d:Nat)(name:Str):=ade d λx=>getAttr x name true
noncomputable abbrev oN (d:Nat)(op:B0):=Ar d (binaryOp op)
noncomputable abbrev xW (d:Nat)(op:B0):=Ar d (inplaceOp op)
noncomputable abbrev jj (d:Nat)(op:ua):=Ar d (compareOp op)
noncomputable abbrev fF (d:Nat)(adf:aq):=Ar d λo i=>do Kd adf (<-abj o) o i
inductive iB|cw|yes|no|aE (v:CV) (st:List ae)|val (v:CV)|iX (f:cZ) (st:List ae)|c7 (v:CV) (f:List ae->List ae)|fl (f:cZ) (g:List ae->List ae)|bg (f:CV) (first:List CV)
structure Z where
 st:List ae
 sc:List iB:=[]
 ob:List Prop:=[]
def Z.ok (z:Z):Prop:=∀p∈z.ob,p
theorem aX {st:List ae}{sc:List iB}:Z.ok ⟨st,sc,[]⟩:=λp hp=>nomatch hp
theorem am {st:List ae}{sc:List iB}{p:Prop}{ob:List Prop}(h:p)(k:Z.ok ⟨st,sc,ob⟩):Z.ok ⟨st,sc,p::ob⟩:=λq hq=>
 (pO.mp hq).elim (λe=>e▸h) (k q)
theorem As {st ag:List ae}{sc mm:List iB}{p:Prop}{ob:List Prop}(k:Z.ok ⟨st,sc,p::ob⟩):Z.ok ⟨ag,mm,ob⟩:=λq hq=>k q<|.tail _ hq
theorem At {st:List ae}{sc:List iB}{p:Prop}{ob:List Prop}(k:Z.ok ⟨st,sc,p::ob⟩):p:=k _<|.head _
structure RZ (α:Type)(P:List ae->α->List ae->Prop)(z:Z) where
 v:α
 z':Z
 ok:z'.ok->z.ok∧P z.st v z'.st
noncomputable def EZ (α:Type)(P:List ae->α->List ae->Prop):=(z:Z)->Option (RZ α P z)
abbrev KZ (P:List ae->α->List ae->Prop)(S:List ae->β->List ae->Prop)(a:α):List ae->β->List ae->Prop:=λaw v aJ=>∀st,P st a aw->S st v aJ
section
variable {α β:Type}{P Q:List ae->α->List ae->Prop}{S:List ae->β->List ae->Prop}
noncomputable def Ln (o:Option α)(k:(v:α)->o=some v->Option β):Option β:=match o,k with
 |some v,k=>k v rfl|none,x=>none
noncomputable def EZ.no:EZ α P:=λx=>none
noncomputable def EZ.ret (v:α)(h:∀st,P st v st):EZ α P:=λz=>some ⟨v,z,λk=>⟨k,h _⟩⟩
noncomputable def RZ.to (o:Option (RZ α Q z))(h:∀(v:α)(z':Z),(z'.ok->z.ok∧Q z.st v z'.st)->z'.ok->Lo.ok∧P Lo.st v z'.st):Option (RZ α P Lo):=match o with
 |none=>none|some ⟨v,z',ok⟩=>some ⟨v,z',h v z' ok⟩
def EZ.imp (p:EZ α Q)(h:∀{st v ag},Q st v ag->P st v ag):EZ α P:=λz=>RZ.to (p z) λx x ok k=>⟨(ok k).1,h (ok k).2⟩
def EZ.bind (p:EZ α P)(q:∀a,EZ β (KZ P S a)):EZ β S:=λz=>match p z with
 |none=>none|some ⟨a,z',ok⟩=>RZ.to (q a z') λx x Lp k=>⟨(ok (Lp k).1).1,(Lp k).2 _ (ok (Lp k).1).2⟩
noncomputable def EZ.ux (p:Prop)(v:α)(h:p->∀st,P st v st):EZ α P:=λz=>match z with
 |⟨st,sc,ob⟩=>some ⟨v,⟨st,sc,p::ob⟩,λk=>⟨As k,h (At k) _⟩⟩
def EZ.Uv (p:List ae->Prop)(q:EZ α (λst v ag=>p st->P st v ag)):EZ α P:=λz=>match z with
 |⟨st,sc,ob⟩=>RZ.to (q ⟨st,sc,p st::ob⟩) λx x ok k=>⟨As (ok k).1,(ok k).2 (At (ok k).1)⟩
def EZ.F6 (o:Option γ)(q:(v:γ)->o=some v->EZ α P):EZ α P:=λz=>Ln o λv h=>q v h z
def EZ.Lq (f:List ae->Option γ)(q:(v:γ)->EZ α (λst a ag=>f st=some v->P st a ag)):EZ α P:=λz=>match z with
 |⟨st,sc,ob⟩=>Ln (f st) λv h=>RZ.to (q v ⟨st,sc,ob⟩) λx x ok k=>⟨(ok k).1,(ok k).2 h⟩
noncomputable def EZ.F7 (b:Bool)(y:b=true->EZ α P)(n:b=false->EZ α P):EZ α P:=match b,y,n with
 |true,y,x=>y rfl|false,x,n=>n rfl
noncomputable def EZ.adg (vs:List CV){P:List ae->CV->List ae->Prop}(h:vs.length<=cX->∀st,P st (.ab st.length) (st++[.list vs])):EZ CV P:=λz=>match z with
 |⟨st,sc,ob⟩=>some ⟨.ab st.length,⟨st++[.list vs],sc,(vs.length<=cX)::ob⟩,λk=>⟨As k,h (At k) _⟩⟩
noncomputable def iB.adh:iB->List ae->Option (CV×List ae)
 |.aE v ag,x=>some (v,ag)|.val v,st=>some (v,st)|.c7 v f,st=>some (v,f st)|x,u=>none
noncomputable def iB.adi:iB->List ae->Option (cZ×List ae)
 |.iX f ag,x=>some (f,ag)|.fl f g,st=>some (f,g st)|x,u=>none
noncomputable def EZ.Au (f:iB->List ae->Option (α×List ae))(P:List ae->α->List ae->Prop):EZ α P:=λz=>match z with
 |⟨st,sc,ob⟩=>match sc with
   |[]=>none|s::r=>match f s st with
     |none=>none|some (v,ag)=>some ⟨v,⟨ag,r,P st v ag::ob⟩,λk=>⟨As k,At k⟩⟩
abbrev EZ.ask (P:List ae->CV->List ae->Prop):EZ CV P:=.Au iB.adh P
noncomputable def EZ.Uw (q:Bool)(y:EZ α (λst v ag=>q=true->P st v ag))(n:EZ α (λst v ag=>q=false->P st v ag)):EZ α P:=match q,y,n with
 |true,y,x=>y.imp λh=>h rfl|false,x,n=>n.imp λh=>h rfl
def EZ.by (p:Prop)(y:EZ α (λst v ag=>p->P st v ag)):EZ α P:=λz=>match z with
 |⟨st,sc,ob⟩=>RZ.to (y ⟨st,sc,p::ob⟩) λx x ok k=>⟨As (ok k).1,(ok k).2 (At (ok k).1)⟩
def EZ.xX (q:Bool)(y:EZ α (λst v ag=>q=true->P st v ag))(n:EZ α (λst v ag=>q=false->P st v ag)):EZ α P:=λz=>match z with
 |⟨st,sc,ob⟩=>match sc with
   |.yes::r=>RZ.to (EZ.by _ y ⟨st,r,ob⟩) λx x ok k=>ok k|.no::r=>RZ.to (EZ.by _ n ⟨st,r,ob⟩) λx x ok k=>ok k|.cw::r=>RZ.to (EZ.Uw q y n ⟨st,r,ob⟩) λx x ok k=>ok k|sc=>EZ.Uw q y n ⟨st,sc,ob⟩
noncomputable def EZ.bg {d:Nat}(name:Str)(a:CV){P:List ae->CV->List ae->Prop}(q:∀f first,EZ CV (λst v ag=>gM d name a st f first->P st v ag)):EZ CV P:=λz=>match z with
 |⟨st,sc,ob⟩=>match sc with
   |.bg f first::r=>RZ.to (q f first ⟨st,r,gM d name a st f first::ob⟩) λx x ok k=>⟨As (ok k).1,(ok k).2 (At (ok k).1)⟩
   |_=>none
noncomputable def RZ.out (o:Option (RZ α P z)):Option (α×Z):=match o with
 |none=>none|some ⟨v,z',x⟩=>some (v,z')
theorem EZ.run {o:Option (RZ α P z)}(h:RZ.out o=some (v,z'))(k:z'.ok):P z.st v z'.st:=by cases o with|none=>nomatch h|some r=>obtain⟨v,z',ok⟩:=r;obtain rfl:=(Prod.mk.inj<|dE h).1;obtain rfl:=(Prod.mk.inj<|dE h).2;exact(ok k).2
end
noncomputable def Ux:Const->Option CV
 |.none=>some .none|.bool b=>some (.bool b)|.int i=>some (.int i)|.str x=>some (.str x)|_=>none
noncomputable def d4 (x y:Str):Bool:=x.cps.toList==y.cps.toList
noncomputable def bP (x y:Str):Bool:=decide (x.cps.toList<y.cps.toList)
noncomputable def ko (x y:Str):Bool:=!(Builtin.Str.occurrences y x 0 y.length 1).isEmpty
noncomputable def adj (e:aq):Bool:=match e with
 |.Name id x=>id==("super":Str)|_=>false
def xY (o:aq):Bool:=match o with
 |.Call f x u z=>!adj f|_=>true
noncomputable def lu (e:aq):Bool:=bT e.ctorIdx 22
noncomputable def Av (e:aq):Bool:=bT e.ctorIdx 20
end
section
set_option backward.match.sparseCases true
variable {d:Nat}{c:aY}
structure qj (d:Nat)(c:aY)(es:List aq)(st:List ae)(vs:List CV)(ag:List ae):Prop where
 ns:∀env pos,(pP pos (l6 es env)).any (·.1)=false
 h:∀A own s env pos,Rm d A->Sx own st s->dK own c env->Tr A own s (zO (pP pos (l6 es env))) (Uk ag vs)
structure PKs (st:List ae)(ks:List (Str×CV))(zs:List Str)(own:List ai)(xs:List an)(s:az):Prop where
 S:Sx own st s
 r:cf own s.heap ks (zs.zip xs)
structure sV (d:Nat)(c:aY)(fg:List ub)(st:List ae)(ks:List (Str×CV))(ag:List ae):Prop where
 all:∀env pos,(vO pos (vP fg env)).all (·.1.isSome)=true
 any:∀env pos,(vO pos (vP fg env)).any (·.1.isNone)=false
 h:∀A own s env pos,Rm d A->Sx own st s->dK own c env->
  Tr A own s (evalAll ((vO pos (vP fg env)).map (·.2))) (PKs ag ks ((vO pos (vP fg env)).filterMap (·.1)))
def Aw (d:Nat)(c:aY)(e:Option aq)(st:List ae)(v:CV)(ag:List ae):Prop:=∀A own s env,Rm d A->Sx own st s->dK own c env->Tr A own s (valueOrNone (evalOpt e env)) (PV ag v)
def Ax (d:Nat)(c:aY)(op:zP)(es:List aq)(st:List ae)(b:Bool)(ag:List ae):Prop:=∀A own s env,Rm d A->Sx own st s->dK own c env->Tr A own s (allTrue op es env) (PE ag b)
section
variable {st aw aJ cE ag:List ae}{a b v f:CV}
theorem CH {k:Const}{x:Nat}{pos:Pos}(h:Ux k=some v):a8 d c (.Constant k x pos) st v st:=λA own s env u S R=>by
 cases k<;>first|(obtain rfl:=dE h)|nomatch h
 ·exact Tr.pure ⟨S,rfl⟩
 ·exact Tr.pure ⟨S,rfl⟩
 ·exact wpAny_mkInt ⟨own,.toks,S.toks _,_,rfl⟩
 exact B1 ⟨own,.toks,S.toks _,_,rfl⟩
theorem eu {x:Str}{pos:Pos}(hd:(x==("__debug__":Str))=false)(hc:(x==("__classdict__":Str))=false)(h:ji c st x=some v):a8 d c (.Name x pos) st v st:=λA own s env u S R=>
 Tr.eh (Tr.eq (if_neg<|Q9.mp hd)<|Lm S R h hc λy hy=>⟨own,.refl,S,hy⟩)
theorem Uy {l:aq}{pos:Pos}(hl:a8 d c l st a aw)(hr:a8 d c r aw b aJ)(ho:oN d op a b aJ v cE):a8 d c (.BinOp l op r pos) st v cE:=λA own s env q S R=>
 (hl A own s env q S R).bind λaO x s₁ bF p=>(Tr.holding<|hr A aO s₁ env q p.S<|R.ext bF).bind λaS y aR cY t=>
  Tr.eh (Tr.operate<|ho A aS aR x y q t.S (p.r.aM cY.aM) t.r)
theorem Uz (hm:B2 op r=false):markedEach [op] [r] (evalEach [r] env)=[d9 r env]:=
 congrArg (λx=>[x]) (ap3 hm)
theorem adn {l:aq}{pos:Pos}(hm:B2 op r=false)(hl:a8 d c l st a aw)(hr:a8 d c r aw b aJ)(ho:jj d op a b aJ v cE):a8 d c (.Compare l [op] [r] pos) st v cE:=λA own s env q S R=>by
 rw[arm_eval_Compare,Uz hm];exact(hl A own s env q S R).bind λaO x s₁ bF p=>(Tr.holding<|hr A aO s₁ env q p.S<|R.ext bF).bind λaS y aR cY t=>
  Tr.eh (Tr.operate<|ho A aS aR x y q t.S (p.r.aM cY.aM) t.r)
theorem ado {x:aq}{pos:Pos}{b:Bool}(h:a8 d c x st a aw)(ht:rF d a aw b aJ):a8 d c (.UnaryOp .Not x pos) st (.bool !b) aJ:=λA own s env q S R=>
 (h A own s env q S R).bind λaO x s₁ bF p=>Tr.eh (Tr.holding (Tr.holding (
  (ht A aO s₁ x q p.S p.r).bind λaS y aR cY t=>Tr.pure ⟨t.S,congrArg (λz=>an.bool !z) t.e⟩)))
theorem UA {x:aq}{pos:Pos}{i:Int}(h:a8 d c x st (.int i) aw):a8 d c (.UnaryOp .USub x pos) st (.int (-i)) aw:=λA own s env q S R=>
 (h A own s env q S R).bind λaO x s₁ bF p=>p.r.elim λt e=>by subst e;exact Tr.eh<|Tr.holding<|P.neg_int ⟨aO,.toks,p.S.toks _,_,rfl⟩
theorem UB {t x y:aq}{pos:Pos}{b:Bool}(h:fx d c t st b aw)(hx:b=true->a8 d c x aw v aJ)(hy:b=false->a8 d c y aw v aJ):a8 d c (.IfExp t x y pos) st v aJ:=λA own s env q S R=>
 (h A own s env q S R).bind λaO r s₁ bF p=>match r,p with
  |true,p=>hx p.e.symm A aO s₁ env q p.S (R.ext bF)|false,p=>hy p.e.symm A aO s₁ env q p.S<|R.ext bF
set_option tactic.hygienic true in
theorem adp o {w:Sem an}:bif xY o then attributeBase o name env w=w else True:=by
 cases o<;>try rfl
 rename_i f args fg pos;cases f<;>try rfl
 rename_i id p
 match args,fg with
 |x::u,z=>show bif !(id==_) then _ else _;cases (id==("super"))<;>first|rfl|trivial
 |[],x::u=>show bif !(id==_) then _ else _;cases (id==("super"))<;>first|rfl|trivial
 |[],[]=>
  show bif !(id==("super")) then(if(!(id==("super"))||(name==("__class__"))||_||_)=true then w else _)=w else True;cases (id==("super"))
  ·rfl
  trivial
theorem Lr {o:aq}(h:xY o=true){P:List ai->an->az->Prop}(k:Tr A own s (d9 o env) P):Tr A own s (attributeBase o name env (d9 o env)) P:=by have e:=adp o (name:=name) (env:=env) (w:=d9 o env);rw[h] at e;exact Tr.eq e k
theorem Ls {k:Keeper}(hk:Looks (aQ X.prog X.w) s.heap (keeperOf fv) k)(h:be (aQ X.prog X.w) A (call fv ps ks) Q (λu u=>False) s):
 be (aQ X.prog X.w) A (do
  let r<-match<-keeperOf fv,false with
   |.frame,true=>Ra starredCall fv ps ks
   |.frame,false=>if n>30 then call fv ps ks else Ra plainCall fv ps ks
   |.boundFrame,false=>if n>30 then call fv ps ks else Ra callOfAMethodObject fv ps ks
   |.machine,false=>call fv ps ks
   |o,z=>operate vs (call fv ps ks)
  holding [r] point
  pure r) Q (λu u=>False) s:=by
 refine aB<|hk.here ?_;have tail:∀{t:Sem an},be (aQ X.prog X.w) A t Q (λu u=>False) s->be (aQ X.prog X.w) A (t>>=λr=>holding [r] point>>=λu=>pure r) Q (λu u=>False) s:=
  λht=>aB<|bC ht (λr s' p=>aB<|vN<|wpAny_point<|bH p) λu u x=>x
 have UC mk:be (aQ X.prog X.w) A (if n>30 then call fv ps ks>>=λr=>holding [r] point>>=λu=>pure r else Ra mk fv ps ks>>=λr=>holding [r] point>>=λu=>pure r) Q (λu u=>False) s:=by
  by_cases hn:n>30
  ·rw[if_pos hn];exact tail h
  rw[if_neg hn];exact tail<|Calls.wpAny_keep h
 cases k
 ·exact UC _
 ·exact UC _
 ·exact tail h
 exact tail<|abi h
structure PA (st:List ae)(vs:List CV)(ks:List (Str×CV))(own:List ai)(a:Args)(s:az):Prop where
 S:Sx own st s
 p:aF own s.heap vs a.pos
 k:cf own s.heap ks a.kw
theorem ads (hL:L.any (·.1)=false)(hW:W.all (·.1.isSome)=true):Ke fv true L W=(do
 let p<-zO L
 holding (p++(none:Option an).toList) (do
  let kw:=(W.filterMap (·.1)).zip (<-evalAll (W.map (·.2)))
  return ⟨p,kw⟩)):=by
 unfold Ke;rw[hW]
 match L,hL with
 |[],x=>rfl|(false,x)::u,o=>rfl|(true,x)::u,h=>nomatch h
theorem UD {pos:Pos}(hv:qj d c es st vs aw)(hk:sV d c fg aw ks aJ)(q:Rm d A)(S:Sx own st s)(R:dK own c env):Tr A own s (Ke fv true (pP pos (l6 es env)) (vO rH (vP fg env))) (PA aJ vs ks):=
 Tr.eq (ads (hv.ns _ _)<|hk.all _ _) ((hv.h A own s env pos q S R).bind λaO p s₁ bF t=>Tr.holding ((hk.h A aO s₁ env rH q t.S<|R.ext bF).bind λaS k aR cY u=>
  Tr.pure ⟨u.S,aF.aM cY.aM _ t.r,u.r⟩))
theorem UE {pos:Pos}(hv:qj d c es st vs aw)(hk:sV d c fg aJ ks cE):((pP pos (l6 es env)).any (·.1)||(vO rH (vP fg env)).any (·.1.isNone))=false:=by rw[hv.ns,hk.any];rfl
theorem UF {f:aq}{args:List aq}{fg:List ub}{pos:Pos}{vs:List CV}{ks:List (Str×CV)}{Q:an->az->Prop}(hp:Av f=false) (hf:a8 d c f st a aw)(hv:qj d c args aw vs aJ)(hk:sV d c fg aJ ks cE)(uy:oM a cE){A:Around}{own:List ai}{s:az}{env:Env}(q:Rm d A)(S:Sx own st s)(R:dK own c env) (hc:∀aS aR fv ws kk,a9 own s aS aR->Sx aS cE aR->RelV aS aR.heap a fv->aF aS aR.heap vs ws->cf aS aR.heap ks kk->be (aQ X.prog X.w) A (call fv ws kk) Q (λu u=>False) aR):be (aQ X.prog X.w) A (d9 (.Call f args fg pos) env) Q (λu u=>False) s:=by have e:=(show bif Av f then True else  d9 (.Call f args fg pos) env=(do callWith pos (<-d9 f env) [] (pP pos<|l6 args env) (vO pos<|vP fg env)) from by cases f<;>first|exact trivial|rfl);rw[hp] at e;refine Eq.mpr (congrArg (λt=>be _ _ t _ _ _) e)<|aB<|bC (hf A own s env q S R) (λfv s₁ t=>?_) λu u x=>x;obtain⟨aO,bF,iC⟩:=t;refine aB<|bC (Tr.holding<|UD hv hk q iC.S<|R.ext bF) (λp aR t=>aB<|zM ?_) λu u x=>x;obtain⟨aS,cY,kT⟩:=t;rw[UE hv hk];have cx:=iC.r.aM cY.aM;exact(uy aS aR fv kT.S cx).elim λk eV=>Ls eV<|hc aS aR fv _ _ (bF.trans cY) kT.S cx kT.p kT.k
theorem adu {f:aq}{args:List aq}{fg:List ub}{pos:Pos}{vs:List CV}{ks:List (Str×CV)}{mS:List ae}(hp:Av f=false) (hf:a8 d c f st a aw)(hv:qj d c args aw vs aJ)(hk:sV d c fg aJ ks cE)(uy:oM a cE)(hc:bk d a vs ks cE v mS):a8 d c (.Call f args fg pos) st v mS:=λA own s env q S R=>UF hp hf hv hk uy q S R λaS aR fv ws kk bX bw fQ cx di=>
 bC (hc A aS aR fv ws kk q bw fQ cx di) (λu u t=>match t with|⟨av,e,p⟩=>⟨av,bX.trans e,p⟩) λu u x=>x
end
end
section
variable {d:Nat}{c:aY}
section
variable {st aw aJ cE mS ag:List ae}{a b v f:CV}
theorem adv {l:List (Bool×α)}(h:l.any (·.1)=false):l.all (λp=>!p.1)=true:=by rw[List.all_eq_not_any_not,E0];rw[<-h];congr 1;funext p;exact abk _
theorem adw (hL:L.any (·.1)=false)(hW:W.all (·.1.isSome)=true)(hn:n<29):Rb n L W=true:=by unfold Rb;rw[hW,cP,bz];exact⟨adv hL,decide_eq_true<|by split<;>(first|exact ah [_] (.lt .o (.n 29)<|.gt (.a .o .k)<|.n 30) rfl hn|exact ah [_] (.lt .o (.n 29)<|.gt (.a .o .j)<|.n 30) rfl hn)⟩
theorem Lu {o:aq}{pos:Pos}(hb:xY o=true)(bJ:args.length+fg.length<29)(ho:a8 d c o st a aw)(hm:gM d name a aw f first)(hv:qj d c args aw vs aJ)(hk:sV d c fg aJ ks cE)(uy:oM f cE)(hc:bk d f (first++vs) ks cE v mS)(xZ:mn.endLine=pos.line):a8 d c (.Call (.Attribute o name mn) args fg pos) st v mS:=λA own s env q S R=>by refine(Lr hb<|ho A own s env q S R).bind λaO ov s₁ bF p=>Tr.eh ?_;unfold methodCall;rw[adw (hv.ns _ _) (hk.all _ _) bJ];refine(Tr.holding<|hm A aO s₁ ov _ q p.S p.r).bind λaS ff aR cY t=>?_;have e:methodCallPos true o env mn pos=pure pos:=if_pos (by rw[xZ];simp);dsimp only;rw[e,pure_bind];refine(Tr.holding<|UD hv hk q t.S<|(R.ext bF).ext cY).bind λdt g bu jP u=>Tr.eh ?_;rw[UE hv hk];have di:=t.hf.aM jP.aM;exact(uy dt bu _ u.S di).elim λk eV=>Ls eV<|hc A dt bu _ _ _ q u.S di (aF.append (aF.aM jP.aM _ t.hs) u.p) u.k
theorem adx {o:aq}{pos:Pos}(hb:xY o=true)(ho:a8 d c o st a aw)(h:rG d name a aw v aJ):a8 d c (.Attribute o name pos) st v aJ:=λA own s env q S R=>
 (Lr hb<|ho A own s env q S R).bind λaO ov s₁ bF p=>Tr.eh<|(Tr.holding<|h A aO s₁ ov q p.S p.r).bind λaS r aR cY t=>Tr.skip (λx q=>wpAny_letTemporaryGo q)<|Tr.pure t
theorem jC {o i:aq}{pos:Pos}(ho:a8 d c o st a aw)(hi:a8 d c i aw b aJ)(h:fF d i a b aJ v cE):a8 d c (.Subscript o i pos) st v cE:=λA own s env q S R=>
 (ho A own s env q S R).bind λaO ov s₁ bF p=>(Tr.holding<|hi A aO s₁ env q p.S<|R.ext bF).bind λaS iv aR cY t=>Tr.eh
  (Tr.eq (bind_assoc (abj ov) (λg=>Kd i g ov iv)<|λr=>letTemporaryGo o ov r>>=λx=>pure r).symm ((h A aS aR ov iv q t.S (p.r.aM cY.aM) t.r).bind λdt r bu jP u=>Tr.skip (λx q=>wpAny_letTemporaryGo q)<|Tr.pure u))
theorem UG {l u k:Option aq}{x y:CV}{pos:Pos}(hl:Aw d c l st x aw)(hu:Aw d c u aw y aJ)(hk:Aw d c k aJ z cE):a8 d c (.Slice l u k pos) st (.sl [x,y,z]) cE:=λA own s env q S R=>
 (hl A own s env q S R).bind λaO xv s₁ bF iC=>(Tr.holding<|hu A aO s₁ env q iC.S<|R.ext bF).bind λaS yv aR cY kT=>
  (Tr.holding<|hk A aS aR env q kT.S<|(R.ext bF).ext cY).bind λdt zv bu jP CI=>by have cF:=CI.S;have ml:∀b o,bu.heap.get? b=some o->(bu.heap.push {cls:=.type "slice",data:=.fields #[xv,yv,zv]}).get? b=some o:=λb o e=>fT _ e;have iA:bu.heap.get? bu.heap.objs.size=none:=iI<|aG _;have E3:=a9.more (own:=dt) (t:=bu.toks) ml;exact vQ ⟨dt,E3,CI.S.more ml,_,[xv,yv,zv],rfl,CI.S.jO iA,CI.S.mf iA,iy _ rfl,_,_,rfl,((iC.r.aM cY.aM).aM jP.aM).aM E3.aM,_,_,rfl,(kT.r.aM jP.aM).aM E3.aM,_,_,rfl,CI.r.aM E3.aM,rfl⟩ (by size_fits)
theorem UH {own:List ai}{s:az}{vs:List CV}{xs:List an}(r:aF own s.heap vs xs)(h:vs.length<=cX):xs.toArray.size<=cX:=by rwa[ig,<-aF.length r]
theorem Lv {pos:Pos}(h:qj d c es st vs aw)(bn:vs.length<=cX):a8 d c (.List es pos) st (.ab aw.length) (aw++[.list vs]):=λA own s env q S R=>
 Tr.eh ((h.h A own s env pos q S R).bind λaO xs s₁ bF p=>vQ (p.S.newList p.r)<|UH p.r bn)
theorem CJ {k:Nat}{pos:Pos}(h:qj d c es st vs aw)(bn:vs.length<=cX):a8 d c (.Tuple es k pos) st (.cB vs) aw:=λA own s env q S R=>
 Tr.eh ((h.h A own s env pos q S R).bind λaO xs s₁ bF p=>vQ (p.S.adc p.r)<|UH p.r bn)
theorem sW:qj d c [] st [] st:=⟨λx x=>rfl,λA own s env pos x S R=>Tr.pure ⟨S,rfl⟩⟩
theorem Lw {t:Sem an}:zO ((false,t)::r)=(t>>=λv=>holding [v] (zO r)>>=λvs=>pure ([v]++vs)):=by rw[zO];rfl
theorem UI {e:aq}(h:lu e=false){pos:Pos}:pP pos (l6 (e::es) env)=(false,d9 e env)::pP pos (l6 es env):=by rw[(show l6 (e::es) env=(false,d9 e env)::l6 es env from by have:=(show bif lu e then True else l6 (e::es) env=(false,d9 e env)::l6 es env from by cases e<;>first|exact trivial|rfl);rwa[h] at this)];rfl
theorem oO {e:aq}(hs:lu e=false)(h:a8 d c e st v aw)(hr:qj d c es aw vs aJ):qj d c (e::es) st (v::vs) aJ:=
 ⟨λenv pos=>UI hs▸hr.ns env pos,λA own s env pos q S R=>Tr.eq ((congrArg zO<|UI hs).trans Lw)
  ((h A own s env q S R).bind λaO x s₁ bF p=>(Tr.holding<|hr.h A aO s₁ env pos q p.S<|R.ext bF).bind λaS xs aR cY t=>Tr.pure ⟨t.S,_,_,rfl,p.r.aM cY.aM,t.r⟩)⟩
theorem F8:sV d c [] st [] st:=⟨λx x=>rfl,λx x=>rfl,λA own s env pos x S R=>Tr.pure ⟨S,rfl⟩⟩
theorem ady {x:Str}{e:aq}{p:Pos}(h:a8 d c e st v aw)(hr:sV d c fg aw ks aJ):sV d c (⟨some x,e,p⟩::fg) st ((x,v)::ks) aJ:=
 ⟨λenv pos=>hr.all env pos,λenv pos=>hr.any env pos,λA own s env pos q S R=>
  Tr.bind ((h A own s env q S R).bind λaO x s₁ bF p=>Tr.eh<|Tr.pure p) λaO x s₁ bF p=>(Tr.holding<|hr.h A aO s₁ env pos q p.S<|R.ext bF).bind λaS xs aR cY t=>
   Tr.pure ⟨t.S,_,_,rfl,p.r.aM cY.aM,t.r⟩⟩
theorem Lx:Aw d c none st .none st:=λA own s env x S R=>Tr.pure ⟨S,rfl⟩
theorem UJ {e:aq}(h:a8 d c e st v aw):Aw d c (some e) st v aw:=h
theorem adz:rF d .none st false st:=λA own s x q S r=>by subst r;exact truthy_none ⟨own,.refl,S,rfl⟩
theorem Ly {x:Str}(h:¬(x.length:Int)>=2^63):rF d (.str x) st ((x.length:Int) != 0) st:=λA own s u q S r=>r.elim λt e=>by subst e;exact P.truthy_str h ⟨own,.toks,S.toks _,rfl⟩
theorem adC (hx:st[n]?=some (.list xs))(h:(xs.length:Int)<2^63):rF d (.ab n) st (!xs.isEmpty) st:=λA own s x q S r=>by obtain⟨a,ha,rfl⟩:=r;obtain⟨a',b8,vs,m,ho,hr⟩:=S.bD hx;obtain rfl:=dE<|ha.symm.trans b8;have hl:=aF.length hr;refine wpAny_truthy_list ⟨_,ho,rfl,m,rfl⟩ (by rwa[ig,<-hl]) ⟨own,.toks,S.toks _,?_⟩;show(!decide (vs.toArray.size=0))=_;rw[ig,<-hl];cases xs<;>rfl
theorem Lz {x:aq}{pos:Pos}{b:Bool}(h:fx d c x st b aw):fx d c (.UnaryOp .Not x pos) st (!b) aw:=λA own s env q S R=>
 (h A own s env q S R).bind λaO y s₁ bF p=>Tr.pure ⟨p.S,congrArg Bool.not p.e⟩
theorem adD {op:zP}{es:List aq}{pos:Pos}{b:Bool}(h:Ax d c op es st b aw):fx d c (.BoolOp op es pos) st b aw:=h
theorem LA (p:PV st (.bool q) own z s):Tr A own s (holding vs (zN z)) (PE st q):=
 Tr.holding (Tr.eq (congrArg zN p.r)<|wpAny_truthy_bool ⟨own,.refl,p.S,rfl⟩)
theorem F9 {l:aq}{pos:Pos}(hm:B2 op r=false)(hl:a8 d c l st a aw)(hr:a8 d c r aw b aJ)(ho:jj d op a b aJ (.bool q) cE):fx d c (.Compare l [op] [r] pos) st q cE:=λA own s env q S R=>by
 rw[arm_isTrue_Compare,Uz hm];exact(hl A own s env q S R).bind λaO x s₁ bF p=>(Tr.holding<|hr A aO s₁ env q p.S<|R.ext bF).bind λaS y aR cY t=>Tr.eh
  ((Tr.operate<|ho A aS aR x y q t.S (p.r.aM cY.aM) t.r).bind λdt z bu jP u=>LA u)
theorem UK {l:aq}{pos:Pos}(hm:B2 wd r'=false)(hl:a8 d c l st a aw)(hr:a8 d c r aw b aJ)(ho:jj d op a b aJ (.bool LB) aJ)(hn:LB=false->q'=false∧cE=aJ)(hy:LB=true->∃e,a8 d c r' aJ e cE∧jj d wd b e cE (.bool q') cE):fx d c (.Compare l [op,wd] [r,r'] pos) st q' cE:=λA own s env q S R=>by
 have e:markedEach [op,wd] [r,r'] (evalEach [r,r'] env)=[d9 r env,d9 r' env]:=congrArg (λx=>[d9 r env,x])<|ap3 hm;rw[arm_isTrue_Compare,e];refine(hl A own s env q S R).bind λaO x s₁ bF p=>?_;refine(Tr.holding<|hr A aO s₁ env q p.S<|R.ext bF).bind λaS y aR cY t=>Tr.eh ((Tr.holding<|ho A aS aR x y q t.S (p.r.aM cY.aM) t.r).bind λdt z bu jP u=>
  Tr.skip (λo q=>Rc q) ((LA u).bind λqk adE kq Ay w=>?_))
 obtain⟨jQ,et⟩:=w;subst et;cases adE with
 |false=>obtain⟨h1,h2⟩:=hn rfl;subst h1;subst h2;exact Tr.pure ⟨jQ,rfl⟩|true=>
  obtain⟨ev,h1,h2⟩:=hy rfl;exact(Tr.holding<|h1 A qk kq env q jQ<|(((R.ext bF).ext cY).ext jP).ext Ay).bind λx0 y' nM UN g=>Tr.eh
   ((Tr.operate<|h2 A x0 nM y y' q g.S (((t.r.aM jP.aM).aM Ay.aM).aM UN.aM) g.r).bind λaqZ z Ga aq0 u=>LA u)
theorem adF:Ax d c op [] st (op==.And) st:=λA own s env q S R=>Tr.pure ⟨S,rfl⟩
set_option backward.match.sparseCases true in
theorem UO {x:aq}:allTrue op (x::r) env=(xB x env (d9 x env)>>=λt=>match op,t with|.And,false=>pure false|.Or,true=>pure true|u,o=>allTrue op r env):=by rfl
theorem UP {op:zP}{x:aq}{r:List aq}{b:Bool}(h:fx d c x st b aw)(hs:b=(op==.Or)):Ax d c op (x::r) st (op==.Or) aw:=λA own s env rm S R=>Tr.eq UO<|(h A own s env rm S R).bind λaO t s₁ bF p=>by obtain⟨bq,et⟩:=p;subst et;subst hs;cases op<;>exact Tr.pure ⟨bq,rfl⟩
theorem UQ {op:zP}{x:aq}{r:List aq}{b q:Bool}(h:fx d c x st b aw)(hs:b=(op==.And))(hg:Ax d c op r aw q aJ):Ax d c op (x::r) st q aJ:=λA own s env rm S R=>Tr.eq UO<|(h A own s env rm S R).bind λaO t s₁ bF p=>by obtain⟨bq,et⟩:=p;subst et;subst hs;cases op<;>exact hg A aO s₁ env rm bq<|R.ext bF
noncomputable def LC (e:aq):Bool:=!(bT e.ctorIdx 0||bT e.ctorIdx 3||bT e.ctorIdx 5||bT e.ctorIdx 15)
theorem LD {e:aq}{b:Bool}(he:LC e=true)(h:a8 d c e st a aw)(ht:rF d a aw b aJ):fx d c e st b aJ:=λA own s env q S R=>by have e:=(show bif LC e then xB e env (d9 e env)=(do let v<-(d9 e env);nE e.pos;holding [v] (zN v)) else True from by cases e<;>first|exact trivial|rfl);rw[he] at e;exact Tr.eq e<|(h A own s env q S R).bind λaO x s₁ bF p=>Tr.eh<|Tr.holding<|ht A aO s₁ x q p.S p.r
theorem UR {x y:Str}(h:(x.length==0)=true):x++y=y:=xC (by rw[vR,show x.cps= #[] from Rd<|eq_of_beq h,Array.empty_append])
theorem US {x y:Str}(h:(y.length==0)=true):x++y=x:=xC (by rw[vR,show y.cps= #[] from Rd<|eq_of_beq h,abl])
theorem UT {c d:Prop}[Decidable c] [Decidable d] {a b e:Made}{Q:an->az->Prop}{s:az}(h1:c->a.post Q s)(h2:d->b.post Q s)(h3:e.post Q s):(if c then a else if d then b else e).post Q s:=by
 by_cases hc:c
 ·rw[if_pos hc];exact h1 hc
 rw[if_neg hc];by_cases hd:d
 ·rw[if_pos hd];exact h2 hd
 rwa[if_neg hd]
theorem Gb {x y:Str}{t:Tok}(e:x=y):RelV own h (.str x) (.str y t):=⟨t,by rw[e]⟩
theorem nN {t:an->an->Sem an}{i j:Int}{v:CV}(h:∀A own s k l,Sx own st s->Tr A own s (t (.int i k) (.int j l)) (PV st v)):Ar d t (.int i) (.int j) st v st:=λA own s x x q S cx di=>cx.elim λk bF=>di.elim λl cY=>by subst bF;subst cY;exact h A own s k l S
theorem CK {t:an->an->Sem an}{i j:Str}{v:CV}(h:∀A own s k l,Sx own st s->Tr A own s (t (.str i k) (.str j l)) (PV st v)):Ar d t (.str i) (.str j) st v st:=λA own s x x q S cx di=>cx.elim λk bF=>di.elim λl cY=>by subst bF;subst cY;exact h A own s k l S
set_option backward.match.sparseCases true in
theorem Gc {x y:aq}{pos:Pos}(h:a8 d c x st a aw)(ht:rF d a aw q aw):(q=(op==.Or)->a8 d c (.BoolOp op [x,y] pos) st a aw)∧(q=(op==.And)->∀v aJ,a8 d c y aw v aJ->a8 d c (.BoolOp op [x,y] pos) st v aJ):=by
 have go:∀A own s env P,Rm d A->Sx own st s->dK own c env->(∀aS u aR,a9 own s aS aR->PV aw a aS u aR->Tr A aS aR (match op,q with
  |.And,false|.Or,true=>pure u|z,b=>d9 y env) P)->Tr A own s (d9 (.BoolOp op [x,y] pos) env) P:=λA own s env P rm S R k=>by
  exact(h A own s env rm S R).bind λaO u s₁ bF p=>Tr.eh ((Tr.holding<|ht A aO s₁ u rm p.S p.r).bind λaS t aR cY w=>by obtain⟨bw,et⟩:=w;subst et;exact k aS u aR (bF.trans cY) ⟨bw,p.r.aM cY.aM⟩)
 exact⟨λe A own s env rm S R=>go A own s env _ rm S R λaS u aR E p=>(by subst e;cases op<;>exact Tr.pure p),λe v aJ hy A own s env rm S R=>go A own s env _ rm S R λaS u aR E p=>(by subst e;cases op<;>exact hy A aS aR env rm p.S<|R.ext E)⟩
end
end
section
variable {d:Nat}
noncomputable def uz {α:Type}{P:CV->CV->List ae->α->List ae->Prop}(a b:CV)(f:∀i j,EZ α (P (.int i) (.int j)))(g:EZ α (P a b)):EZ α (P a b):=match a,b,g with
 |.int i,.int j,x=>f i j|x,u,g=>g
noncomputable def LF {α:Type}{P:CV->CV->List ae->α->List ae->Prop}(a b:CV)(f:∀i j,EZ α (P (.str i) (.str j)))(g:EZ α (P a b)):EZ α (P a b):=match a,b,g with
 |.str i,.str j,x=>f i j|x,u,g=>g
theorem UU {i j:Int}{st:List ae}(h:IntMulOk i j):oN d .Mult (.int i) (.int j) st (.int (i*j)) st:=nN λA own s k l S=>P.mul_int ⟨own,.toks,S.toks _,_,rfl⟩ h
def adH (op:B0)(a b:CV):EZ CV (oN d op a b):=match op with
 |.Add=>uz (P:=oN d .Add) a b (λi j=>.ret (.int (i+j)) λst=>nN λA own s k l S=>P.add_int ⟨own,.toks,S.toks _,_,rfl⟩)
  (LF (P:=oN d .Add) a b (λx y=>.ux ((x++y).length<=cX) (.str (x++y)) λh st=>(λA own s o o q S cx di=>cx.elim λt bF=>di.elim λu cY=>by
   subst bF;subst cY
   exact P.add_str (UT (λh=>⟨own,.refl,S,Gb (UR h)⟩) (λh=>⟨own,.refl,S,Gb (US h)⟩) ⟨h,own,.toks,S.toks _,_,rfl⟩))) (.ask _))
 |.Sub=>uz (P:=oN d .Sub) a b (λi j=>.ret (.int (i-j)) λst=>nN λA own s k l S=>P.sub_int ⟨own,.toks,S.toks _,_,rfl⟩) (.ask _)
 |.Mult=>uz (P:=oN d .Mult) a b (λi j=>.ux (IntMulOk i j) (.int (i*j)) λh st=>UU h) (.ask _)
 |.FloorDiv=>uz (P:=oN d .FloorDiv) a b (λi j=>.ux (j≠0∧Re i j=false) (.int (i.fdiv j)) λh st=>nN λA own s k l S=>PyProof.Rows.floordiv_int h.1 ⟨own,.toks,S.toks _,_,rfl⟩ (.inl h.2)) (.ask _)
 |.Mod=>uz (P:=oN d .Mod) a b (λi j=>.ux (j≠0) (.int (i.fmod j)) λh st=>nN λA own s k l S=>mod_int' h ⟨own,.toks,S.toks _,_,rfl⟩) (.ask _)
 |.Pow=>uz (P:=oN d .Pow) a b (λi j=>.ux (0<=j∧j<=1000000∧i.natAbs<2^64) (.int (i^j.toNat)) λh st=>nN λA own s k l S=>pow_int_small h.1 h.2.1 h.2.2 ⟨own,.toks,S.toks _,_,rfl⟩) (.ask _)
 |_=>.ask _
def CL (d:Nat)(op:ua)(a b:CV)(st:List ae)(q:Bool)(ag:List ae):Prop:=jj d op a b st (.bool q) ag∧ag=st
theorem UV {i j:Int}{st:List ae}:jj d .Lt (.int i) (.int j) st (.bool (decide (i<j))) st:=nN λA own s k l S=>PyProof.Rows.lt_int ⟨own,.refl,S,rfl⟩
theorem UW {i j:Int}{st:List ae}:jj d .Gt (.int i) (.int j) st (.bool (decide (i>j))) st:=nN λA own s k l S=>P.gt_int ⟨own,.refl,S,rfl⟩
noncomputable def adI (op:ua)(i j:Int):EZ Bool (CL d op (.int i) (.int j)):=match op with
 |.Eq=>.ret (i==j) λst=>⟨nN λA own s k l S=>PyProof.Rows.eq_int ⟨own,.refl,S,rfl⟩,rfl⟩|.NotEq=>.ret (i != j) λst=>⟨nN λA own s k l S=>PyProof.Rows.ne_int ⟨own,.refl,S,rfl⟩,rfl⟩|.Lt=>.ret (decide (i<j)) λst=>⟨UV,rfl⟩|.LtE=>.ret (decide (i<=j)) λst=>⟨nN λA own s k l S=>P.le_int ⟨own,.refl,S,rfl⟩,rfl⟩|.Gt=>.ret (decide (i>j)) λst=>⟨UW,rfl⟩|.GtE=>.ret (decide (i>=j)) λst=>⟨nN λA own s k l S=>P.ge_int ⟨own,.refl,S,rfl⟩,rfl⟩|_=>.no
def adJ (op:ua)(x y:Str):EZ Bool (CL d op (.str x) (.str y)):=match op with
 |.Eq=>.ret (d4 x y) λst=>⟨CK λA own s k l S=>P.eq_str ⟨own,.refl,S,rfl⟩,rfl⟩|.NotEq=>.ret (!d4 x y) λst=>⟨CK λA own s k l S=>P.ne_str ⟨own,.refl,S,rfl⟩,rfl⟩|.Lt=>.ret (bP x y) λst=>⟨CK λA own s k l S=>P.lt_str ⟨own,.refl,S,rfl⟩,rfl⟩|.In=>.ret (ko x y) λst=>⟨CK λA own s k l S=>P.in_str ⟨own,.refl,S,rfl⟩,rfl⟩|.NotIn=>.ret (!ko x y) λst=>⟨CK λA own s k l S=>P.notIn_str ⟨own,.refl,S,rfl⟩,rfl⟩|_=>.no
def Ge (op:ua)(a b:CV):EZ Bool (CL d op a b):=uz (P:=CL d op) a b (adI op) (LF (P:=CL d op) a b (adJ op) .no)
noncomputable def EZ.or {P:List ae->α->List ae->Prop}(p q:EZ α P):EZ α P:=λz=>match p z with
 |some r=>some r|none=>q z
noncomputable def adK {P:List ae->CV->List ae->Prop}(p:EZ CV P):EZ Bool (λst q ag=>P st (.bool q) ag):=λz=>match p z with
 |some ⟨.bool q,z',ok⟩=>some ⟨q,z',ok⟩|_=>none
def adL (op:ua)(a b:CV):EZ Bool (λst q ag=>jj d op a b st (.bool q) ag):=.or ((Ge op a b).imp λh=>h.1) (adK (.ask _))
def adM (op:ua)(a b:CV):EZ CV (jj d op a b):=.or (λz=>match Ge op a b z with
 |none=>none|some ⟨q,z',ok⟩=>some ⟨.bool q,z',λk=>⟨(ok k).1,(ok k).2.1⟩⟩) (.ask _)
abbrev adN (d:Nat)(a:CV)(st:List ae)(b:Bool)(ag:List ae):Prop:=rF d a st b ag∧ag=st
noncomputable def LG (a:CV):EZ Bool (adN d a):=match a with
 |.none=>.ret false λu=>⟨adz,rfl⟩
 |.bool b=>.ret b λu=>⟨(λA own s x q S r=>by subst r;exact wpAny_truthy_bool ⟨own,.refl,S,rfl⟩),rfl⟩
 |.int i=>.ret (i != 0) λu=>⟨(λA own s x q S r=>r.elim λt e=>by subst e;exact P.truthy_int ⟨own,.refl,S,rfl⟩),rfl⟩
 |.str x=>.ux (¬(x.length:Int)>=2^63) ((x.length:Int) != 0) λh u=>⟨Ly h,rfl⟩
 |.ab n=>.Lq (λst=>(st[n]?).bind λo=>o.ls?.bind λf=>match f with|⟨xs,w⟩=>some xs) λxs=>.ux ((xs.length:Int)<2^63) (!xs.isEmpty) λh st e=>⟨fE e λo ho e=>fE e λf u e=>adC (by obtain⟨ys,f⟩:=f;rw[ho,f];exact congrArg (λz=>some (ae.list z)) (dE e)) h,rfl⟩
 |_=>.no
noncomputable def UX (k:Option sD):Bool:=match k with
 |some k=>bT k.ctorIdx sD.globalImplicit.ctorIdx|none=>false
theorem adO {k:Option sD}(h:UX k=true):k=some .globalImplicit:=by
 cases k with
 |none=>nomatch h|some k=>cases k<;>first|rfl|nomatch h
theorem nO {p:Bool}(h:(!p)=true):p=false:=by cases p<;>first|rfl|nomatch h
noncomputable def mo {P:List ae->α->List ae->Prop}(b:Bool)(y:b=true->EZ α P):EZ α P:=.F7 b y λx=>.no
section
def adP (c:aY)(x:Str)(pos:Pos):EZ CV (a8 d c (.Name x pos)):=.F7 (x==("__debug__":Str)) (λh=>.ret (.bool true) λu=>(λA own s env u S R=>Tr.eh (Tr.eq (if_pos h) (Tr.skip (λu q=>sC q) (Tr.pure ⟨S,rfl⟩))))) λhd=>.F7 (UX (c.scope.names.lookup x)) (λhk=>.F6 (Uq.lookup x) λv hv=>.ret v λu=>(λA own s env u S R=>Tr.eh (Tr.eq (if_neg (Q9.mp hd)) (ac' S R (adO hk) (ac9 _ _ hv) λy hy=>⟨own,.refl,S,hy⟩)))) λu=>mo (!(x==("__classdict__":Str))) λhc=>.Lq (λst=>ji c st x) λv=>.ret v λu=>eu hd (nO hc)
variable (d)
mutual
noncomputable def fh:Nat->(c:aY)->(e:aq)->EZ CV (a8 d c e)
 | 0,w,y=>.no
 | n+1,c,e=>match e with
   | .Constant k w y=>.F6 (Ux k) λv h=>.ret v λz=>CH h
   | .Name x pos=>adP c x pos
   | .BinOp l op r w=>(fh n c l).bind λa=>(fh n c r).bind λb=>(adH op a b).imp λh z hr z hl=>Uy hl hr h
   | .UnaryOp op x w=>match op with
     | .Not=>(fh n c x).bind λa=>(LG a).bind λq=>.ret (.bool !q) λz z h z he=>ado he h.1
     | .USub=>(fh n c x).bind λa=>match a with
       | .int i=>.ret (.int (-i)) λz z h=>UA h
       | _=>.no
     | _=>.ask _
   | .IfExp t a b w=>(CM n c t).bind λq=>.xX q ((fh n c a).imp λh hq z ht=>UB ht (λz=>h) λe=>E4 (hq.symm.trans e)) ((fh n c b).imp λh hq z ht=>UB ht (λe=>E4 (e.symm.trans hq)) λz=>h)
   | .Compare l [op] [r] w=>mo (!B2 op r) λhm=>(fh n c l).bind λa=>(fh n c r).bind λb=>(adM op a b).imp λh z hr z hl=>adn (nO hm) hl hr h
   | .Call f args fg pos=>match f with
     | .Attribute o name mn=>mo (xY o&&mn.endLine == pos.line&&decide (args.length+fg.length<29)) λhg=>(fh n c o).bind λov=>.bg (d:=d) name ov λf first=>
      (CN n c args).bind λvs=>(LH n c fg).bind λks=>.Uv (oM f) ((EZ.ask (bk d f (first++vs) ks)).imp λhc hf z hk z hv hm z ho=>
       Lu (iR.mp (iR.mp hg).1).1 (of_decide_eq_true (iR.mp hg).2) ho hm hv hk hf hc (eq_of_beq (iR.mp (iR.mp hg).1).2))
     | f=>mo (!Av f) λhp=>(fh n c f).bind λfv=>(CN n c args).bind λvs=>(LH n c fg).bind λks=>.Uv (oM fv) ((EZ.ask (bk d fv vs ks)).imp λhc hf z hk z hv z he=>adu (nO hp) he hv hk hf hc)
   | .Attribute o name w=>mo (xY o) λhb=>(fh n c o).bind λov=>(EZ.ask (rG d name ov)).imp λh z ho=>adx hb ho h
   | .Subscript o i w=>(fh n c o).bind λov=>(fh n c i).bind λiv=>(EZ.ask (fF d i ov iv)).imp λh z hi z ho=>jC ho hi h
   | .Slice l u s w=>(LI n c l).bind λa=>(LI n c u).bind λb=>(LI n c s).bind λk=>.ret (.sl [a,b,k]) λz z eF z gf z c9=>UG c9 gf eF
   | .List es w=>(CN n c es).bind λvs=>.adg vs λhs z z h=>Lv h hs
   | .Tuple es w y=>(CN n c es).bind λvs=>.ux (vs.length<=cX) (.cB vs) λhs z z h=>CJ h hs
   | .BoolOp op [a,b] w=>(fh n c a).bind λv=>(LG v).bind λq=>match op with
     | .And=>.xX q ((fh n c b).imp λh hq z ht z ha=>by obtain⟨ht,rfl⟩:=ht;exact(Gc (op:=.And) ha ht).2 hq _ _ h) (.ret v λz hq z ht z ha=>by obtain⟨ht,rfl⟩:=ht;exact(Gc (op:=.And) ha ht).1 hq)
     | .Or=>.xX q (.ret v λz hq z ht z ha=>by obtain⟨ht,rfl⟩:=ht;exact(Gc (op:=.Or) ha ht).1 hq) ((fh n c b).imp λh hq z ht z ha=>by obtain⟨ht,rfl⟩:=ht;exact(Gc (op:=.Or) ha ht).2 hq _ _ h)
   | e=>.ask _
noncomputable def CM:Nat->(c:aY)->(e:aq)->EZ Bool (fx d c e)
 | 0,w,y=>.no
 | n+1,c,e=>match e with
   | .UnaryOp op x w=>match op with
     | .Not=>(CM n c x).bind λb=>.ret (!b) λz z h=>Lz h
     | _=>.no
   | .BoolOp op xs w=>(LJ n c op xs).imp λh=>adD h
   | .Compare l [op] [r] w=>mo (!B2 op r) λhm=>(fh n c l).bind λa=>(fh n c r).bind λb=>(adL op a b).imp λh z hr z hl=>F9 (nO hm) hl hr h
   | .Compare l [op,wd] [r,r'] w=>mo (!B2 wd r') λhm=>(fh n c l).bind λa=>(fh n c r).bind λb=>(Ge op a b).bind λq=>
    .xX q ((fh n c r').bind λe=>(Ge wd b e).imp λeF z gf hq z c9 z hr z hl=>by obtain⟨c9,rfl⟩:=c9;obtain⟨eF,rfl⟩:=eF;exact UK (nO hm) hl hr c9 (λe=>E4 (hq.symm.trans e)) λz=>⟨_,gf,eF⟩)
     (.ret false λz hq z c9 z hr z hl=>by obtain⟨c9,rfl⟩:=c9;exact UK (nO hm) hl hr c9 (λz=>⟨rfl,rfl⟩) λe=>E4 (e.symm.trans hq))
   | e=>mo (LC e) λhp=>(fh n c e).bind λv=>(LG v).imp λh z he=>LD hp he h.1
noncomputable def LJ:Nat->(c:aY)->(op:zP)->(es:List aq)->EZ Bool (Ax d c op es)
 | 0,w,y,g=>.no
 | n+1,c,op,es=>match es with
   | []=>.ret (op == .And) λz=>adF
   | x::r=>(CM n c x).bind λb=>match op with
     | .And=>.xX b ((LJ n c .And r).imp λh hb z ht=>UQ ht hb h) (.ret false λz hb z ht=>UP (op:=.And) ht hb)
     | .Or=>.xX b (.ret true λz hb z ht=>UP (op:=.Or) ht hb) ((LJ n c .Or r).imp λh hb z ht=>UQ ht hb h)
noncomputable def CN:Nat->(c:aY)->(es:List aq)->EZ (List CV) (qj d c es)
 | 0,w,y=>.no
 | n+1,c,es=>match es with
   | []=>.ret [] λz=>sW
   | e::r=>mo (!lu e) λhs=>(fh n c e).bind λv=>(CN n c r).bind λvs=>.ret (v::vs) λz z hr z h=>oO (nO hs) h hr
noncomputable def LH:Nat->(c:aY)->(es:List ub)->EZ (List (Str×CV)) (sV d c es)
 | 0,w,y=>.no
 | n+1,c,es=>match es with
   | []=>.ret [] λz=>F8
   | ⟨some x,e,w⟩::r=>(fh n c e).bind λv=>(LH n c r).bind λvs=>.ret ((x,v)::vs) λz z hr z h=>ady h hr
   | _=>.no
noncomputable def LI:Nat->(c:aY)->(e:Option aq)->EZ CV (Aw d c e)
 | 0,w,y=>.no
 | n+1,c,e=>match e with
   | none=>.ret .none λz=>Lx
   | some e=>(fh n c e).imp λh=>UJ h
end
end
end
section
variable {d:Nat}{c:aY}
theorem aF.reverse:∀{xs} {vs},aF own h xs vs->aF own h xs.reverse vs.reverse
 |[],u,e=>by subst e;rfl|x::xs,u,⟨v,r,e,hv,hr⟩=>by subst e;rw[B3,B3];exact aF.append (aF.reverse hr) ⟨v,[],rfl,hv,rfl⟩
def Gf (d:Nat)(a:CV)(n:Nat)(st:List ae)(xs:List CV)(ag:List ae):Prop:=∀A own s x,Rm d A->Sx own st s->RelV own s.heap a x->Tr A own s (unpackItems x n none) (Uk ag xs)
theorem UY {xs:List CV}{st:List ae}{n:Nat}(hn:xs.length=n):Gf d (.cB xs) n st xs st:=λA own s x q S r=>by
 obtain⟨a,vs,m,rfl,h1,h2,ho,hr⟩:=r;have:(vs.toArray).size=n:=by rw[ig,<-aF.length hr,hn]
 subst this;exact wpAny_unpackItems_tuple q.1 ⟨_,ho,rfl,m,rfl⟩ λh' hk=>by have we:=λb o e=>hk b o (pQ<|sE e) e;have E1:=a9.more (own:=own) (t:=s.toks) we;exact⟨own,E1,S.more we,aF.aM E1.aM _ hr⟩
structure PS {α:Type}(st:List ae)(own:List ai)(x:α)(s:az):Prop where
 S:Sx own st s
def dj (d:Nat)(c:aY)(t:aq)(v:CV)(st ag:List ae):Prop:=∀A own s env x,Rm d A->Sx own st s->dK own c env->RelV own s.heap v x->Tr A own s (oE t env x) λav u s'=>Sx av ag s'
def adQ (d:Nat)(c:aY)(ts:List aq)(vs:List CV)(st ag:List ae):Prop:=∀A own s env xs,Rm d A->Sx own st s->dK own c env->aF own s.heap vs xs->Tr A own s (assignInOrder ((xD ts env).map (·.2)) xs) λav x s'=>Sx av ag s'
def uA (d:Nat)(name:Str)(a v:CV)(st ag:List ae):Prop:=∀A own s x y,Rm d A->Sx own st s->RelV own s.heap a x->RelV own s.heap v y->Tr A own s (setAttr x name y) λav u s'=>Sx av ag s'
def Gg (d:Nat)(a i v:CV)(st ag:List ae):Prop:=∀A own s x k y,Rm d A->Sx own st s->RelV own s.heap a x->RelV own s.heap i k->RelV own s.heap v y->Tr A own s (setItem x k y) λav u s'=>Sx av ag s'
structure CO (d:Nat)(c:aY)(ts:List aq)(vs:List CV)(st ag:List ae):Prop where
 ns:∀env,(xD ts env).findIdx? (·.1)=none
 h:adQ d c ts vs st ag
section
variable {st aw aJ cE ag:List ae}{a b v:CV}
theorem wg {x:Str}{pos:Pos}(h:kn c st x v=some ag):dj d c (.Name x pos) v st ag:=λA own s env y q S R r=>
 Tr.eh (F5 S R h r λs' u S'=>S')
theorem adR {o:aq}{pos:Pos}(ho:a8 d c o st a aw)(h:uA d name a v aw ag):dj d c (.Attribute o name pos) v st ag:=λA own s env y q S R r=>
 (Tr.holding<|ho A own s env q S R).bind λaO ov s₁ bF p=>Tr.eh<|(Tr.holding<|h A aO s₁ ov y q p.S p.r<|r.aM bF.aM).bind λaS x aR cY bw=>Rc ⟨aS,.refl,bw⟩
theorem adS {o i:aq}{pos:Pos}(ho:a8 d c o st a aw)(hi:a8 d c i aw b aJ)(h:Gg d a b v aJ ag):dj d c (.Subscript o i pos) v st ag:=λA own s env y q S R r=>
 (Tr.holding<|ho A own s env q S R).bind λaO ov s₁ bF p=>(Tr.holding<|hi A aO s₁ env q p.S<|R.ext bF).bind λaS iv aR cY t=>Tr.eh
  ((Tr.holding<|h A aS aR ov iv y q t.S (p.r.aM cY.aM) t.r<|(r.aM bF.aM).aM cY.aM).bind λdt x bu jP cF=>Rc ⟨dt,.refl,cF⟩)
theorem Gh {t:aq}(h:lu t=false):xD (t::ts) env=(false,oE t env)::xD ts env:=by have:=(show bif lu t then True else xD (t::ts) env=(false,oE t env)::xD ts env from by cases t<;>first|exact trivial|rfl);rwa[h] at this
theorem UZ:CO d c [] [] st st:=⟨λx=>rfl,λA own s env xs q S R r=>by subst r;exact bH ⟨own,.refl,S⟩⟩
theorem LK {t:aq}(hs:lu t=false)(h:dj d c t v st aw)(hr:CO d c ts vs aw ag):CO d c (t::ts) (v::vs) st ag:=
 ⟨λenv=>by rw[Gh hs,ap4];exact congrArg (dg _)<|hr.ns env,λA own s env xs q S R r=>by obtain⟨y,ys,rfl,cx,di⟩:=r;rw[Gh hs];exact(Tr.holding<|h A own s env y q S R cx).bind λaO x s₁ bF bq=>hr.h A aO s₁ env ys q bq (R.ext bF)<|aF.aM bF.aM _ di⟩
theorem U0:∀{ts},(xD ts env).length=ts.length
 |[]=>rfl|t::r=>by have ih:=U0 (env:=env) (ts:=r);cases hs:lu t with|false=>exact Gh hs▸congrArg (· + 1) ih|true=>cases t<;>exact congrArg (· + 1) ih
theorem U1 {k:Nat}{pos:Pos}(hu:Gf d v ts.length st xs aw)(h:CO d c ts xs aw ag):dj d c (.Tuple ts k pos) v st ag:=λA own s env y q S R r=>by refine Tr.eh<|?_;unfold unpack;rw[U0,h.ns];exact(Tr.holding<|hu A own s y q S r).bind λaO vs s₁ bF p=>h.h A aO s₁ env vs q p.S (R.ext bF) p.r
theorem adU {pos:Pos}:dB d c (.Pass pos) st .next st:=λA own s env q S R=>Tr.eh<|Tr.pure ⟨S,rfl⟩
theorem adV {pos:Pos}:dB d c (.Break pos) st .brk st:=λA own s env q S R=>Tr.eh<|Tr.pure ⟨S,rfl⟩
theorem adW {pos:Pos}:dB d c (.Continue pos) st .cont st:=λA own s env q S R=>Tr.eh<|Tr.pure ⟨S,rfl⟩
theorem U2 {e:aq}{pos:Pos}(h:a8 d c e st v aw):dB d c (.Return (some e) pos) st (.ret v) aw:=λA own s env q S R=>
 Tr.eh (Tr.bind (h A own s env q S R) λaO x s₁ bF p=>Tr.pure ⟨p.S,_,rfl,p.r⟩)
theorem U3 {t:aq}{x y:List bl}{pos:Pos}(h:fx d c t st q aw)(hx:q=true->aI d c x aw f aJ)(hy:q=false->aI d c y aw f aJ):dB d c (.If t x y pos) st f aJ:=λA own s env rm S R=>
 Tr.eh (Tr.bind (h A own s env rm S R) λaO b s₁ bF p=>match b,p with
  |true,p=>hx p.e.symm A aO s₁ env rm p.S (R.ext bF)|false,p=>hy p.e.symm A aO s₁ env rm p.S<|R.ext bF)
theorem U4:aI d c [] st .next st:=λA own s env q S R=>Tr.pure ⟨S,rfl⟩
set_option backward.match.sparseCases true in
theorem Gi:l4 (aT::r) env=(exec aT env>>=λfl=>match fl with|.next=>l4 r env|fl=>pure fl):=rfl
theorem U5 (h:dB d c aT st .next aw)(k:aI d c r aw f aJ):aI d c (aT::r) st f aJ:=λA own s env q S R=>
 Tr.eq Gi ((h A own s env q S R).bind λaO fl s₁ bF p=>by obtain⟨bq,rf⟩:=p;subst rf;exact k A aO s₁ env q bq<|R.ext bF)
noncomputable def cZ.LM:cZ->Bool
 |.next=>true|_=>false
theorem U6 (h:dB d c aT st f aw)(hf:f.LM=false):aI d c (aT::r) st f aw:=λA own s env q S R=>
 Tr.eq Gi ((h A own s env q S R).bind λaO fl s₁ bF p=>by
  cases f with
  |next=>nomatch hf|brk=>cases p.r;exact Tr.pure ⟨p.S,rfl⟩|cont=>cases p.r;exact Tr.pure ⟨p.S,rfl⟩|ret v=>obtain⟨x,rfl,hv⟩:=p.r;exact Tr.pure ⟨p.S,x,rfl,hv⟩)
theorem U7 (h:dB d c aT st f aw)(hn:f=.next->aI d c r aw f' aJ)(ho:f≠.next->f'=f∧aJ=aw):aI d c (aT::r) st f' aJ:=by
 cases hf:f.LM with
 |true=>
  have:f=.next:=by cases f<;>first|rfl|nomatch hf
  subst this;exact U5 h<|hn rfl
 |false=>
  obtain⟨rfl,rfl⟩:=ho λe=>by subst e;nomatch hf
  exact U6 h hf
noncomputable def wh (e:aq):Bool:=bT e.ctorIdx 8||bT e.ctorIdx 9||bT e.ctorIdx 10
noncomputable def Gj (e:aq):Bool:=bT e.ctorIdx 23
theorem Gk {e:aq}{t:Option aq}(h:wh e=false):zQ e t n env=pure false:=by have:=(show bif wh e then True else zQ e t n env=pure false from by cases e<;>first|exact trivial|rfl);rwa[h] at this
theorem dK.U8 (R:dK own c env):interactive env=false:=by unfold interactive;rw[R.hk];rfl
theorem adY {e:aq}{pos:Pos}(hc:wh e=false)(h:a8 d c e st v aw):dB d c (.Expr e pos) st .next aw:=λA own s env q S R=>
 wpAny_Expr_any (bC (h A own s env q S R) (λx s' t=>match t with|⟨av,e',p⟩=>⟨av,e',p.1,rfl⟩) λu u x=>x) R.U8 (Gk hc)
noncomputable def adZ (t:Sem α):Option {r // t=pure r}:=match t with
 |.pure r=>some ⟨r,rfl⟩|_=>none
def U9 (c:aY)(Gm:List aq)(value:aq):Option {r // xE Gm value { (default:Env) with scope:=c.scope}=pure r}:=adZ _
theorem ad0 (R:dK own c env)(h:xE Gm value { (default:Env) with scope:=c.scope}=pure r):xE Gm value env=pure r:=by rw[<-h];unfold xE Env.blockKind Env.kindOf;rw[R.scope]
noncomputable def CP (c:aY):List Str->List CV->List ae->Option (List ae)
 |[],vs,st=>match vs with
   |[]=>some st|_=>none
 |x::xs,vs,st=>match vs with
   |v::vs=>(kn c st x v).bind λst=>CP c xs vs st|_=>none
structure PO (own:List ai)(st:List ae)(av:List ai)(x:Unit)(s:az):Prop where
 eo:av=own
 S:Sx own st s
theorem U':∀{xs} {vs} {st ag},CP c xs vs st=some ag->∀A own s env ys,Rm d A->Sx own st s->dK own c env->aF own s.heap vs ys->Tr A own s (assignInOrder (xs.map λn=>bindName env n) ys) λav u s'=>Sx av ag s'
 |[],vs,st,ag,h,A,own,s,env,ys,q,S,R,r=>by
  match vs,h,r with
  |[],h,r=>obtain rfl:=dE h;subst r;exact bH ⟨own,.refl,S⟩
 |x::xs,vs,st,ag,h,A,own,s,env,ys,q,S,R,r=>by
  match vs,h,r with
  |v::vs,h,r=>obtain⟨y,ys,rfl,cx,di⟩:=r;exact fE h λaw c9 h=>Tr.bind (P:=PO own aw) (Tr.holding<|F5 S R c9 cx λs' u S'=>⟨rfl,S'⟩) λaO u s₁ bF p=>by obtain⟨eo,bq⟩:=p;subst eo;exact U' h A aO s₁ env ys q bq (R.ext bF)<|aF.aM bF.aM _ di
theorem Va {t:aq}{pos:Pos}(R:dK own c env)(h0:zQ value (some t) pos.line env=pure false)(hw:xE [t] value { (default:Env) with scope:=c.scope}=pure r):exec (.Assign [t] value pos) env=(nE pos>>=λx=>d9 value env>>=λv=>assignStores env v r ((xD [t] env).map (·.2))):=by rw[exec_Assign_arm];show(nE pos>>=λx=>zQ value (some t) pos.line env>>=_)=_;rw[h0,ad0 R hw];rfl
theorem Vb {t:aq}{pos:Pos}(h0:∀env,zQ value (some t) pos.line env=pure false)(hw:xE [t] value { (default:Env) with scope:=c.scope}=pure none)(h:a8 d c value st v aw)(hs:lu t=false)(ha:dj d c t v aw aJ):dB d c (.Assign [t] value pos) st .next aJ:=λA own s env q S R=>
 Tr.eq (Va R (h0 env) hw) (Tr.eh<|(h A own s env q S R).bind λaO x s₁ bF p=>by unfold assignStores;rw[(show assignAll x ((xD [t] env).map (·.2))=oE t env x from by rw[Gh hs];rfl)];exact(ha A aO s₁ env x q p.S (R.ext bF) p.r).bind λaS u aR cY bw=>Tr.pure ⟨bw,rfl⟩)
theorem Vc {t:aq}{pos:Pos}(hc:wh value=false)(hw:xE [t] value { (default:Env) with scope:=c.scope}=pure none)(h:a8 d c value st v aw)(hs:lu t=false)(ha:dj d c t v aw aJ):dB d c (.Assign [t] value pos) st .next aJ:=Vb (λenv=>Gk hc) hw h hs ha
theorem ad3 {t:aq}{pos:Pos}(hc:Gj t=false)(hw:xE [t] value { (default:Env) with scope:=c.scope}=pure none)(h:a8 d c value st v aw)(hs:lu t=false)(ha:dj d c t v aw aJ):dB d c (.Assign [t] value pos) st .next aJ:=Vb (λenv=>by
 have:=(show bif Gj t then True else zQ value (some t) pos.line env=pure false from by
  cases hc:wh value with
  |false=>rw[Gk hc];cases Gj t<;>first|rfl|exact trivial
  |true=>cases value<;>first|exact absurd hc fL|(cases t<;>first|exact trivial|rfl))
 rwa[hc] at this) hw h hs ha
structure PU (own:List ai)(s:az)(a:CV)(av:List ai)(y:an)(s':az):Prop where
 eo:av=own
 es:s'=s
 r:RelV own s.heap a y
theorem ad5 {x:Str}{p pos:Pos}{e:aq}(hr:ji c st x=some a)(hd:(x==("__classdict__":Str))=false)(h:a8 d c e st b aw)(ho:xW d op a b aw v aJ)(hw:kn c aJ x v=some cE):dB d c (.AugAssign (.Name x p) op e pos) st .next cE:=λA own s env q S R=>by
 refine Tr.eq (arm_exec_AugAssign ..)<|Tr.eh<|Tr.bind (P:=PU own s a) (Lm S R hr hd λy hy=>⟨own,.refl,rfl,rfl,hy⟩) λbx jg aT aq1 u=>?_;obtain⟨h1,h2,fQ⟩:=u;subst h1;subst h2;exact(Tr.holding<|h A bx aT env q S R).bind λaO y s₁ bF p=>Tr.eh ((Tr.operate<|ho A aO s₁ jg y q p.S (fQ.aM bF.aM) p.r).bind λaS z aR cY t=>Tr.eh
  (Tr.bind (P:=PS cE) (F5 t.S ((R.ext bF).ext cY) hw t.r λs' o S'=>⟨S'⟩) λdt o bu jP w=>Tr.pure ⟨w.S,rfl⟩))
structure PV2 (st:List ae)(v a:CV)(x:an)(own:List ai)(z:an)(s:az):Prop where
 S:Sx own st s
 r:RelV own s.heap v z
 r':RelV own s.heap a x
theorem ad7 {o e:aq}{pos:Pos}{u:CV}(ho:a8 d c o st a aw)(hg:rG d name a aw b aJ)(h:a8 d c e aJ v cE)(hi:xW d op b v cE u mS)(x6:uA d name a u mS ag):dB d c (.AugAssign (.Attribute o name ad8) op e pos) st .next ag:=λA own s env q S R=>
 Tr.eq (arm_exec_AugAssign_2 ..) (Tr.eh ((ho A own s env q S R).bind λaO ov s₁ bF p=>Tr.bind (P:=PV2 mS u a ov) (Tr.holding (Tr.eh
  ((hg A aO s₁ ov q p.S p.r).bind λaS jg aR cY t=>(Tr.holding<|h A aS aR env q t.S<|(R.ext bF).ext cY).bind λdt y bu jP w=>Tr.eh
   ((Tr.operate<|hi A dt bu jg y q w.S (t.r.aM jP.aM) w.r).ac2 λqk z kq Ay k=>⟨k.S,k.r,((p.r.aM cY.aM).aM jP.aM).aM Ay.aM⟩))))
  λaS z aR cY t=>Tr.eh<|(Tr.holding<|x6 A aS aR ov z q t.S t.r' t.r).bind λdt x bu jP cF=>Tr.skip (λx q=>Rc q)<|Tr.pure ⟨cF,rfl⟩))
end
end
section
variable {d:Nat}{c:aY}
def lx (d:Nat)(c:aY)(e:aq)(st:List ae)(v:CV)(ag:List ae):Prop:=∀x p q LN,kn c ag x v=some LN->dB d c (.Assign [.Name x p] e q) st .next LN
def Vd (op:B0)(a b:CV):EZ CV (xW d op a b):=match op with
 |.Add=>uz (P:=xW d .Add) a b (λi j=>.ret (.int (i+j)) λst=>nN λA own s k l S=>P.iadd_int ⟨own,.toks,S.toks _,_,rfl⟩)
  (LF (P:=xW d .Add) a b (λx y=>.ux ((x++y).length<=cX) (.str (x++y)) λh st=>(λA own s o o q S cx di=>cx.elim λt bF=>di.elim λu cY=>by
   subst bF;subst cY
   exact P.iadd_str (UT (λh=>⟨own,.refl,S,Gb (UR h)⟩) (λh=>⟨own,.refl,S,Gb (US h)⟩) ⟨h,own,.toks,S.toks _,_,rfl⟩))) (.ask _))
 |.Sub=>uz (P:=xW d .Sub) a b (λi j=>.ret (.int (i-j)) λst=>nN λA own s k l S=>P.isub_int ⟨own,.toks,S.toks _,_,rfl⟩) (.ask _)
 |_=>.ask _
noncomputable def iB.items:iB->List ae->Option (List CV×List ae)
 |.aE (.cB xs) ag,x=>some (xs,ag)|.c7 (.cB xs) f,st=>some (xs,f st)|x,u=>none
def Ve (v:CV)(n:Nat):EZ (List CV) (Gf d v n):=match v with
 |.cB xs=>match Nat.decEq xs.length n with
   |.isTrue h=>.ret xs λx=>UY h|.isFalse u=>.no
 |v=>.Au iB.items _
def EZ.set {P:List ae->Unit->List ae->Prop}(F:List ae->Option (List ae))(h:∀{st ag},F st=some ag->P st () ag):EZ Unit P:=λz=>match z with
 |⟨st,sc,ob⟩=>Ln (F st) λag e=>some ⟨(),⟨ag,sc,ob⟩,λk=>⟨k,h e⟩⟩
noncomputable def iB.only (s:iB)(st:List ae):Option (Unit×List ae):=match s with
 |.aE x ag=>some ((),ag)|.c7 x f=>some ((),f st)|_=>none
abbrev U (P:List ae->List ae->Prop):List ae->Unit->List ae->Prop:=λst x ag=>P st ag
section
variable (d)
mutual
noncomputable def Gn:Nat->(c:aY)->(t:aq)->(v:CV)->EZ Unit (U (dj d c t v))
 | 0,z,w,q=>.no
 | n+1,c,t,v=>match t with
   | .Name x z=>.set (λst=>kn c st x v) λh=>wg h
   | .Attribute o name z=>(fh d n c o).bind λov=>(EZ.Au iB.only (U (uA d name ov v))).imp λh u ho=>adR ho h
   | .Subscript o i z=>(fh d n c o).bind λov=>(fh d n c i).bind λiv=>(EZ.Au iB.only (U (Gg d ov iv v))).imp λh u hi u ho=>adS ho hi h
   | .Tuple ts z w=>(Ve v ts.length).bind λxs=>(Vf n c ts xs).imp λh u hu=>U1 hu h
   | _=>.no
noncomputable def Vf:Nat->(c:aY)->(ts:List aq)->(vs:List CV)->EZ Unit (U (CO d c ts vs))
 | 0,z,w,q=>.no
 | n+1,c,ts,vs=>match ts,vs with
   | [],[]=>.ret () λu=>UZ
   | t::ts,v::vs=>mo (!lu t) λhs=>(Gn n c t v).bind λu=>(Vf n c ts vs).imp λh u ht=>LK (nO hs) ht h
   | z,w=>.no
end
def ad9 (n:Nat)(c:aY)(t e:aq)(pos:Pos):EZ cZ (dB d c (.Assign [t] e pos)):=.F7 (wh e) (λu=>match t with
  |.Name x p=>(EZ.ask (lx d c e)).bind λv=>.bind (P:=λst u ag=>kn c st x v=some ag) (.set (λst=>kn c st x v) λh=>h) λu=>.ret .next λu u h u c9=>c9 _ _ _ _ h|t=>mo (!Gj t) λhn=>mo (!lu t) λhs=>.F6 (U9 c [t] e) λw u=>match w with
    |⟨none,hw⟩=>(fh d n c e).bind λv=>(Gn d n c t v).bind λu=>.ret .next λu u h u he=>ad3 (nO hn) hw he (nO hs) h|_=>.no) λhc=>.F6 (U9 c [t] e) λw u=>match w with
   |⟨none,hw⟩=>mo (!lu t) λhs=>(fh d n c e).bind λv=>(Gn d n c t v).bind λu=>.ret .next λu u h u he=>Vc hc hw he (nO hs) h|⟨some names,hw⟩=>(fh d n c e).bind λv=>(Ve v names.length).bind λxs=>.bind (P:=λst u ag=>CP c names.reverse xs.reverse st=some ag) (.set (λst=>CP c names.reverse xs.reverse st) λh=>h) λu=>.ret .next λu u h u hu u he=>λA own s env q S R=>Tr.eq (Va R (Gk hc) hw) (Tr.eh ((he A own s env q S R).bind λaO x s₁ bF p=>Tr.skip (λu q=>sC q) ((hu A aO s₁ x q p.S p.r).bind λaS vs aR cY t=>Tr.bind (U' h A aS aR env _ q t.S ((R.ext bF).ext cY) t.r.reverse) λdt u bu jP cF=>Tr.pure ⟨cF,rfl⟩)))
mutual
noncomputable def Vg:Nat->(c:aY)->(s:bl)->EZ cZ (dB d c s)
 | 0,w,g=>.no
 | n+1,c,s=>match s with
   | .Pass w=>.ret .next λz=>adU
   | .Break w=>.ret .brk λz=>adV
   | .Continue w=>.ret .cont λz=>adW
   | .Return (some e) w=>(fh d n c e).bind λv=>.ret (.ret v) λz z h=>U2 h
   | .If t x y w=>(CM d n c t).bind λq=>.xX q ((Go n c x).imp λh hq z ht=>U3 ht (λz=>h) λe=>E4 (hq.symm.trans e)) ((Go n c y).imp λh hq z ht=>U3 ht (λe=>E4 (e.symm.trans hq)) λz=>h)
   | .Expr e w=>mo (!wh e) λhc=>(fh d n c e).bind λz=>.ret .next λz z h=>adY (nO hc) h
   | .Assign [t] e pos=>ad9 d n c t e pos
   | .AugAssign t op e pos=>match t with
     | .Name x w=>mo (!(x == ("__classdict__":Str))) λhd=>.Lq (λst=>ji c st x) λa=>(fh d n c e).bind λb=>(Vd op a b).bind λv=>.bind (P:=λst z ag=>kn c st x v=some ag) (.set (λst=>kn c st x v) λh=>h) λz=>
      .ret .next λz z hw z ho z h hr=>ad5 hr (nO hd) h ho hw
     | .Attribute o name w=>(fh d n c o).bind λa=>(EZ.ask (rG d name a)).bind λb=>(fh d n c e).bind λv=>(Vd op b v).bind λu=>(EZ.Au iB.only (U (uA d name a u))).bind λz=>
      .ret .next λz z hs z hi z h z hg z ho=>ad7 ho hg h hi hs
     | _=>.no
   | s=>.Au iB.adi _
noncomputable def Go:Nat->(c:aY)->(b:List bl)->EZ cZ (aI d c b)
 | 0,w,g=>.no
 | n+1,c,b=>match b with
   | []=>.ret .next λz=>U4
   | s::r=>(Vg n c s).bind λf=>match f with
     | .next=>(Go n c r).imp λh z hs=>U5 hs h
     | f=>mo (!f.LM) λhf=>.ret f λz z hs=>U6 hs (nO hf)
end
end
end
section
set_option backward.match.sparseCases true
variable {d:Nat}{c:aY}
noncomputable def fy (names:List (Str×sD)):List Str:=(names.filter λp=>p.2==.cell).map (·.1)
noncomputable def CQ (sc:d8)(binds:List (Str×CV)):List (Str×CV):=(binds.filter λp=>sc.names.lookup p.1==some .local).reverse
noncomputable def LO (sc:d8)(binds:List (Str×CV)):List (Str×CV):=(binds.filter λp=>!(sc.names.lookup p.1==some .local)).reverse
def dU (sc:d8)(binds:List (Str×CV)):List ae:=.frame (CQ sc binds)::(fy sc.names).map λx=>.cell ((LO sc binds).lookup x)
noncomputable def da (sc:d8)(n:Nat)(tab:Option (ai×ai)):aY:={scope:=sc,locals:=n,cells:=je (n+1) sc.names [],tab:=tab}
def Az (n:Nat)(names:List (Str×sD)):List ai:=(aK (fy names).length).map (n + ·)
theorem Gp:∀names n m acc oP,gZ own acc oP->(∀i,i<(fy names).length->own[n+i]?=some (m+i))->gZ own (je n names acc) (je m names oP)
 |[],u,o,z,w,h,v=>h|(x,k)::r,n,m,acc,oP,h,ho=>by
  unfold je;by_cases hk:(k==sD.cell)=true
  ·rw[if_pos hk,if_pos hk];have hn:fy ((x,k)::r)=x::fy r:=by simp [fy,hk]
   refine Gp r (n+1) (m+1) _ _ ⟨m,oP,rfl,by simpa using ho 0 (by rw[hn];simp),h⟩ λi hi=>?_;have:=ho (i+1) (by rw[hn];simp;omega);rwa[show n+1+i=n+(i+1) by exact Aa,show m+1+i=m+(i+1) by exact Aa]
  rw[if_neg hk,if_neg hk];have hn:fy ((x,k)::r)=fy r:=by simp [fy,hk]
  exact Gp r n m acc oP h (by rwa[hn] at ho)
theorem CR:∀names m acc i x,(fy names)[i]?=some x->(x,m+i)∈je m names acc
 |[],u,o,i,x,h=>by simp [fy] at h|(y,k)::r,m,acc,i,x,h=>by
  unfold je;by_cases hk:(k==sD.cell)=true
  ·rw[if_pos hk];have hn:fy ((y,k)::r)=y::fy r:=by simp [fy,hk]
   rw[hn] at h;cases i with
   |zero=>
    obtain rfl:=dE h;have bj:∀names m acc (p),p∈acc->p∈je m names acc:=λnames=>by
     induction names with
     |nil=>exact λm acc p hp=>hp|cons q r ih=>
      obtain⟨z,k'⟩:=q;intro m acc p hp;unfold je;split
      ·exact ih _ _ _<|.tail _ hp
      exact ih _ _ _ hp
    exact bj r _ _ _<|.head _
   |succ i=>have:=CR r (m+1) ((y,m)::acc) i x (by simpa using h);rwa[show m+(i+1)=m+1+i by exact z9]
  rw[if_neg hk];have hn:fy ((y,k)::r)=fy r:=by simp [fy,hk]
  rw[hn] at h;exact CR r m acc i x h
theorem LP {own:List ai}{h:bf}{sc:d8} kindOf (ly:∀x,kindOf x=sc.names.lookup x):∀binds bs m vars,cf own h binds bs->(∀x,kQ own h (vars.lookup x) (m x))->∀x,kQ own h (((binds.filter λp=>sc.names.lookup p.1==some .local).reverse++vars).lookup x) (bindL kindOf bs m x)
 |[],u,m,vars,r,hv=>by subst r;exact hv|(y,cv)::r,u,m,vars,⟨v,bs,e,hr,hq⟩,hv=>by
  subst e;intro x;unfold bindL;by_cases hl:(sc.names.lookup y==some sD.local)=true
  ·have h1:kindOf y=some .local:=by rw[ly];simpa using hl
   rw[if_pos h1,ap5 (by exact hl),B3,eJ];refine LP kindOf ly r bs _ ([(y,cv)]++vars) hq (λz=>?_) x;show kQ own h (((y,cv)::vars).lookup z) _;rw[nD];by_cases hz:z=y
   ·subst hz;simp [beq_self_eq_true];exact⟨v,rfl,hr⟩
   rw[beq_eq_false_iff_ne.mpr hz,if_neg hz];exact hv z
  have h1:¬kindOf y=some .local:=λe=>hl (by rw[<-ly,e];rfl);rw[if_neg h1,ap6<|by exact hl];exact LP kindOf ly r bs m vars hq hv x
theorem LQ {own:List ai}{h:bf}{sc:d8} kindOf (ly:∀x,kindOf x=sc.names.lookup x):∀binds bs m vars,cf own h binds bs->(∀x,kQ own h (vars.lookup x) (m x))->∀x,kQ own h (((binds.filter λp=>!(sc.names.lookup p.1==some .local)).reverse++vars).lookup x) (bindC kindOf bs m x)
 |[],u,m,vars,r,hv=>by subst r;exact hv|(y,cv)::r,u,m,vars,⟨v,bs,e,hr,hq⟩,hv=>by
  subst e;intro x;unfold bindC;by_cases hl:(sc.names.lookup y==some sD.local)=true
  ·have h1:kindOf y=some .local:=by rw[ly];simpa using hl
   rw[if_pos h1,ap6<|by simp only [hl];decide];exact LQ kindOf ly r bs m vars hq hv x
  rw[if_neg (λe=>hl<|by rw[<-ly,e];rfl),ap5 (by simp only [Q9.mpr hl];decide),B3,eJ];refine LQ kindOf ly r bs _ ([(y,cv)]++vars) hq (λz=>?_) x;show kQ own h (((y,cv)::vars).lookup z) _;rw[nD];by_cases hz:z=y
  ·subst hz;simp [beq_self_eq_true];exact⟨v,rfl,hr⟩
  rw[beq_eq_false_iff_ne.mpr hz,if_neg hz];exact hv z
theorem Sx.Gq {own:List ai}{st:List ae}{s:az}(S:Sx own st s){as:List ai}{os:List ae}{h':bf}{t:Tok}(hk:∀b o,s.heap.get? b=some o->h'.get? b=some o)(ha:∀a∈as,s.heap.get? a=none) (hn:as.Nodup)(bJ:as.length=os.length) (hr:eD own s.heap (own++as) h'->∀(i:Nat) o a,os[i]?=some o->as[i]?=some a->Rep (own++as) h' o a) (ht:t≠0:=by first|exact ka _|assumption|exact Sx.tk (by assumption)):Sx (own++as) (st++os) {s with heap:=h',toks:=t}∧a9 own s (own++as) {s with heap:=h',toks:=t}∧eD own s.heap (own++as) h':=by
 have nw:∀b∈own++as,b∈own∨s.heap.get? b=none:=λb hb=>by
  rcases f7.mp hb with q|q
  ·exact .inl q
  exact .inr<|ha b q
 have g:eD own s.heap (own++as) h':=⟨λi b e=>d2 (bV.mp e).1▸e,λb o e u u u=>hk b o e,λb hb=>(nw b hb).imp id FW⟩;have S':=S.more hk;refine⟨⟨S'.bj,by simp [S.len,bJ],?_,λb hb=>?_,λi o b e1 e2=>?_,S'.cU,S.bare,S'.tk,S.ok⟩,⟨⟨_,rfl⟩,nw,λb o e u u=>hk b o e,λq u o e=>⟨o,hk _ _ e⟩,.of rfl rfl⟩,g⟩
 ·rw[xz];exact⟨S.kj,hn,λx hx y hy e=>S.jO (ha y hy)<|e▸hx⟩
 ·rcases f7.mp hb with q|q
  ·exact S.fresh b q
  exact⟨S.ut<|ha b q,S.mf<|ha b q⟩
 by_cases hi:i<own.length
 ·rw[d2 hi] at e2;rw[d2<|S.len▸hi] at e1;exact(S.iV i o b e1 e2).more g hk
 rw[dT<|by exact o8 hi] at e2;rw[dT<|S.len▸o8 hi,<-S.len] at e1;exact hr g _ _ _ e1 e2
theorem Vh {own:List ai}{st:List ae}{s s':az}{sc:d8}{binds:List (Str×CV)}{bs:List (Str×an)}{env:Env}{L:ai}(S:Sx own st s)(hb:cf own s.heap binds bs)(hL:L=s.heap.objs.size) (mT:env.locals=L)(hsc:env.scope=sc)(sX:env.cells=je (L+1) sc.names [])(Gr:(fy sc.names).Nodup)(aeb:((je 0 sc.names []).map (·.1)).Nodup) (x:InCallC s env.locals (bindL env.kindOf bs λu=>none) env.cells (bindC env.kindOf bs λu=>none) s')(lz:s'.toks≠0):∃av,a9 own s av s'∧Sx av (st++dU sc binds) s'∧av[st.length]?=some env.locals∧gZ av (je (st.length+1) sc.names []) env.cells:=by
 obtain⟨h',tk,rfl,hk⟩:=x.done;have iA:∀a,s.heap.objs.size<=a->s.heap.get? a=none:=λa h=>iI h;have ly:∀y,env.kindOf y=sc.names.lookup y:=λy=>by show env.scope.names.lookup y=_;rw[hsc]
 let as:=L::Az (L+1) sc.names;have bJ:as.length=(dU sc binds).length:=by simp [as,Az,dU]
 have eG:∀i,i<(fy sc.names).length->as[1+i]?=some (L+1+i):=λi hi=>by rw[zR 1 i,re];simp [Az,hi]
 obtain⟨S',E',g⟩:=S.Gq hk (λa ha=>by
  rcases pO.mp ha with e|ha
  ·exact iA _<|ll<|hL.symm.trans e.symm
  ·obtain⟨i,hi,e⟩:=cu.mp ha;rw[<-e];apply iA _;exact hL▸fC (ke L) (vH (L+1) i)) (by
  refine zJ.mpr ⟨λha=>?_,?_⟩
  ·obtain⟨i,hi,e⟩:=cu.mp ha;exact absurd e.symm<|pQ<|sF (rg L)<|vH (L+1) i
  ·exact Rf _ (λa b oQ e=>oQ<|Rg e) xF) bJ (λg i o a e1 e2=>by
  cases i with
  |zero=>obtain rfl:=dE e1;obtain rfl:=dE e2;refine⟨_,mT▸x.toInCall.ns,λy=>?_⟩;have:=LP env.kindOf ly binds bs (λu=>none) [] (hb.aM g) (λu=>rfl) y;rw[dM] at this;exact .inr this|succ i=>
   have oR:((fy sc.names).map λy=>ae.cell<|(LO sc binds).lookup y)[i]?=some o:=by simpa [dU] using e1
   rw[dN] at oR;cases hy:(fy sc.names)[i]? with
   |none=>rw[hy] at oR;exact nS oR|some y=>
    rw[hy] at oR;obtain rfl:=dE oR;have hi:=(bV.mp hy).1;have e3:=eG i hi;rw[zR 1 i] at e3;rw[e3] at e2;obtain rfl:=dE e2;have hm:(y,L+1+i)∈env.cells:=sX▸CR _ _ _ _ _ hy;have oS:env.cells.lookup y=some (L+1+i):=by refine abm ?_ hm;rwa[sX,<-cellsFrom_names sc.names 0 (L+1) [] [] rfl]
    refine⟨_,x.cell y _ oS,?_⟩;have:=LQ env.kindOf ly binds bs (λu=>none) [] (hb.aM g) (λu=>rfl) y;rwa[dM] at this)
 refine⟨own++as,E',S',(by rw[<-S.len,dT<|aG _,fk,mT];rfl),?_⟩;rw[sX];refine Gp sc.names _ _ _ _ rfl λi hi=>?_;rw[<-S.len,show own.length+1+i=own.length+(1+i) by exact SO,dT (by exact pY),sG];exact eG i hi
structure CS (a:ai)(fd:el)(body:List bl):Prop where
 bD:∃oc od kU,X.K.lookup a=some ⟨oc,od,.func fd,kU⟩
 body:fd.body = .stmts body
 aH:fd.globals=jy
 d3:fd.closure = []
 blt:fd.builtins=Kb
 code:codeIn X.K fd.code fd.qualname=true
 kind:fd.scope.kind = .function
 co:fd.scope.isCoroutine=false
 nd:(fy fd.scope.names).Nodup
 Gs:((je 0 fd.scope.names []).map (·.1)).Nodup
def db (fd:el)(st:List ae)(args:List CV)(kw:List (Str×CV))(binds:List (Str×CV))(aw:List ae):Prop:=∀own s vs ks,Sx own st s->aF own s.heap args vs->cf own s.heap kw ks->∀(M:Model) (A:Around) (E:an->az->Prop) (Q:List (Str×an)->az->Prop),(∀av bs s',a9 own s av s'->Sx av aw s'->cf av s'.heap binds bs->Q bs s')->be M A (sH fd ⟨vs,ks⟩) Q E s
theorem Vi {fd:el}{st:List ae}{args:List CV}{kw binds:List (Str×CV)}(h:∀own hp vs ks,aF own hp args vs->cf own hp kw ks->∃bs,(∀S,pR X.K S (sH fd ⟨vs,ks⟩)=some bs)∧((∀b o,X.H.get? b=some o->hp.get? b=some o)->cf own hp binds bs)):db fd st args kw binds st:=λown s vs ks S cx di M A E Q hQ=>by obtain⟨bs,h1,h2⟩:=h own s.heap vs ks cx di;exact(Rh (vS S.ok.k S.bj)<|h1 _).here<|hQ own bs s .refl S<|h2 S.bj
def Gu (sc:d8)(binds:List (Str×CV)):Bool:=binds.all λp=>sc.names.lookup p.1==some .local||(sc.names.lookup p.1==some .cell&&(fy sc.names).contains p.1)
theorem cf.names:∀{es:List (Str×CV)} {k:List (Str×an)},cf own h es k->k.map (·.1)=es.map (·.1)
 |[],x,e=>by subst e;rfl|(x,u)::o,z,⟨v,k',e,hv,hr⟩=>by subst e;simp [cf.names hr]
theorem aF.Gv {own r:List ai}{h:bf}{c:CV}{v:an}{n:Nat}(hn:own.length=n)(hb:c.lo n=true)(e:RelV (own++r) h c v):RelV own h c v:=RelV.drop c (hn▸hb) e
def bM (d:Nat)(f:CV)(args:List CV)(kw:List (Str×CV))(st:List ae)(v:CV)(ag:List ae):Prop:=∀A own s fv vs ks,Rm d A->Sx own st s->RelV own s.heap f fv->aF own s.heap args vs->cf own s.heap kw ks->gK (aQ X.prog X.w) A (.call fv ⟨vs,ks⟩) (λr s'=>match r with
   |.ok (.ret x)=>Ao own s (PV ag v) x s'|.ok u=>False|.error u=>False) s
theorem bM.call {f:CV}{args:List CV}{kw:List (Str×CV)}{st ag:List ae}{v:CV}(h:bM d f args kw st v ag):bk d f args kw st v ag:=λA own s fv vs ks q S fQ cx di=>
 Ri (h A own s fv vs ks q S fQ cx di)
theorem aec {a:ai}{fd:el}{body:List bl}{args:List CV}{kw binds:List (Str×CV)}{st aw ag g:List ae}{f:cZ}{v:CV}{tab:Option (ai×ai)} (F:CS a fd body)(x7:fd.scope.isGenerator=false)(hb:db fd st args kw binds aw)(hk:Gu fd.scope binds=true)(wi:∀q,tab=some q->q∈X.cU∧fd.code=.ref q.1) (h:aI d (da fd.scope aw.length tab) body (aw++dU fd.scope binds) f (ag++g))(hv:f=.ret v∨f=.next∧v=.none) (bJ:st.length<=ag.length)(b9:(ag.all λo=>o.lo ag.length)=true)(uB:v.lo ag.length=true):bM (d+2) (.aH a) args kw st v ag:=λA own s fv vs ks q S fQ cx di=>by
 subst fQ;obtain⟨oc,od,kU,LR⟩:=F.bD;refine codeAny_call_function q.depth (S.bj _ _<|S.ok.k _ _ LR) rfl F.co x7 F.body (codeRec_of (λa o e=>S.bj _ _<|S.ok.k a o e) F.code) (hb own s vs ks S cx di _ _ _ _ λaO bs s₁ bK bq wj=>?_);rw[F.aH,F.d3,F.blt];refine bC (xG (l7.mpr bq.tk) (E:=λu u=>False) (Q:=λenv s'=>env=_∧InCallC s₁ env.locals (bindL env.kindOf bs λu=>none) env.cells (bindC env.kindOf bs λu=>none) s')
  (ap7 F.kind (λx hx=>?_) λenv he s' x=>⟨he,x⟩)) (λenv s' hx=>?_) λu u x=>x.2.elim
 ·have hm:x.1∈binds.map (·.1):=cf.names wj▸Kf hx;obtain⟨p,hp,e⟩:=cu.mp hm;have:=dI.mp hk p hp;rw[e] at this;rcases ap8.mp this with h1|h1
  ·exact .inl (by simpa using h1)
  rw[bz] at h1;obtain⟨h2,h3⟩:=h1;refine .inr ⟨by simpa using h2,?_⟩;obtain⟨i,hi,e2⟩:=pN.mp<|ap9.mp h3;rw[abm (cellsFrom_names fd.scope.names 0 (s₁.heap.objs.size+1) [] [] rfl▸F.Gs)<|CR fd.scope.names (s₁.heap.objs.size+1) [] i x.1<|by rw[bA hi,e2]];rfl
 obtain⟨ku,he,x⟩:=hx;subst he;obtain⟨h',tk,rfl,eV⟩:=x.done;refine⟨(S.ok.fw.nolimit.keeps bq.bj).keeps eV,codeAny_func ?_⟩;obtain⟨av,E',S',mT,Vj⟩:=Vh bq wj rfl rfl rfl rfl F.nd F.Gs x (l7.mp ku);have R:dK av (da fd.scope aw.length tab) (newEnv fd.scope s₁.heap.objs.size jy (je (s₁.heap.objs.size+1) fd.scope.names []) (fd.qualname++".<locals>.") (some a) fd.code none Kb):=
  ⟨rfl,F.kind,mT,Vj,rfl,rfl,λq hq=>wi q hq⟩
 refine bC (h _ av _ _ (Rm.deeper<|Rm.le q<|Tq) S' R) (λfl aR ⟨aS,bX,bw,rf⟩=>?_) λu u x=>x.elim;have E:=bK.trans<|E'.trans bX;obtain⟨r,hr⟩:=E.pre;have CT:aS=aS.take ag.length++aS.drop ag.length:=(E5 ..).symm;have CU:(aS.take ag.length).length=ag.length:=by rw[nG];exact Sj (by rw[bw.len,dJ])
 have cF:=Sx.drop (CT▸bw) CU b9;have dC:a9 own s (aS.take ag.length) aR:=by refine⟨⟨r.take<|ag.length-own.length,?_⟩,λa ha=>E.new a<|B4 ha,E.bj,E.cU,E.os⟩;rw[hr,List.take_append,uc<|by rwa[S.len]]
 rcases hv with rfl|⟨rfl,rfl⟩
 ·obtain⟨y,rfl,hy⟩:=rf;exact⟨_,dC,cF,aF.Gv CU uB<|by rw[<-CT];exact hy⟩
 subst rf;exact⟨_,dC,cF,rfl⟩
end
section
variable {d:Nat}{c:aY}
structure iY (a:CV)(items:List CV)(P:List ae->Prop) where
 It:Nat->List ai->ai->bf->Prop
 dG:∀{A:Around} {own st s x} {Q:an->az->Prop},A.handled=none->Sx own st s->P st->RelV own s.heap a x->
  (∀ia h' tk,tk≠0->s.heap.get? ia=none->(∀b o,s.heap.get? b=some o->h'.get? b=some o)->It 0 own ia h'->Q (.ref ia) { s with heap:=h',toks:=tk})->be (aQ X.prog X.w) A (ud x) Q (λu u=>False) s
 qf:∀{A:Around} {i own ia s} {Q:an->az->Prop} {E:an->az->Prop},It i own ia s.heap->Q (.ref ia) s->be (aQ X.prog X.w) A (ud (.ref ia)) Q E s
 ab:∀{i own ia h},It i own ia h->∃o n,h.get? ia=some o∧¬eO o∧o.cls = .type n∧(["enumerate","zip","dict_itemiterator","dict_reverseitemiterator","odict_iterator","itertools.zip_longest","itertools.pairwise"]:List String).contains n=false
 uC:∀{i own av ia h h'},It i own ia h->eD own h av h'->h'.get? ia=h.get? ia->It i av ia h'
 next:∀{A:Around} {i own st ia s v} {Q:Option an->az->Prop},A.handled=none->Sx own st s->P st->It i own ia s.heap->ia∉own->items[i]?=some v->
  (∀y h' tk,tk≠0->RelV own s.heap v y->f6 ia s.heap h'->It (i+1) own ia h'->Q (some y) { s with heap:=h',toks:=tk})->be (aQ X.prog X.w) A (l8 (.ref ia)) Q (λu u=>False) s
 jk:∀{A:Around} {own st ia s} {Q:Option an->az->Prop},A.handled=none->Sx own st s->P st->It items.length own ia s.heap->ia∉own->
  (∀h' tk,tk≠0->f6 ia s.heap h'->Q none { s with heap:=h',toks:=tk})->be (aQ X.prog X.w) A (l8 (.ref ia)) Q (λu u=>False) s
def rI (k:Nat)(items:List CV):iY (.ab k) items (λst=>st[k]?=some (.list items)) where
 It:=λi own ia h=>∃l,own[k]?=some l∧h.IsListIter ia l i
 dG:=λhh S hp hr hQ=>by
  obtain⟨l,hl,rfl⟩:=hr
  obtain⟨l',nP,vs,n,ho,hv⟩:=S.bD hp
  rw[hl] at nP;obtain rfl:=dE nP
  exact abn ⟨_,ho,rfl,n,rfl⟩ (hQ _ _ _ (by first|exact ka _|exact S.tk) (iI (aG _)) (λb o e=>fT _ e) ⟨l,hl,_,iy _ rfl,rfl,rfl⟩)
 qf:=λ⟨l,hl,hi⟩ hQ=>wpAny_pyIter_listiter hi hQ
 ab:=λ⟨l,hl,o,h1,h2,h3⟩=>⟨o,_,h1,Obj.uq h2 h3 (by decide) (by decide) rfl,h2,by decide⟩
 uC:=λ⟨l,hl,o,h1,h2⟩ g e=>⟨l,g.bD _ _ hl,o,e.trans h1,h2⟩
 next:=λhh S hp ⟨l,hl,hi⟩ hn hx hQ=>by
  obtain⟨l',nP,vs,n,ho,hv⟩:=S.bD hp
  rw[hl] at nP;obtain rfl:=dE nP
  obtain⟨y,hy,hr⟩:=aF.get hv hx
  exact wpAny_pyNext_list_item hi ⟨_,ho,rfl,n,rfl⟩ (by simpa using hy) λh' jl hs=>hQ y h' _ (by first|exact ka _|exact S.tk) hr hs.extBut ⟨l,hl,jl⟩
 jk:=λhh S hp ⟨l,hl,hi⟩ hn hQ=>by
  obtain⟨l',nP,vs,n,ho,hv⟩:=S.bD hp
  rw[hl] at nP;obtain rfl:=dE nP
  exact wpAny_pyNext_list_end hh hi ⟨_,ho,rfl,n,rfl⟩ (by rw[aF.length hv];simp) λh' he=>hQ h' _ (by first|exact ka _|exact S.tk) he
inductive aed (items:List CV)(i:Nat)(own:List ai)(ia:ai)(h:bf):Prop|mk (t:ai) (vs:List an) (n:Nat) (h1:t∉own) (h2:t∉X.P) (h3:h.get? t=some {cls:=.type "tuple",data:=.seq vs.toArray n}) (h4:aF own h items vs) (hi:h.IsTupleIter ia t i)
def Vk (items:List CV):iY (.cB items) items (λu=>True) where
 It:=aed items
 dG:=λ{A own st s x Q} hh S hp hr hQ=>by
  obtain⟨t,vs,n,rfl,h1,h2,ho,hv⟩:=hr
  have hk:∀b o,s.heap.get? b=some o->(s.heap.push {cls:=.type "tuple_iterator",data:=.fields #[.ref t,.int 0 0]}).get? b=some o:=λb o e=>fT _ e
  refine wpAny_pyIter_tuple ⟨_,ho,rfl,n,rfl⟩ (hQ _ _ _ (by first|exact ka _|exact S.tk) (iI (aG _)) hk ⟨t,vs,n,h1,h2,hk _ _ ho,?_,_,iy _ rfl,rfl,rfl⟩)
  exact aF.aM ⟨λu u e=>e,λb o e u u u=>hk b o e,λu h=>.inl h⟩ _ hv
 qf:=λI hQ=>by obtain⟨_,_,_,_,_,_,_,hi⟩:=I;exact wpAny_pyIter_tupleiter hi hQ
 ab:=λI=>by obtain⟨_,_,_,_,_,_,_,o,h1,h2,h3⟩:=I;exact⟨o,_,h1,Obj.uq h2 h3 (by decide) (by decide) rfl,h2,by decide⟩
 uC:=λI g e=>by obtain⟨t,vs,n,h1,h2,h3,h4,o,h5,h6⟩:=I;exact⟨t,vs,n,g.not h3 h1 FS,h2,g.bj _ _ h3 FS h1 h2,aF.aM g _ h4,o,e.trans h5,h6⟩
 next:=λhh S hp I hn hx hQ=>by
  obtain⟨t,vs,n,h1,h2,h3,h4,o,e1,e2,e3⟩:=I
  obtain⟨y,hy,hr⟩:=aF.get h4 hx
  have hv:¬eO o:=Obj.uq e2 e3 (by decide) (by decide) rfl
  refine wpAny_pyNext_tuple_item ⟨o,e1,e2,e3⟩ ⟨_,h3,rfl,n,rfl⟩ (Rj.trans hy) λh' jl hs=>hQ y h' _ (by first|exact ka _|exact S.tk) hr hs.extBut ⟨t,vs,n,h1,h2,hs.extBut t _ (λe=>?_) h3,aF.aM (eD.iW (λo' e=>dE (e1.symm.trans e)▸hv) hs.extBut) _ h4,jl⟩
  exact hv (dE (h3.symm.trans (e▸e1))▸FS)
 jk:=λhh S hp I hn hQ=>by
  obtain⟨t,vs,n,h1,h2,h3,h4,hi⟩:=I
  exact wpAny_pyNext_tuple_end hh hi ⟨_,h3,rfl,n,rfl⟩ (Rj.trans (B5 (ll (aF.length h4).symm))) λh' he=>hQ h' _ (by first|exact ka _|exact S.tk) he
noncomputable def jR (x:Nat):CV:=.str ⟨#[x]⟩
theorem aee {prog:q9}{w:pM}{A:Around}{E:an->az->Prop}{s:az}{it:ai}{x:Str}{t:Tok}{i k:Nat}{Q:Option an->az->Prop}(hi:s.heap.IsStrIter it (jM x) x t i)(hx:x.cps[i]?=some k) (hQ:∀h',h'.IsStrIter it (jM x) x t (i+1)->sJ it s.heap h'->Q (some (.str ⟨#[k]⟩ s.toks)) {s with heap:=h',toks:=s.toks+1}):be (aQ prog w) A (l8 (.ref it)) Q E s:=by
 unfold jM at hi hQ;split at hi
 ·rename_i h;rw[if_pos h] at hQ;exact wpAny_pyNext_ascii_item hi hx hQ
 rename_i h;rw[if_neg h] at hQ;exact wpAny_pyNext_wide_item hi hx hQ
theorem aef {w:pM}{E:an->az->Prop}{x:Str}{t:Tok}{i:Nat}(hh:A.handled=none)(hi:s.heap.IsStrIter it (jM x) x t i)(hx:x.cps[i]?=none)(hQ:∀h',f6 it s.heap h'->Q none {s with heap:=h'}):be (aQ prog w) A (l8 (.ref it)) Q E s:=by
 unfold jM at hi;split at hi
 ·exact wpAny_pyNext_ascii_end hh hi hx hQ
 exact wpAny_pyNext_wide_end hh hi hx hQ
noncomputable def Gw (x:Str):iY (.str x) (x.cps.toList.map jR) (λu=>True) where
 It:=λi own ia h=>∃t,h.IsStrIter ia (jM x) x t i
 dG:=λhh S hp hr hQ=>by
  obtain⟨t,rfl⟩:=hr
  exact wpAny_pyIter_strU (hQ _ _ _ (by first|exact ka _|exact S.tk) (iI (aG _)) (λb o e=>fT _ e) ⟨t,_,iy _ rfl,rfl,rfl⟩)
 qf:=λ⟨t,hi⟩ hQ=>by
  unfold jM at hi
  split at hi
  · exact wpAny_pyIter_striter_ascii hi hQ
  · exact wpAny_pyIter_striter_wide hi hQ
 ab:=λ⟨t,o,h1,h2,h3⟩=>⟨o,_,h1,Obj.uq h2 h3 (by unfold jM;split<;>decide) (by unfold jM;split<;>decide) rfl,h2,by unfold jM;split<;>decide⟩
 uC:=λ⟨t,o,h1,h2⟩ g e=>⟨t,o,e.trans h1,h2⟩
 next:=λ{A i own st ia s v Q} hh S hp ⟨t,hi⟩ hn hx hQ=>by
  rw[dN] at hx
  cases hk:x.cps.toList[i]? with
  |none=>rw[hk] at hx;exact nS hx
  |some k=>
    rw[hk] at hx;obtain rfl:=dE hx
    exact aee hi (by simpa using hk) λh' jl hs=>hQ _ h' _ (by first|exact ka _|exact S.tk) ⟨_,rfl⟩ hs.extBut ⟨t,jl⟩
 jk:=λhh S hp ⟨t,hi⟩ hn hQ=>aef hh hi (by simp) λh' he=>hQ h' _ (by first|exact ka _|exact S.tk) he
noncomputable def sY (a:Int)(n:Nat)(c:Int):List CV:=(aK n).map λ(i:Nat)=>CV.int (a+(i:Int)*c)
def Vl (a b c:Int)(n:Nat)(hs:abo a b c=true)(hn:Kg a b c=(n:Int)):iY (.fW a b c) (sY a n c) (λz=>True) where
 It:=λi own ia h=>IsRangeIter h ia (a+(i:Int)*c) ((n:Int)-i) c
 dG:=λ{A own st s x Q} hh S hp hr hQ=>by
  obtain⟨r,t,u,w,rfl,h1,h2,ho⟩:=hr
  refine wpAny_pyIter_range ho hs (hQ _ _ _ (by first|exact ka _|exact S.tk) (iI (aG _)) (λb o e=>fT _ e) ?_)
  rw[hn]
  show IsRangeIter _ _ _ _ _
  have e:(s.heap.push {cls:=.type "range_iterator",data:=.fields #[rh a,rh (n:Int),rh c]}).get? s.heap.objs.size=some {cls:=.type "range_iterator",data:=.fields #[rh a,rh (n:Int),rh c]}:=iy _ rfl
  simpa using e
 qf:=λhi hQ=>wpAny_pyIter_rangeiter hi hQ
 ab:=λhi=>⟨_,_,hi,Obj.uq rfl rfl (by decide) (by decide) rfl,rfl,by decide⟩
 uC:=λhi g e=>e.trans hi
 next:=λ{A i own st ia s v Q} hh S hp hi mU hx hQ=>by
  have aZ:i<n:=by
   have:=(bV.mp hx).1
   simpa [sY] using this
  have hv:v=.int (a+(i:Int)*c):=by
   have:(sY a n c)[i]?=some (.int (a+(i:Int)*c)):=by simp [sY,aZ]
   rw[this] at hx;obtain rfl:=dE hx;rfl
  subst hv
  refine wpAny_pyNext_range_item hi (by exact ah [_,_] (.lt .o .i (.g 1 0 (.it .k (.s (.c .i) (.c .o))))) rfl aZ) λh' jl iD=>hQ _ h' _ (by first|exact ka _|exact S.tk) ⟨_,rfl⟩ iD.extBut ?_
  have e1:a+(i:Int)*c+c=a+((i+1:Nat):Int)*c:=by rw[Int.natCast_succ,Int.add_mul,J0,Int.add_assoc]
  have e2:(n:Int)-i-1=(n:Int)-((i+1:Nat):Int):=Int.sub_sub _ _ _
  rw[<-e1,<-e2];exact jl
 jk:=λ{A own st ia s Q} hh S hp hi mU hQ=>by
  refine wpAny_pyNext_range_end hh hi ?_ λh' he=>hQ h' _ (by first|exact ka _|exact S.tk) he
  simp [sY]
end
section
set_option backward.match.sparseCases true
variable {d:Nat}{c:aY}
inductive x9 (own:List ai)(s:az)(ag:List ae)(f:cZ)(r:Except an Flow)(s':az):Prop|mk (fl:Flow) (av:List ai) (e:r=.ok fl) (E:a9 own s av s') (S:Sx av ag s') (r:xV av s'.heap f fl)
theorem Gy {own aS:List ai}{st ag g:List ae}{s aR:az}(S:Sx own st s)(E:a9 own s aS aR)(bw:Sx aS (ag++g) aR)(bJ:st.length<=ag.length)(b9:(ag.all λo=>o.lo ag.length)=true):∃dt ya,aS=dt++ya∧dt.length=ag.length∧a9 own s dt aR∧Sx dt ag aR:=by
 obtain⟨r,hr⟩:=E.pre;have CT:aS=aS.take ag.length++aS.drop ag.length:=(E5 ..).symm;have CU:(aS.take ag.length).length=ag.length:=by rw[nG];exact Sj (by rw[bw.len,dJ])
 refine⟨_,_,CT,CU,⟨⟨r.take<|ag.length-own.length,?_⟩,λa ha=>E.new a<|B4 ha,E.bj,E.cU,E.os⟩,Sx.drop (by rwa[<-CT]) CU b9⟩;rw[hr,List.take_append,uc<|by rwa[S.len]]
theorem a8.drop {e:aq}{st ag g:List ae}{v:CV}(h:a8 d c e st v (ag++g))(bJ:st.length<=ag.length)(b9:(ag.all λo=>o.lo ag.length)=true)(hv:v.lo ag.length=true):a8 d c e st v ag:=λA own s env q S R=>
 bC (h A own s env q S R) (λx s' ⟨aS,E,bw,r⟩=>by obtain⟨dt,ya,e1,e2,dC,cF⟩:=Gy S E bw bJ b9;subst e1;exact⟨dt,dC,cF,aF.Gv e2 hv r⟩) λu u x=>x
noncomputable def cZ.lo (n:Nat):cZ->Bool
 |.ret v=>v.lo n|_=>true
theorem xV.drop (hn:own.length=n)(hb:f.lo n=true)(e:xV (own++r) h f fl):xV own h f fl:=by cases f with|ret v=>obtain⟨x,e1,e2⟩:=e;exact⟨x,e1,aF.Gv hn hb e2⟩|_=>exact e
theorem aI.drop {e:List bl}{st ag g:List ae}{f:cZ}(h:aI d c e st f (ag++g))(bJ:st.length<=ag.length)(b9:(ag.all λo=>o.lo ag.length)=true)(hv:f.lo ag.length=true):aI d c e st f ag:=λA own s env q S R=>
 bC (h A own s env q S R) (λx s' ⟨aS,E,bw,r⟩=>by obtain⟨dt,ya,e1,e2,dC,cF⟩:=Gy S E bw bJ b9;subst e1;exact⟨dt,dC,cF,xV.drop e2 hv r⟩) λu u x=>x
def LU (r:List ae->cZ->List ae->Prop)(f:cZ)(st:List ae)(f':cZ)(ag:List ae):Prop:=cZ.rec (r st f' ag) (f'=.next∧ag=st) (r st f' ag) (λv=>f'=.ret v∧ag=st) f
theorem Vm {r:List ae->cZ->List ae->Prop}{f f':cZ}{aJ ag:List ae}(h:LU r f aJ f' ag){bx aS:List ai}{aT aR:az}{fl:Flow}(E:a9 bx aT aS aR)(S:Sx aS aJ aR)(rf:xV aS aR.heap f fl){G:Prop} (k:r aJ f' ag->G):match(generalizing:=false) fl with|.next|.cont=>G|.brk=>x9 bx aT ag f' (.ok .next) aR|.ret v=>x9 bx aT ag f' (.ok (.ret v)) aR:=by cases f with|next=>subst rf;exact k h|cont=>subst rf;exact k h|brk=>obtain⟨rfl,rfl⟩:=h;subst rf;exact⟨_,aS,rfl,E,S,rfl⟩|ret v=>obtain⟨rfl,rfl⟩:=h;obtain⟨x,rfl,hv⟩:=rf;exact⟨_,aS,rfl,E,S,x,rfl,hv⟩
def fG (d:Nat)(c:aY)(target:aq)(body:List bl)(P:List ae->Prop)(xs:List CV):List ae->cZ->List ae->Prop:=List.rec (λst f ag=>P st∧f=.next∧ag=st) (λx u r st f' ag=>P st∧∃aw f aJ,dj d c target x st aw∧aI d c body aw f aJ∧LU r f aJ f' ag) xs
section
variable {target:aq}{body:List bl}{P:List ae->Prop}{x:CV}{xs:List CV}{st aw aJ ag:List ae}{f f':cZ}{v:CV}
theorem fG.nil (h:P st):fG d c target body P [] st .next st:=⟨h,rfl,rfl⟩
theorem fG.cons (h:P st)(a:dj d c target x st aw)(b:aI d c body aw f aJ)(hf:f=.next∨f=.cont)(r:fG d c target body P xs aJ f' ag):fG d c target body P (x::xs) st f' ag:=⟨h,_,_,_,a,b,(by rcases hf with rfl|rfl<;>exact r)⟩
theorem fG.brk (h:P st)(a:dj d c target x st aw)(b:aI d c body aw .brk aJ):fG d c target body P (x::xs) st .next aJ:=⟨h,_,_,_,a,b,rfl,rfl⟩
theorem fG.ret (h:P st)(a:dj d c target x st aw)(b:aI d c body aw (.ret v) aJ):fG d c target body P (x::xs) st (.ret v) aJ:=⟨h,_,_,_,a,b,rfl,rfl⟩
end
theorem AA {A:Around}{s:az}{target:aq}{it:an}{body:List bl}{env:Env}{R:Kc->az->Prop} (h:be (aQ X.prog X.w) A (l8 it) (λr s₁=>match r with|none=>R (.ok .next) s₁|some v=>be (aQ X.prog X.w) A (ri target it v) (λu yb=>be (aQ X.prog X.w) A (oE target env v) (λu aR=>be (aQ X.prog X.w) A (l4 body env) (λf bu=>match f with|.next|.cont=>gK (aQ X.prog X.w) A (.forLoop target it body [] env) R bu|.brk=>R (.ok .next) bu|.ret v=>R (.ok (.ret v)) bu) (λu u=>False) aR) (λu u=>False) yb) (λu u=>False) s₁) (λu u=>False) s):gK (aQ X.prog X.w) A (.forLoop target it body [] env) R s:=by
 apply Kh;apply E6;refine bC (E:=λu u=>False) ?_ (λu u x=>x) λu u x=>x.elim;refine aB<|zM<|aB<|E6<|bC h (λr s₁ c9=>?_) λu u h'=>h'.elim;cases r with
 |none=>exact bH ⟨rfl,codeAny_block<|wpAny_execs_nil c9⟩|some v=>refine aB<|bC c9 (λu yb LV=>?_) λu u h'=>h';refine aB<|bC LV (λu aR gf=>aB<|bC gf (λf bu eF=>?_) λu u h'=>h') λu u h'=>h';cases f with|next=>exact bH ⟨rfl,eF⟩|cont=>exact bH ⟨rfl,eF⟩|brk=>exact bH eF|ret v=>exact bH eF
noncomputable def aei (it v:an):Sem Unit:=do
 let (.ref r,.ref a):=(it,v)|return
 let o<-load r
 match o.cls,o.data with
 |.type n,.fields vs=>
   if(["enumerate","zip","dict_itemiterator","dict_reverseitemiterator","odict_iterator","itertools.zip_longest","itertools.pairwise"]:List String).contains n&&vs[0]? ==some (rh a) then
    rule "for.unpacks-the-owned-tuple"
    updateField r 0 .none
 |x,u=>pure ()
theorem aej t  it v:ri t it v=aei it v∨ri t it v=pure ():=by cases t<;>first|exact .inl rfl|exact .inr rfl
theorem LW {o:Obj}{E:an->az->Prop}(ho:s.heap.get? ia=some o)(hc:o.cls=.type n)(hn:(["enumerate","zip","dict_itemiterator","dict_reverseitemiterator","odict_iterator","itertools.zip_longest","itertools.pairwise"]:List String).contains n=false)(h:Q () s):be (aQ X.prog X.w) A (ri target (.ref ia) v) Q E s:=by
 rcases aej target (.ref ia) v with e|e<;>rw[e]
 ·cases v<;>first|exact bH h|skip
  refine aB<|Rk ho ?_;rw[hc];cases o.data<;>first|exact bH h|skip
  dsimp only;rw[hn,aay,if_neg fL];exact bH h
 exact bH h
theorem CW {own aO:List ai}{st aw:List ae}{s s₁:az}{a:ai}(S:Sx own st s)(E:a9 own s aO s₁)(bq:Sx aO aw s₁)(h:s₁.heap.get? a=none):s.heap.get? a=none:=by
 cases e:s.heap.get? a with
 |none=>rfl|some o=>
  exfalso;by_cases ho:a∈own
  ·obtain⟨r,hr⟩:=E.pre;obtain⟨ob,e1⟩:=bq.qh<|hr▸EY _ ho;rw[h] at e1;exact nS e1
  by_cases hp:a∈X.P
  ·obtain⟨o',e1⟩:=E.cU a hp o e;rw[h] at e1;exact nS e1
  rw[E.bj a o e ho hp] at h;cases h
theorem a9.LX {o:Obj}(E:a9 own s av s')(hn:b∉own)(ho:s.heap.get? b=some o):b∉av:=λhm=>(E.new b hm).elim hn λh=>nS<|h.symm.trans ho
structure rJ {a:CV}{items:List CV}{P:List ae->Prop}(Sr:iY a items P)(d:Nat)(c:aY)(A:Around)(env:Env)(bx:List ai)(aT:az)(ia:ai)(i:Nat)(own:List ai)(st:List ae)(s:az):Prop where
 q:Rm d A
 E:a9 bx aT own s
 S:Sx own st s
 R:dK own c env
 hq:∀q∈X.P,∃o,aT.heap.get? q=some o
 hI:Sr.It i own ia s.heap
 h0:aT.heap.get? ia=none
 hn:ia∉own
 hp:ia∉X.P
 hb:X.H.get? ia=none
section
variable {a:CV}{items:List CV}{P:List ae->Prop}{Sr:iY a items P}{A:Around}{env:Env}{bx own:List ai}{aT s:az}{ia:ai}{i:Nat}{st:List ae}
theorem rJ.go (I:rJ Sr d c A env bx aT ia i own st s)(E:a9 own s aS aR)(S:Sx aS aJ aR):rJ Sr d c A env bx aT ia i aS aJ aR:=by obtain⟨o,m,ho,hv,_⟩:=Sr.ab I.hI;exact⟨I.q,I.E.trans E,S,I.R.ext E,I.hq,Sr.uC I.hI E.aM<|(E.bj ia o ho I.hn I.hp).trans ho.symm,I.h0,E.LX I.hn ho,I.hp,I.hb⟩
theorem rJ.item (I:rJ Sr d c A env bx aT ia i own st s){x:CV}{xs:List CV}{target:aq}{aw:List ae}(hd:items.drop i=x::xs)(hP:P st)(ha:dj d c target x st aw){N:az->Prop}{Q:Unit->az->Prop} (k:∀aO s₁,items.drop (i+1)=xs->i+1<=items.length->(∃w,aO=own++w)->rJ Sr d c A env bx aT ia (i+1) aO aw s₁->Q () s₁):be (aQ X.prog X.w) A (l8 (.ref ia)) (λr s₁=>match r with|none=>N s₁|some v=>be (aQ X.prog X.w) A (ri target (.ref ia) v) (λu yb=>be (aQ X.prog X.w) A (oE target env v) Q (λu u=>False) yb) (λu u=>False) s₁) (λu u=>False) s:=by
 have aZ:=Nat.lt_of_not_le λh=>by rw[abp h] at hd;cases hd
 have hx:items[i]?=some x:=by have:=sL (xs:=items) (i:=i) (j:=0);rw[hd] at this;exact this.symm
 obtain⟨o,m,ho,hv,_⟩:=Sr.ab I.hI;refine Sr.next I.q.1 I.S hP I.hI I.hn hx λy h' tk lz hr hk Vn=>?_;have kW:∀o',s.heap.get? ia=some o'->¬eO o':=λo' e=>dE (ho.symm.trans e)▸hv;obtain⟨CX,aq4,AB,aq5,aek,ael⟩:=Sr.ab Vn;have iZ:rJ Sr d c A env bx aT ia (i+1) own st {s with heap:=h',toks:=tk}:=⟨I.q,I.E.iW I.h0 I.hq hk,I.S.iW I.hn I.hp I.hb kW hk,I.R,I.hq,Vn,I.h0,I.hn,I.hp,I.hb⟩;exact LW AB aek ael<|bC (ha A own _ env y I.q iZ.S I.R<|hr.aM<|eD.iW kW hk) (λu aR ⟨aS,bX,bw⟩=>k aS aR (by rw[<-Ki,hd];rfl) aZ bX.pre<|iZ.go bX bw) λu u x=>x
theorem rJ.jk (I:rJ Sr d c A env bx aT ia i own st s)(hd:items.drop i=[])(hi:i<=items.length)(hP:P st)(k:∀s',a9 bx aT own s'->Sx own st s'->Q none s'):be (aQ X.prog X.w) A (l8 (.ref ia)) Q (λx x=>False) s:=by obtain rfl:=abh hi<|ap'.mp hd;obtain⟨o,m,ho,hv,_⟩:=Sr.ab I.hI;exact Sr.jk I.q.1 I.S hP I.hI I.hn λh' tk lz hk=>k _ (I.E.iW I.h0 I.hq hk)<|I.S.iW I.hn I.hp I.hb (λo' e=>dE (ho.symm.trans e)▸hv) hk
end
theorem aem {items:List CV}{P:List ae->Prop}(Sr:iY a items P):∀{st ag} {f},fG d c target body P xs st f ag->∀{i} {A bx aT own s ia env},items.drop i=xs->i<=items.length->rJ Sr d c A env bx aT ia i own st s->gK (aQ X.prog X.w) A (.forLoop target (.ref ia) body [] env) (x9 bx aT ag f) s:=by induction xs with|nil=>intro st ag f h i A bx aT own s ia env hd hi I;obtain⟨hP,rfl,rfl⟩:=h;exact AA (I.jk hd hi hP λs' E S=>⟨_,_,rfl,E,S,rfl⟩)|cons x xs ih=>intro st ag f h i A bx aT own s ia env hd hi I;obtain⟨hP,_,_,_,ha,hx,hr⟩:=h;exact AA<|I.item hd hP ha λaO s₁ yc yd u iZ=>bC (hx _ aO s₁ _ iZ.q iZ.S iZ.R) (λfl aR ⟨aS,bX,bw,rf⟩=>Vm hr (iZ.E.trans bX) bw rf λh=>ih h yc yd<|iZ.go bX bw) λu u x=>x
noncomputable def ye (e:aq):Bool:=match e with
 |.Set ..=>false|_=>true
theorem AD {e:aq}(h:ye e=true):∀x,abq e env x=pure x:=λx=>by cases e<;>first|rfl|exact nB h
theorem mq {a:CV}{items:List CV}{P:List ae->Prop}(Sr:iY a items P){target iter:aq}{body:List bl}{pos:Pos}{st aw ag:List ae}{f:cZ}(hs:ye iter=true)(hi:a8 d c iter st a aw)(hP:P aw) (h:fG d c target body P items aw f ag):dB d c (.For target iter body [] pos) st f ag:=λA own s env q S R=>by refine wpAny_For (bC (hi A own s env q S R) (λx s₁ ⟨aO,bK,bq,cx⟩=>?_) λu u x=>x)<|AD hs;refine Sr.dG q.1 bq hP cx λia h' tk lz ik hk hI=>?_;have hq:∀p∈X.P,∃o,s.heap.get? p=some o:=λp hp=>let ⟨ps,e,_⟩:=S.cU p hp;⟨_,e⟩;refine pS (aem Sr h rfl (dQ _) ⟨q,bK.trans<|a9.more (t:=tk) hk,bq.more hk,R.ext bK,hq,hI,CW S bK bq ik,bq.jO ik,bq.mf ik,bq.ut ik⟩) λr s' ⟨fl,av,e,E',S',rf⟩=>?_;subst e;exact⟨av,E',S',rf⟩
end
section
set_option backward.match.sparseCases true
variable {d:Nat}{c:aY}
inductive rK (d:Nat)(c:aY)(test:aq)(body:List bl):List ae->cZ->List ae->Prop|done {st aw}:fx d c test st false aw->rK d c test body st .next aw|cons {st aw f aJ f' cE}:fx d c test st true aw->aI d c body aw f aJ->(f=.next∨f=.cont)->rK d c test body aJ f' cE->rK d c test body st f' cE|brk {st aw aJ}:fx d c test st true aw->aI d c body aw .brk aJ->rK d c test body st .next aJ|ret {st aw v aJ}:fx d c test st true aw->aI d c body aw (.ret v) aJ->rK d c test body st (.ret v) aJ
theorem Gz {A:Around}{s:az}{test:aq}{body:List bl}{env:Env}{R:Kc->az->Prop} (h:be (aQ X.prog X.w) A (xB test env (d9 test env)) (λb s₁=>if b then be (aQ X.prog X.w) A (l4 body env) (λf bu=>match f with|.next|.cont=>gK (aQ X.prog X.w) A (.whileLoop test body [] env) R bu|.brk=>R (.ok .next) bu|.ret v=>R (.ok (.ret v)) bu) (λu u=>False) s₁ else R (.ok .next) s₁) (λu u=>False) s):gK (aQ X.prog X.w) A (.whileLoop test body [] env) R s:=by
 apply Kh;apply E6;refine bC (E:=λu u=>False) ?_ (λu u x=>x) λu u x=>x.elim;refine aB<|bC h (λb s₁ c9=>?_) λu u h'=>h';cases b with
 |false=>exact aB (wpAny_execs_nil<|bH c9)|true=>refine aB<|bC c9 (λf bu eF=>?_) λu u h'=>h';cases f with|next=>exact bH ⟨rfl,eF⟩|cont=>exact bH ⟨rfl,eF⟩|brk=>exact bH eF|ret v=>exact bH eF
theorem aen {test:aq}{body:List bl}{st ag:List ae}{f:cZ}(h:rK d c test body st f ag):∀{A bx aT own s env},Rm d A->a9 bx aT own s->Sx own st s->dK own c env->gK (aQ X.prog X.w) A (.whileLoop test body [] env) (x9 bx aT ag f) s:=by
 induction h with
 |done ht=>intro A bx aT own s env q E S R;refine Gz<|bC (ht A own s env q S R) (λb s₁ ⟨aO,bK,bq,e⟩=>?_) λu u x=>x;subst e;exact⟨_,aO,rfl,E.trans bK,bq,rfl⟩|cons ht hx hf hr ih=>
  intro A bx aT own s env q E S R;refine Gz<|bC (ht A own s env q S R) (λb s₁ ⟨aO,bK,bq,e⟩=>?_) λu u x=>x;subst e;refine bC (hx A aO s₁ env q bq<|R.ext bK) (λfl aR ⟨aS,bX,bw,rf⟩=>?_) λu u x=>x;have go:=ih q ((E.trans bK).trans bX) bw<|(R.ext bK).ext bX;rcases hf with rfl|rfl
  ·subst rf;exact go
  subst rf;exact go
 |brk ht hx=>intro A bx aT own s env q E S R;refine Gz<|bC (ht A own s env q S R) (λb s₁ ⟨aO,bK,bq,e⟩=>?_) λu u x=>x;subst e;refine bC (hx A aO s₁ env q bq<|R.ext bK) (λfl aR ⟨aS,bX,bw,rf⟩=>?_) λu u x=>x;subst rf;exact⟨_,aS,rfl,(E.trans bK).trans bX,bw,rfl⟩|ret ht hx=>intro A bx aT own s env q E S R;refine Gz<|bC (ht A own s env q S R) (λb s₁ ⟨aO,bK,bq,e⟩=>?_) λu u x=>x;subst e;refine bC (hx A aO s₁ env q bq<|R.ext bK) (λfl aR ⟨aS,bX,bw,rf⟩=>?_) λu u x=>x;obtain⟨x,rfl,hv⟩:=rf;exact⟨_,aS,rfl,(E.trans bK).trans bX,bw,x,rfl,hv⟩
theorem CY {test:aq}{body:List bl}{pos:Pos}{st ag:List ae}{f:cZ}(h:rK d c test body st f ag):dB d c (.While test body [] pos) st f ag:=λA own s env q S R=>by exact Tr.eh<|(wpAny_runOwn<|pS (aen h q .refl S R) λr s' ⟨fl,av,e,E',S',rf⟩=>by subst e;exact⟨av,E',S',rf⟩)
def mr (d:Nat)(c:aY)(es:List aq)(st:List ae)(b:Bool)(ag:List ae):Prop:=
 ∀A own s env,Rm d A->Sx own st s->dK own c env->Tr A own s (forIn es true λe r=>if r=true then do let ok<-xB e env (d9 e env);pure (ForInStep.yield ok) else pure (ForInStep.yield r)) (PE ag b)
theorem oT {st:List ae}:mr d c [] st true st:=λA own s env q S R=>Tr.pure ⟨S,rfl⟩
theorem ms {e:aq}{st ag:List ae}{b:Bool}(h:fx d c e st b ag):mr d c [e] st b ag:=λA own s env q S R=>by rw[xH];show Tr A own s ((xB e env (d9 e env)>>=λok=>pure<|ForInStep.yield ok)>>=_) _;rw[bind_assoc];refine(h A own s env q S R).bind λaO x s₁ bF p=>?_;rw[pure_bind];exact Tr.pure p
noncomputable def GB (e:aq)(acc:an)(env:Env):Sem Unit:=match e with
 |.ListComp elt x u o=>do let _<-call (.builtin "list.append") [acc,<-d9 elt env]
 |.DictComp k v x u o=>do
  let kv<-d9 k env
  let vv<-holding [kv] (d9 v env)
  match acc with
  |.ref d=>do
    nE {k.pos with endLine:=v.pos.endLine,endCol:=v.pos.endCol}
    holding [kv,vv] (dictSet d kv vv)
  |_=>unsupported "internal:dictcomp"
 |_=>unsupported "internal:not-a-comprehension"
def sZ (d:Nat)(c:aY)(e:aq)(k:Nat)(st ag:List ae):Prop:=∀A own s env a,Rm d A->Sx own st s->dK own c env->own[k]?=some a->Tr A own s (GB e (.ref a) env) λav x s'=>Sx av ag s'
def kX (e:aq):Bool:=(match e with
 |.ListComp ..|.DictComp ..=>true|_=>false)&&(l9 e).all λg=>g.is_async==0&&ye g.iter
inductive jS (d:Nat)(c:aY)(e:aq)(k:Nat):Nat->(List ae->Prop)->List CV->List ae->List ae->Prop|nil {n P st}:P st->jS d c e k n P [] st st|skip {n P x xs st g aw aJ ag}:P st->(l9 e)[n]?=some g->dj d c g.target x st aw->mr d c g.ifs aw false aJ->jS d c e k n P xs aJ ag->jS d c e k n P (x::xs) st ag|wk {n P x xs st g aw aJ cE ag}:P st->(l9 e)[n]?=some g->(l9 e)[n+1]?=none->dj d c g.target x st aw->mr d c g.ifs aw true aJ->sZ d c e k aJ cE->jS d c e k n P xs cE ag->jS d c e k n P (x::xs) st ag|LY {n P x xs st g g' aw aJ cE mS ag a ys P'}:P st->(l9 e)[n]?=some g->(l9 e)[n+1]?=some g'->dj d c g.target x st aw->mr d c g.ifs aw true aJ->
  a8 d c g'.iter aJ a cE->Nonempty (iY a ys P')->P' cE->jS d c e k (n+1) P' ys cE mS->jS d c e k n P xs mS ag->jS d c e k n P (x::xs) st ag
theorem yf {e:aq}(h:kX e=true):(∃a b c d,e=.ListComp a b c d)∨∃a b c d f,e=.DictComp a b c d f:=by cases e<;>first|exact .inl ⟨_,_,_,_,rfl⟩|exact .inr ⟨_,_,_,_,_,rfl⟩|exact nB h
theorem GC {e:aq}{n:Nat}{g:oF}(he:kX e=true)(hg:(l9 e)[n]?=some g):g.is_async=0∧ye g.iter=true:=by have:=dI.mp (iR.mp he).2 g<|c8 hg;exact⟨eq_of_beq (iR.mp this).1,(iR.mp this).2⟩
def LZ (e:aq)(n:Nat)(it acc:an)(env:Env):Option oF->Sem Fin
 |some g=>d9 g.iter env>>=λx=>nE g.iter.pos>>=λu=>abq g.iter env x>>=λx=>holding [x] (ud x)>>=λwm=>runOwn (.compStart e (n+1) wm acc env) env>>=λu=>again (.compLoop e n it acc env)|none=>GB e acc env>>=λu=>again (.compLoop e n it acc env)
noncomputable def Vo (gs:List aq)(env:Env):Sem Bool:=forIn gs true λe r=>if r=true then do let ok<-xB e env (d9 e env);pure (ForInStep.yield ok) else pure (ForInStep.yield r)
set_option backward.match.sparseCases true in
theorem aep {e:aq}{t i:aq}{o:Option oF}(he:kX e=true)(hg:(l9 e)[n]?=some ⟨t,i,fs,0⟩)(hn:(l9 e)[n+1]?=o)(ho:∀g∈o,g.is_async=0):Kj e n it acc env=(nE i.pos>>=λx=>l8 it>>=λr=>match r with|none=>pure (.done .next)|some v=>ri t it v>>=λx=>oE t env v>>=λx=>Vo fs env>>=λok=>if ok=true then LZ e n it acc env o else again (.compLoop e n it acc env)):=by
 have key:∀gens,gens[n]?=some ⟨t,i,fs,0⟩->gens[n+1]?=o->l9 e=gens->(∃a c d,e=.ListComp a gens c d)∨(∃a b d f,e=.DictComp a b gens d f)->Kj e n it acc env=(nE i.pos>>=λx=>l8 it>>=λr=>match r with
  |none=>pure (.done .next)|some v=>ri t it v>>=λx=>oE t env v>>=λx=>Vo fs env>>=λok=>
   if ok=true then LZ e n it acc env o else again (.compLoop e n it acc env)):=λgens h1 h2 _ h4=>by
  rcases o with _|⟨t',i',fs',as'⟩
  ·rcases h4 with⟨a,c,d,rfl⟩|⟨a,b,d,f,rfl⟩<;>(unfold Kj;dsimp only;rw[h1,h2];rfl)
  have:=ho _ rfl;subst this;rcases h4 with⟨a,c,d,rfl⟩|⟨a,b,d,f,rfl⟩<;>(unfold Kj;dsimp only;rw[h1,h2];rfl)
 rcases yf he with⟨a,b,c,d,rfl⟩|⟨a,b,c,d,f,rfl⟩
 ·exact key b hg hn rfl (.inl ⟨_,_,_,rfl⟩)
 exact key c hg hn rfl (.inr ⟨_,_,_,_,rfl⟩)
def Ma (A:Around)(R:Kc->az->Prop)(yg:Fin)(s':az):Prop:=match yg with|.done f=>R (.ok f) s'|.again c'=>c'.quiet=true∧gK (aQ X.prog X.w) A c' R s'
theorem GD {A:Around}{s:az}{e:aq}{n:Nat}{it acc:an}{env:Env}{g:oF}{R:Kc->az->Prop}(he:kX e=true)(hg:(l9 e)[n]?=some g)
 (h:be (aQ X.prog X.w) A (l8 it) (λr s₁=>match r with
  |none=>R (.ok .next) s₁
  |some v=>be (aQ X.prog X.w) A (ri g.target it v) (λu yb=>be (aQ X.prog X.w) A (oE g.target env v) (λu aR=>
   be (aQ X.prog X.w) A (forIn g.ifs true λe r=>if r=true then do let ok<-xB e env (d9 e env);pure (ForInStep.yield ok) else pure (ForInStep.yield r)) (λb bu=>if b=true then(match(l9 e)[n+1]? with
    |some g'=>be (aQ X.prog X.w) A (d9 g'.iter env) (λx kq=>be (aQ X.prog X.w) A (ud x) (λwm nM=>gK (aQ X.prog X.w) A (.compStart e (n+1) wm acc env)
     (λr Ga=>∃fl,r=.ok fl∧gK (aQ X.prog X.w) A (.compLoop e n it acc env) R Ga) nM) (λu u=>False) kq) (λu u=>False) bu
    |none=>be (aQ X.prog X.w) A (GB e acc env) (λu kq=>gK (aQ X.prog X.w) A (.compLoop e n it acc env) R kq) (λu u=>False) bu)
    else gK (aQ X.prog X.w) A (.compLoop e n it acc env) R bu) (λu u=>False) aR) (λu u=>False) yb) (λu u=>False) s₁) (λu u=>False) s):
 gK (aQ X.prog X.w) A (.compLoop e n it acc env) R s:=by
 have main:be (aQ X.prog X.w) A (Kj e n it acc env) (Ma A R) (λu u=>False) s:=by
  obtain⟨h0,_⟩:=GC he hg;have tail:∀o bu,(l9 e)[n+1]?=o->(match(generalizing:=false) o with
   |some g'=>be (aQ X.prog X.w) A (d9 g'.iter env) (λx kq=>be (aQ X.prog X.w) A (ud x) (λwm nM=>gK (aQ X.prog X.w) A (.compStart e (n+1) wm acc env)
    (λr Ga=>∃fl,r=.ok fl∧gK (aQ X.prog X.w) A (.compLoop e n it acc env) R Ga) nM) (λu u=>False) kq) (λu u=>False) bu
   |none=>be (aQ X.prog X.w) A (GB e acc env) (λu kq=>gK (aQ X.prog X.w) A (.compLoop e n it acc env) R kq) (λu u=>False) bu)->be (aQ X.prog X.w) A (LZ e n it acc env o) (Ma A R) (λu u=>False) bu
   |none,bu,z,eF=>aB (bC eF (λu kq yh=>bH ⟨rfl,yh⟩) λu u h'=>h')|some g',bu,hn,eF=>aB (bC eF (λx kq yh=>aB (zM (aB (wpAny_of_eq (AD (GC he hn).2 x) (aB (vN (bC yh (λwm nM AE=>
    aB (wpAny_runOwn<|pS AE λr s' ⟨fl,e1,CZ⟩=>by subst e1;exact bH ⟨rfl,CZ⟩)) λu u h'=>h'))))))) λu u h'=>h')
  obtain⟨t,i,fs,as⟩:=g;subst h0;rw[aep he hg rfl λg' hm=>(GC he hm).1];refine aB (zM<|aB<|bC h (λr s₁ c9=>?_) λu u h'=>h')
  match r,c9 with
  |none,c9=>exact bH c9|some v,c9=>
   refine aB (bC c9 (λu yb LV=>aB<|bC LV (λu aR gf=>aB<|bC gf (λb bu eF=>?_) λu u h'=>h') λu u h'=>h') λu u h'=>h')
   match b,eF with
   |true,eF=>exact tail ((l9 e)[n+1]?) bu rfl eF|false,eF=>exact bH ⟨rfl,eF⟩
 apply Kh;have C0:=E6 (k:=λx=>do noteFrame x env;theTreesLotGoes x) (E:=λe s'=>R (.error e) s')<|bC main (λu u x=>x) λu u x=>x.elim;rcases yf he with⟨a,b,c,d,rfl⟩|⟨a,b,c,d,f,rfl⟩
 ·exact C0
 exact C0
theorem Vp {e:aq}(he:kX e=true)(hg:(l9 e)[n]?=some g)(C2:∀Q:an->az->Prop,Q it s->be (aQ X.prog X.w) A (ud it) Q (λu u=>False) s)(h:gK (aQ X.prog X.w) A (.compLoop e n it acc env) R s):gK (aQ X.prog X.w) A (.compStart e n it acc env) R s:=by
 have main:be (aQ X.prog X.w) A (compStart e n it acc env) (Ma A R) (λu u=>False) s:=by
  have Mb:(g.is_async != 0)=false:=by rw[(GC he hg).1];rfl
  unfold compStart;simp [hg,Option.elim,Mb,if_false];refine aB<|abr<|wpAny_ite ?_;split
  ·first
    |exact aB (bH<|bH<|And.intro rfl h)|exact bH<|And.intro rfl h
  first
   |exact aB (sC<|aB<|zM<|aB<|C2 _<|bH<|And.intro rfl h)|(refine aB<|sC ?_;exact aB<|zM<|aB<|C2 _<|bH<|And.intro rfl h)
 apply Kh;have C0:=E6 (k:=λx=>do noteFrame x env;nE theWindowsPlace) (E:=λe s'=>R (.error e) s')<|bC main (λu u x=>x) λu u x=>x.elim;rcases yf he with⟨a,b,c,d,rfl⟩|⟨a,b,c,d,f,rfl⟩
 ·exact C0
 exact C0
end
section
variable {d:Nat}{c:aY}
theorem gj {w:List ai}{k:Nat}(h:own[k]?=some a):(own++w)[k]?=some a:=(d2 (bV.mp h).1).trans h
inductive GF (bx:List ai)(aT:az)(own:List ai)(ag:List ae)(r:Kc)(s':az):Prop|mk (fl:Flow) (av w:List ai) (e:r=.ok fl) (E:a9 bx aT av s') (S:Sx av ag s') (hw:av=own++w)
theorem GF.on {w:List ai}(h:aO=own++w)(x:GF bx aT aO ag r s'):GF bx aT own ag r s':=by obtain⟨fl,av,w',e,E,S,hw⟩:=x;exact⟨fl,av,w++w',e,E,S,by rw[hw,h,eJ]⟩
theorem aeq {e:aq}{k:Nat}(he:kX e=true):∀{n} {P} {xs} {st ag},jS d c e k n P xs st ag->∀{a} {items} (Sr:iY a items P) {i} {A bx aT own s ia env acc},items.drop i=xs->i<=items.length->(l9 e)[n]?.isSome=true->own[k]?=some acc->rJ Sr d c A env bx aT ia i own st s->gK (aQ X.prog X.w) A (.compLoop e n (.ref ia) (.ref acc) env) (GF bx aT own ag) s:=by intro n P xs st ag h;induction h with|nil hP=>intro a items Sr i A bx aT own s ia env acc hd hi yi nQ I;obtain⟨g,hg⟩:=Kk.mp yi;exact GD he hg (I.jk hd hi hP λs' E S=>⟨_,own,[],rfl,E,S,(dM own).symm⟩)|skip hP hg ha C3 hr ih=>intro a items Sr i A bx aT own s ia env acc hd hi yi nQ I;refine GD he hg<|I.item hd hP ha λaO s₁ yc yd ⟨AF,uD⟩ iZ=>?_;refine bC (C3 A aO s₁ env iZ.q iZ.S iZ.R) (λbb bu ⟨dt,dC,cF,eb⟩=>?_) λu u x=>x;subst eb;obtain⟨Vq,GG⟩:=dC.pre;subst uD;rw[if_neg fL];exact pS (ih Sr yc yd yi (dC.aM.bD _ _<|gj nQ)<|iZ.go dC cF) λr s' x=>x.on (GG.trans<|eJ ..)|wk hP hg wo ha C3 hem hr ih=>intro a items Sr i A bx aT own s ia env acc hd hi yi nQ I;refine GD he hg<|I.item hd hP ha λaO s₁ yc yd ⟨AF,uD⟩ iZ=>?_;refine bC (C3 A aO s₁ env iZ.q iZ.S iZ.R) (λbb bu ⟨dt,dC,cF,eb⟩=>?_) λu u x=>x;subst eb;subst uD;have wq:=iZ.go dC cF;rw[if_pos rfl,wo];refine bC (hem A dt bu env acc wq.q cF wq.R<|dC.aM.bD _ _<|gj nQ) (λu aR ⟨aS,bX,bw⟩=>?_) λu u x=>x;obtain⟨Mc,AG⟩:=(dC.trans bX).pre;exact pS (ih Sr yc yd yi ((dC.trans bX).aM.bD _ _<|gj nQ)<|wq.go bX bw) λr s' x=>x.on (AG.trans<|eJ ..)|LY hP hg wo ha C3 hev hSr hP' AH hr aev aew=>intro a items Sr i A bx aT own s ia env acc hd hi yi nQ I;obtain⟨Md⟩:=hSr;refine GD he hg<|I.item hd hP ha λaO s₁ yc yd ⟨AF,uD⟩ iZ=>?_;refine bC (C3 A aO s₁ env iZ.q iZ.S iZ.R) (λbb bu ⟨dt,dC,cF,eb⟩=>?_) λu u x=>x;subst eb;subst uD;have wq:=iZ.go dC cF;rw[if_pos rfl,wo];refine bC (hev A dt bu env wq.q cF wq.R) (λx aR ⟨aS,bX,bw,di⟩=>?_) λu u x=>x;refine Md.dG I.q.1 bw hP' di λib h' tk lz ik hk Vr=>?_;have hqb:∀p∈X.P,∃o,bu.heap.get? p=some o:=λp hp=>let ⟨ps,e,_⟩:=cF.cU p hp;⟨_,e⟩;apply Vp he wo<|λQ hQ=>Md.qf Vr hQ;refine pS (aev Md rfl (dQ _) (by rw[wo];rfl) ((dC.trans bX).aM.bD _ _<|gj nQ) ⟨I.q,bX.trans<|a9.more hk,bw.more hk,wq.R.ext bX,hqb,Vr,CW cF bX bw ik,bw.jO ik,bw.mf ik,bw.ut ik⟩) λr kq ⟨fl,qk,z,e4,oU,jQ,v⟩=>⟨fl,e4,?_⟩;obtain⟨Mc,AG⟩:=(dC.trans oU).pre;exact pS (aew Sr yc yd yi ((dC.trans oU).aM.bD _ _<|gj nQ)<|wq.go oU jQ) λr s' x=>x.on<|AG.trans<|eJ ..
end
section
variable {d:Nat}{c:aY}
structure wr (h:bf)(own av:List ai)(f:Nat->Option Nat):Prop where
 bD:∀k j a,f k=some j->own[k]?=some a->av[j]?=some a
 out:∀a o,h.get? a=some o->FU o->a∉own->a∉av
section
variable {own av:List ai}{h:bf}{f:Nat->Option Nat}
theorem wr.mv (R:wr h own av f):Mv own h av h f:=⟨R.bD,λb o e v hn x=>⟨R.out b o e v hn,e⟩⟩
theorem RelV.bI (R:wr h own av f) c (e:c.bI f=some c')(r:RelV own h c v):RelV av h c' v:=RelV.mv R.mv c c' v e r
theorem aF.bI (R:wr h own av f) xs (e:CV.gn f xs=some ys)(r:aF own h xs vs):aF av h ys vs:=aF.mv R.mv xs ys vs e r
theorem Rep.bI (R:wr h own av f){o:ae}(e:o.bI f=some o')(r:Rep own h o a):Rep av h o' a:=Rep.mv R.mv e r rfl
end
noncomputable def eW (aU:List Nat)(k:Nat):Option Nat:=match aU with
 |[]=>none|x::r=>if x==k then some 0 else(eW r k).map Nat.succ
theorem Me {x k:Nat}:eW (x::r) k=if x==k then some 0 else(eW r k).map Nat.succ:=rfl
theorem GH {aU:List Nat}{k:Nat}:∀{j},eW aU k=some j->aU[j]?=some k:=by
 induction aU with
 |nil=>exact nS|cons x r ih=>
  intro j e;have e:(if x==k then some 0 else(eW r k).map Nat.succ)=some j:=e;by_cases h:(x==k)=true
  ·rw[if_pos h] at e;exact sI (P:=λj=>(x::r)[j]?=some k) e<|congrArg some<|eq_of_beq h
  rw[if_neg h] at e;exact eE (P:=λj=>(x::r)[j]?=some k) e λm hm=>ih hm
theorem aey {aU:List Nat}{k:Nat}(h:k∈aU):eW aU k≠none:=by
 induction aU with
 |nil=>cases h|cons x t ih=>
  show(if x==k then some 0 else(eW t k).map Nat.succ)≠none;by_cases hx:(x==k)=true
  ·rw[if_pos hx];exact λh=>nomatch h
  rw[if_neg hx];rcases pO.mp h with q|q
  ·exact absurd (beq_iff_eq.mpr q.symm) hx
  exact λh0=>ih q<|Option.map_eq_none_iff.mp h0
noncomputable def lA {α β:Type}(f:α->Option β):List α->Option (List β)
 |[]=>some []|x::xs=>(f x).bind λy=>(lA f xs).map (y::·)
section
variable {α β:Type}{f:α->Option β}{xs:List α}
theorem AI:∀{ys},lA f xs=some ys->ys.length=xs.length:=by induction xs with|nil=>exact λe=>sI (P:=λys=>ys.length=0) e rfl|cons x xs ih=>exact λe=>kl e λy u e=>eE (P:=λys=>ys.length=xs.length+1) e λys h=>congrArg Nat.succ<|ih h
theorem Vs:∀{ys} {i:Nat} {y},lA f xs=some ys->ys[i]?=some y->∃x,xs[i]?=some x∧f x=some y:=by
 induction xs with
 |nil=>exact λe=>sI (P:=λys=>ys[_]?=some _->_) e nS|cons x xs ih=>intro ys i y e;refine kl e λz hz e=>eE (P:=λys=>ys[i]?=some y->∃x',(x::xs)[i]?=some x'∧f x'=some y) e λzs Mf h=>?_;cases i with|zero=>obtain rfl:=dE h;exact⟨x,rfl,hz⟩|succ i=>exact ih Mf h
theorem Mg:∀{ys} {i:Nat} {x},lA f xs=some ys->xs[i]?=some x->∃y,ys[i]?=some y∧f x=some y:=by
 induction xs with
 |nil=>exact λu=>nS|cons z xs ih=>intro ys i x e h;refine kl e λw hw e=>eE (P:=λys=>∃y,ys[i]?=some y∧f x=some y) e λzs Mf=>?_;cases i with|zero=>obtain rfl:=dE h;exact⟨w,rfl,hw⟩|succ i=>exact(ih Mf h:∃y,zs[i]?=some y∧f x=some y)
end
def g4 (aU:List Nat)(st:List ae):Option (List ae):=lA (λk=>st[k]?.bind (ae.bI (eW aU))) aU
noncomputable def lB (aU:List Nat)(own:List ai):List ai:=aU.filterMap λk=>own[k]?
theorem Vt {k:Nat} hk:lB (k::r) own=own[k]::lB r own:=by unfold lB;rw[vT,bA hk]
theorem AJ {aU:List Nat}(h:∀k∈aU,k<own.length)(j:Nat):(lB aU own)[j]?=(aU[j]?).bind λk=>own[k]?:=by
 induction aU generalizing j with
 |nil=>rfl|cons k r ih=>have hk:=h k<|.head _;rw[Vt hk];cases j with|zero=>exact(bA hk).symm|succ j=>exact ih (λk hk=>h k<|.tail _ hk) j
theorem C4 {aU:List Nat}(h:a∈lB aU own):a∈own:=by obtain⟨k,_,e⟩:=E7.mp h;exact c8 e
theorem C5 {aU:List Nat}(h:∀k∈aU,k<own.length):(lB aU own).length=aU.length:=by induction aU with|nil=>rfl|cons k r ih=>exact Vt (h k<|.head _)▸congrArg Nat.succ (ih λk hk=>h k<|.tail _ hk)
theorem yj {aU:List Nat}{st ag:List ae}(h:g4 aU st=some ag):∀k∈aU,k<st.length:=λk hk=>by obtain⟨i,hi,e⟩:=pN.mp hk;obtain⟨y,_,h2⟩:=Mg h (by rw[bA hi,e]);exact kl h2 λo ho x=>(bV.mp ho).1
theorem C6 {aU:List Nat}(aZ:∀k∈aU,k<own.length):wr h own (lB aU own) (eW aU):=
 ⟨λk j a e1 e2=>by rw[AJ aZ,GH e1];exact e2,λa o x x hn hm=>hn<|C4 hm⟩
theorem Sx.aU {own:List ai}{st ag:List ae}{s:az}(S:Sx own st s){aU:List Nat}(hn:aU.Nodup)(h:g4 aU st=some ag):Sx (lB aU own) ag s:=by
 have aZ:∀k∈aU,k<own.length:=λk hk=>by rw[S.len];exact yj h k hk
 refine⟨S.bj,by rw[C5 aZ,AI h],?_,λa ha=>S.fresh a<|C4 ha,λj o a e1 e2=>?_,S.cU,S.bare,S.tk,S.ok⟩
 ·rw[lB,List.Nodup,List.pairwise_filterMap];refine aqa ?_ hn;intro k k' ql a ha b hb e;subst e;exact S.ne ha hb ql rfl
 obtain⟨k,e3,e4⟩:=Vs h e1;rw[AJ aZ,e3] at e2;exact kl e4 λo' ho e4=>(S.iV k o' a ho e2).bI (C6 aZ) e4
noncomputable def jT (aU:List Nat)(n:Nat)(j:Nat):Option Nat:=match aU[j]? with
 |some k=>some k|none=>some (n+(j-aU.length))
def uE (aU:List Nat)(st iE:List ae):Option (List ae):=lA (λi=>if i<st.length then match eW aU i with
 |some j=>iE[j]?.bind (ae.bI (jT aU st.length))
 |none=>st[i]?
 else iE[aU.length+(i-st.length)]?.bind (ae.bI (jT aU st.length))) (aK (st.length+(iE.length-aU.length)))
set_option tactic.hygienic true in
theorem aez {own r:List ai}{st:List ae}{s:az}{h:bf}{aU:List Nat}(S:Sx own st s)(aZ:∀k∈aU,k<own.length)(ho:∀a∈own,a∉lB aU own->h.get? a=s.heap.get? a):wr h (lB aU own++r) (own++r) (jT aU own.length):=by
 refine⟨λj k a e1 e2=>?_,λa o e t hn hm=>?_⟩
 ·unfold jT at e1;split at e1
  ·rename_i k' hk;cases (e1);have hj:j<(lB aU own).length:=by rw[C5 aZ];exact(bV.mp hk).1
   rw[d2 hj,AJ aZ,hk] at e2;rwa[d2 (bV.mp<|e2).1]
  rename_i hk;cases (e1);have hj:(lB aU own).length<=j:=C5 aZ▸Rl.mp hk;rw[dT hj,C5 aZ] at e2;rwa[dT<|vH ..,sG]
 rcases f7.mp hm with q|q
 ·rw[ho a q<|λq'=>hn<|EY _ q'] at e;exact S.rC e t q
 exact hn<|Rn _ q
set_option tactic.hygienic true in
theorem Sx.sU {own mV:List ai}{st iE qm ag:List ae}{s s':az}(S:Sx own st s){aU:List Nat}(hn:aU.Nodup)(h:g4 aU st=some iE)(E:a9 (lB aU own) s mV s')(S':Sx mV qm s')(hb:uE aU st qm=some ag):∃r,mV=lB aU own++r∧a9 own s (own++r) s'∧Sx (own++r) ag s'∧wr s'.heap mV (own++r) (jT aU st.length):=by
 have aZ:∀k∈aU,k<own.length:=λk hk=>S.len▸yj h k hk;obtain⟨r,hr⟩:=E.pre;subst hr;have rL:=C5 aZ;have Vu:∀a∈r,s.heap.get? a=none:=λa ha=>by
  rcases E.new a (Rn _ ha) with q|q
  ·exfalso;have:=S'.kj;rw[xz] at this;exact this.2.2 a q a ha rfl
  exact q
 have uC:∀a∈own,a∉lB aU own->s'.heap.get? a=s.heap.get? a:=λa ha hs=>by obtain⟨ob,e⟩:=S.qh ha;rw[E.bj a ob e hs (S.fresh a ha).2,e]
 have E':a9 own s (own++r) s':=⟨⟨r,rfl⟩,λa ha=>by
  rcases f7.mp ha with q|q
  ·exact .inl q
  exact .inr<|Vu a q,λb o e hb hp=>E.bj b o e (λq=>hb<|C4 q) hp,E.cU,E.os⟩
 have R:=aez (r:=r) S aZ uC;rw[S.len] at R;refine⟨r,rfl,E',⟨S'.bj,?_,?_,λa ha=>?_,λi o a e1 e2=>?_,S'.cU,S'.bare,S'.tk,S'.ok⟩,R⟩
 ·have:=AI hb;rw[this,fb,dJ,S.len];have:=S'.len;rw[dJ,rL] at this;lia
 ·rw[xz];exact⟨S.kj,(xz.mp S'.kj).2.1,λx hx y hy e=>S.jO (Vu y hy)<|e▸hx⟩
 ·rcases f7.mp ha with q|q
  ·exact S.fresh a q
  exact S'.fresh a<|Rn _ q
 obtain⟨i',e3,e4⟩:=Vs hb e1;have jl:i'=i:=by obtain⟨h1,h2⟩:=bV.mp e3;simpa using h2.symm
 subst jl;split at e4
 ·rename_i hi;rw[d2<|by rwa[S.len]] at e2;split at e4
  ·rename_i j hj;refine kl e4 λo' gO e4=>Rep.bI R e4<|S'.iV j o' a gO ?_;have Vv:=GH hj;rwa[d2<|rL▸(bV.mp Vv).1,AJ aZ,Vv]
  rename_i hj;have mu:a∉lB aU own:=λhm=>by
   obtain⟨k,hk,e5⟩:=E7.mp hm;have:k=i':=by
    rcases Nat.decEq k i' with q|q
    ·exact absurd rfl (S.ne e5 e2 q)
    exact q
   subst this;exact aey hk hj
  exact (S.iV i' o a e4 e2).aM E'.aM<|uC a (c8 e2) mu
 rename_i hi;rw[dT<|S.len▸o8 hi,S.len] at e2;refine kl e4 λo' gO e4=>Rep.bI R e4<|S'.iV _ o' a gO ?_;rwa[dT<|rL▸pY,rL,sG]
theorem bk.at {f wt:CV}{args wu:List CV}{kw ww:List (Str×CV)}{st iE qm ag:List ae}{v s6:CV} aU (h:bk d wt wu ww iE s6 qm)(hn:aU.Nodup)(hs:g4 aU st=some iE) (hf:f.bI (eW aU)=some wt)(ha:CV.gn (eW aU) args=some wu)(hk:jh (eW aU) kw=some ww)(hb:uE aU st qm=some ag)(hv:s6.bI (jT aU st.length)=some v):bk d f args kw st v ag:=λA own s fv vs ks q S fQ cx di=>by have aZ:∀k∈aU,k<own.length:=λk hk=>S.len▸yj hs k hk;have R:=C6 (h:=s.heap) aZ;refine bC (h A _ s fv vs ks q (S.aU hn hs) (RelV.bI R f hf fQ) (aF.bI R args ha cx)<|cf.mv R.mv hk di) (λx s' ⟨mV,E,S',r⟩=>?_) λu u x=>x;obtain⟨r',e,E',C7,R'⟩:=S.sU hn hs E S' hb;exact⟨_,E',C7,RelV.bI R' s6 hv r⟩
def GI (n:Nat)(aJ:List ae)(nT:CV)(ag:List ae)(v':CV):Prop:=n<=ag.length∧∀aS s,Sx aS aJ s->∃av,(∀i,i<n->av[i]?=aS[i]?)∧(∀a∈av,a∈aS)∧Sx av ag s∧∀x,RelV aS s.heap nT x->RelV av s.heap v' x
theorem yk aU (hn:aU.Nodup)(h:g4 aU aJ=some ag)(hv:nT.bI (eW aU)=some v')(hp:aU.take n=aK n):GI n aJ nT ag v':=by
 refine⟨?_,λaS s S=>?_⟩
 ·rw[AI h];have:=congrArg oG hp;rw[nG,fb] at this;exact SQ this
 have aZ:∀k∈aU,k<aS.length:=λk hk=>by rw[S.len];exact yj h k hk
 refine⟨_,λi hi=>?_,λa=>C4,S.aU hn h,λx r=>RelV.bI (C6 aZ) nT hv r⟩;rw[AJ aZ];have:aU[i]?=some i:=by
  have e:(aU.take n)[i]?=aU[i]?:=by rw[Ro];simp [hi]
  rw[<-e,hp,iS hi]
 rw[this];rfl
theorem GI.ext {n:Nat}{st aJ ag:List ae}{nT v':CV}{own aS:List ai}{s aR:az}(h:GI n aJ nT ag v')(hn:st.length=n)(S:Sx own st s)(E:a9 own s aS aR)(bw:Sx aS aJ aR):∃av,a9 own s av aR∧Sx av ag aR∧(∀a∈av,a∈aS)∧(∀i,i<n->av[i]?=aS[i]?)∧∀x,RelV aS aR.heap nT x->RelV av aR.heap v' x:=by
 obtain⟨hl,h⟩:=h;obtain⟨av,h1,h2,h3,h4⟩:=h aS aR bw;refine⟨av,⟨⟨av.drop n,?_⟩,λa ha=>E.new a<|h2 a ha,E.bj,E.cU,E.os⟩,h3,h2,h1,h4⟩;obtain⟨r,hr⟩:=E.pre;have:av.take n=own:=by
  refine aqb λi=>?_;rw[Ro];split
  ·rename_i hi;rw[h1 i hi,hr,d2<|by rwa[S.len,hn]]
  rename_i hi;exact(B5<|S.len▸hn▸o8 hi).symm
 exact this▸(E5 ..).symm
end
section
variable {d:Nat}{c:aY}
theorem Mh:∀names h i,i<(fy names).length->(pushCells h names).get? (h.objs.size+i)=some {cls:=.type "cell",data:=.cell none}
 |[],h,i,hi=>by simp [fy] at hi|(x,k)::r,h,i,hi=>by
  unfold pushCells;by_cases hk:(k==sD.cell)=true
  ·rw[if_pos hk];have hn:fy ((x,k)::r)=x::fy r:=by simp [fy,hk]
   cases i with|zero=>exact abu r _ _ _ (iy _ rfl)|succ i=>have:=Mh r (h.push {cls:=.type "cell",data:=.cell none}) i (by rw[hn] at hi;simpa using hi);rw[E8] at this;rwa[show h.objs.size+(i+1)=h.objs.size+1+i by exact z9]
  rw[if_neg hk];have hn:fy ((x,k)::r)=fy r:=by simp [fy,hk]
  exact Mh r h i (by rwa[hn] at hi)
noncomputable def nU (scope aeA:d8):d8:=relabel scope { (default:Env) with scope:=aeA}
noncomputable def mW (cells:List (Str×Nat)):List (Str×sD)->List (Str×Nat)->Option (List (Str×Nat))
 |[],cs=>some cs|(x,k)::r,cs=>match k==.free with
   |true=>(cells.lookup x).bind λn=>mW cells r ((x,n)::cs)|false=>mW cells r cs
theorem Mi (hc:gZ own cells env.cells) f (hf:∀name kind cs,f (name,kind) cs=if(kind==sD.free)=true then(cellOf env name>>=λa=>pure (.yield ((name,a)::cs))) else pure (.yield cs)):∀names cs iJ ad,mW cells names cs=some iJ->gZ own cs ad->∃Vw,forIn names ad f=pure Vw∧gZ own iJ Vw
 |[],cs,iJ,ad,h,hr=>by obtain rfl:=dE h;exact⟨ad,rfl,hr⟩|(x,k)::r,cs,iJ,ad,h,hr=>by rw[xH,hf];replace h:(match k==.free with|true=>(cells.lookup x).bind λn=>mW cells r ((x,n)::cs)|false=>mW cells r cs)=some iJ:=h;cases hk:k==sD.free with|true=>rw[hk] at h;refine fE h λn hn h=>?_;obtain⟨a,h1,h2⟩:=hc.lookup hn;rw[if_pos rfl,show cellOf env x=pure a by unfold cellOf;rw[h1],pure_bind,pure_bind];exact Mi hc f hf r _ iJ _ h ⟨a,ad,rfl,h2,hr⟩|false=>rw[hk] at h;rw[if_neg fL,pure_bind];exact Mi hc f hf r _ iJ _ h hr
theorem Vx {cs:List (Str×Nat)}(hc:gZ own cells env.cells)(h:mW cells scope.names []=some cs):∃cl,closureFor scope env=pure cl∧gZ own cs cl:=by
 obtain⟨ad,h1,h2⟩:=Mi hc (λx cs=>match x with
  |(name,kind)=>if(kind==sD.free)=true then(cellOf env name>>=λa=>pure<|.yield<|(name,a)::cs) else pure (.yield cs)) (λu u u=>rfl) scope.names [] cs [] h rfl
 refine⟨ad,?_,h2⟩;show(forIn scope.names [] _>>=λcs=>pure cs)=_;rw[show(forIn scope.names [] _)=pure ad from h1,pure_bind]
def cI (c:aY)(scope:d8)(n:Nat)(cl:List (Str×Nat)):aY:={scope:=nU scope c.scope,locals:=n,cells:=je (n+1) scope.names cl,tab:=c.tab}
theorem aeC {A:Around}{own:List ai}{st:List ae}{s:az}{env:Env}{scope:d8}{cl:List (Str×Nat)}{ad:List (Str×ai)}{Q:Env->az->Prop}{E:an->az->Prop} (S:Sx own st s)(R:dK own c env)(hk:scope.kind=.function)(eG:gZ own cl ad) (hQ:∀s7 av s',a9 own s av s'->Sx av (st++dU scope []) s'->av[st.length]?=some s7.locals->dK av (cI c scope st.length cl) {s7 with scope:=relabel scope env}->Q s7 s'):be (aQ X.prog X.w) A (abv scope env.globals ad [] env.qual none .none (some env)) Q E s:=by
 simp only [abv,Option.isSome_some];refine aB<|wpAny_alloc ?_;refine aB<|wpAny_layCells _ (λname kind cells=>by cases qo:kind==sD.cell<;>simp [qo]) _ _ _ _ ?_;rw[List.forIn_nil];refine aB<|bH<|bH ?_;let L:=s.heap.objs.size;let h1:=s.heap.push {cls:=.type "dict",data:=.dict #[]};have bn:h1.objs.size=L+1:=E8 ..;have iA:∀a,L<=a->s.heap.get? a=none:=λa h=>iI h;have eV:∀b o,s.heap.get? b=some o->(pushCells h1 scope.names).get? b=some o:=λb o e=>abu _ _ b o<|fT _ e;let as:=L::Az (L+1) scope.names;have bJ:as.length=(dU scope []).length:=by simp [as,Az,dU]
 have Vy:∀i,i<(fy scope.names).length->as[1+i]?=some (L+1+i):=λi hi=>by rw[zR 1 i,re];simp [Az,hi]
 obtain⟨S',E',g⟩:=S.Gq eV (λa ha=>by
  rcases pO.mp ha with e|ha
  ·exact iA _<|ll e.symm
  ·obtain⟨i,hi,e⟩:=cu.mp ha;exact e▸iA _ (fC (ke L)<|vH (L+1) i)) (by
  refine zJ.mpr ⟨λha=>?_,?_⟩
  ·obtain⟨i,hi,e⟩:=cu.mp ha;exact absurd e.symm<|pQ<|sF (rg L)<|vH (L+1) i
  ·exact Rf _ (λa b oQ e=>oQ<|Rg e) xF) bJ (λg i o a e1 e2=>by
  cases i with
  |zero=>obtain rfl:=dE e1;obtain rfl:=dE e2;exact⟨_,(bf.Ns.new s.heap<|.type "dict").keeps<|abu _ _,λy=>.inr rfl⟩|succ i=>
   have oR:((fy scope.names).map λy=>ae.cell<|(LO scope []).lookup y)[i]?=some o:=by simpa [dU] using e1
   rw[dN] at oR;cases hy:(fy scope.names)[i]? with
   |none=>rw[hy] at oR;exact nS oR|some y=>rw[hy] at oR;obtain rfl:=dE oR;have hi:=(bV.mp hy).1;have e3:=Vy i hi;rw[zR 1 i] at e3;rw[e3] at e2;obtain rfl:=dE e2;have:=Mh scope.names h1 i hi;rw[bn] at this;exact⟨none,⟨_,this,rfl⟩,rfl⟩)
 refine hQ _ _ _ E' S' (by rw[<-S.len,dT<|aG _,fk];rfl) ⟨(show relabel scope env=nU scope c.scope from by unfold nU relabel;simp only [Env.kindOf,R.scope];rfl),hk,?_,?_,R.globals,R.builtins,R.tab⟩
 ·show(own++as)[st.length]?=some L;rw[<-S.len,dT<|aG _,fk];rfl
 show gZ _ (je (st.length+1) scope.names cl) (je h1.objs.size scope.names ad);rw[bn];refine Gp scope.names _ _ _ _ (eG.aM g) λi hi=>?_;rw[<-S.len,show own.length+1+i=own.length+(1+i) by exact SO,dT (by exact pY),sG];exact Vy i hi
noncomputable def aeD:aq->Option (d8×Pos)
 |.ListComp x u s p=>some (s,p)|.DictComp x u o s p=>some (s,p)|_=>none
noncomputable def Mj:aq->ae
 |.ListComp ..=>.list []|_=>.map []
noncomputable def GJ:aq->Sem an
 |.ListComp ..=>newList []|_=>newDict
def Mk (n f:Nat)(aJ:List ae)(nT:CV)(ag:List ae)(v':CV):Prop:=n<=ag.length∧∀aS s,Sx aS aJ s->∃av,(∀i,i<n->av[i]?=aS[i]?)∧(∀a∈av,a∈aS)∧(∀a,aS[f]?=some a->a∉av)∧Sx av ag s∧∀x,RelV aS s.heap nT x->RelV av s.heap v' x
theorem Ml aU (hn:aU.Nodup)(h:g4 aU aJ=some ag)(hv:nT.bI (eW aU)=some v')(hp:aU.take n=aK n)(hf:f∉aU):Mk n f aJ nT ag v':=by
 refine⟨?_,λaS s S=>?_⟩
 ·rw[AI h];have:=congrArg oG hp;rw[nG,fb] at this;exact SQ this
 have aZ:∀k∈aU,k<aS.length:=λk hk=>S.len▸yj h k hk;refine⟨_,λi hi=>?_,λa=>C4,λa ha hm=>?_,S.aU hn h,λx r=>RelV.bI (C6 aZ) nT hv r⟩
 ·rw[AJ aZ];have:aU[i]?=some i:=by
   have e:(aU.take n)[i]?=aU[i]?:=by rw[Ro];simp [hi]
   rw[<-e,hp,iS hi]
  rw[this];rfl
 obtain⟨k,hk,e⟩:=E7.mp hm;rcases Nat.decEq k f with q|q
 ·exact absurd rfl (S.ne e ha q)
 exact hf<|q▸hk
structure uF (d:Nat)(c:aY)(e:aq)(st:List ae)(v':CV)(ag:List ae)(scope:d8)(p:Pos)(g:oF)(gs:List oF)(cl:List (Str×Nat))(a:CV)(aw aJ:List ae)(items:List CV)(P:List ae->Prop):Prop where
 sc:aeD e=some (scope,p)
 cls:l9 e=g::gs
 qp:kX e=true
 kind:scope.kind = .function
 names:(scope.names.all λx=>x.2 != .local||scope.names.lookup x.1 == some .local)=true
 d3:mW c.cells scope.names []=some cl
 iter:a8 d c g.iter st a aw
 src:Nonempty (iY a items P)
 GK:P aw
 run:jS d (cI c scope (aw.length+1) cl) e aw.length 0 P items (aw++[Mj e]++dU scope []) aJ
 fr:∃vars,aJ[aw.length+1]?=some (.frame vars)
 qr:Mk st.length (aw.length+1) aJ (.ab aw.length) ag v'
theorem Vz {A:Around}{own:List ai}{s:az}{env:Env}{e:aq}{st ag:List ae}{v':CV}{scope:d8}{p:Pos}{g:oF}{gs:List oF}{cl:List (Str×Nat)}{a:CV}{aw aJ:List ae}{items:List CV}{P:List ae->Prop} (J:uF d c e st v' ag scope p g gs cl a aw aJ items P)(q:Rm d A)(S:Sx own st s)(R:dK own c env)(Mm:Option (an->Sem Unit))(Q:an->az->Prop)(pos:Pos) (hQ:∀av s' acc,a9 own s av s'->Sx av ag s'->RelV av s'.heap v' acc->match Mm with|none=>∀h' tk,(∃C,f6 C s'.heap h'∧Sx av ag {s' with heap:=h',toks:=tk}∧a9 own s av {s' with heap:=h',toks:=tk}∧RelV av h' v' acc)->Q acc {s' with heap:=h',toks:=tk}|some u=>∀C m,s'.heap.Ns C m->C∉av->C∉X.P->X.H.get? C=none->s.heap.get? C=none->be (aQ X.prog X.w) A (u acc) (λz eP=>∃m,eP.heap.Ns C m∧∀h',sJ C eP.heap h'->Q .none {eP with heap:=h'}) (λz z=>False) s'):be (aQ X.prog X.w) A (B6 e scope env pos (GJ e) false (d9 g.iter env) Mm) Q (λz z=>False) s:=by
 obtain⟨ad,AK,eG⟩:=Vx R.cells J.d3;obtain⟨Sr⟩:=J.src;have mu:ye g.iter=true:=by have:=J.qp;unfold kX at this;rw[bz] at this;have:=dI.mp this.2 g<|J.cls▸.head _;rw[bz] at this;exact this.2
 refine wpAny_comprehension_free J.cls (AD mu) AK J.kind (λx hx hl=>?_) ?_
 ·have:=dI.mp J.names x hx;rw[hl] at this;simpa using this
 refine bC (J.iter A own s env q S R) (λx s₁ ⟨aO,bK,bq,cx⟩=>?_) λz z x=>x;refine Sr.dG q.1 bq J.GK cx λia h' tk lz ik hk hI=>?_;have bw:=bq.more hk;have VA:=bq.jO ik;have Mn:=bq.mf ik;obtain⟨oi,mi,Mp,_⟩:=Sr.ab hI;have iA:be (aQ X.prog X.w) A (GJ e) (λacc bu=>∃dt AL,acc=.ref AL∧a9 aO {s₁ with heap:=h',toks:=tk} dt bu∧Sx dt (aw++[Mj e]) bu∧dt[aw.length]?=some AL) (λz z=>False) {s₁ with heap:=h',toks:=tk}:=by
  have ml:∀ob,∀b o,h'.get? b=some o->(h'.push ob).get? b=some o:=λob b o e=>fT _ e;have iK:h'.get? h'.objs.size=none:=iI<|aG _;have bD:(aO++[h'.objs.size])[aw.length]?=some h'.objs.size:=by rw[<-bq.len,dT<|aG _,fk];rfl
  rcases yf J.qp with⟨a',b',c',d',rfl⟩|⟨a',b',c',d',f',rfl⟩
  ·exact abw ⟨aO++[h'.objs.size],h'.objs.size,rfl,a9.push (ml _) iK,bw.push (ml _) iK λg=>⟨[],_,iy _ rfl,rfl⟩,bD⟩
  show be (aQ X.prog X.w) A (newObj (.type "dict")<|.dict #[]) _ _ _;refine vQ ?_ (by size_fits);exact⟨aO++[h'.objs.size],h'.objs.size,rfl,a9.push (ml _) iK,bw.push (ml _) iK λg=>(by obtain⟨o,ho,hd⟩:=Rp.mp<|bf.DictOf.new (knd:=strKind X.prog X.w) h';exact⟨[],o,ho,hd,rfl⟩),bD⟩
 refine bC iA (λacc bu ⟨dt,AL,ea,dC,cF,eF⟩=>?_) λz z x=>x;subst ea;have Mq:=(bK.trans<|a9.more (t:=tk) hk).trans dC;have VB:=dC.bj ia oi Mp VA Mn;have VC:=dC.LX VA Mp;refine aeC cF ((R.ext bK).ext (a9.more (t:=tk) hk) |>.ext dC) J.kind (eG.aM Mq.aM) λs7 qk kq oU jQ mT VD=>?_;have VE:(aw++[Mj e]).length=aw.length+1:=by simp
 rw[VE] at mT VD;have VF:=Sr.uC hI (dC.trans oU).aM<|(oU.bj ia oi VB VC Mn).trans Mp.symm;have VG:(l9 e)[0]?=some g:=by rw[J.cls];rfl
 have hq:∀p∈X.P,∃o,s.heap.get? p=some o:=λp hp=>let ⟨ps,e,_⟩:=S.cU p hp;⟨_,e⟩;apply Vp J.qp VG<|λQ hQ=>Sr.qf VF hQ;refine pS (aeq J.qp J.run Sr rfl (dQ _) (by rw[VG];rfl) (oU.aM.bD _ _ eF) ⟨q,Mq.trans oU,jQ,VD,hq,VF,CW S bK bq ik,oU.LX VC VB,Mn,bq.ut ik⟩) λr nM ⟨fl,x0,arb,er,yl,nR,VH⟩=>?_;subst er;obtain⟨bJ,aeI⟩:=J.qr;obtain⟨av,Mr,wx,C8,S',hv⟩:=aeI x0 nM nR;have VI:a9 own s av nM:=by
  refine⟨⟨av.drop st.length,?_⟩,λa ha=>yl.new a<|wx a ha,yl.bj,yl.cU,yl.os⟩;obtain⟨r,hr⟩:=yl.pre;have:av.take st.length=own:=by
   refine aqb λi=>?_;rw[Ro];split
   ·rename_i hi;rw[Mr i hi,hr,d2<|S.len▸hi]
   rename_i hi;exact(B5<|S.len▸o8 hi).symm
  exact this▸(E5 ..).symm
 have hC:x0[aw.length+1]?=some s7.locals:=by rwa[VH,d2 (bV.mp mT).1]
 have du:x0[aw.length]?=some AL:=by have:=oU.aM.bD _ _ eF;rwa[VH,d2 (bV.mp this).1]
 have VJ:=c8 hC;have VK:=C8 _ hC;have VL:=(nR.fresh _ VJ).2;have VM:=(nR.fresh _ VJ).1;have VN:s.heap.get? s7.locals=none:=by
  rcases oU.new _ (c8 mT) with h|h
  ·exfalso;have hh:=jQ.kj;obtain⟨w,hw⟩:=oU.pre;obtain⟨i,hi,e⟩:=pN.mp h;have jl:i<aw.length+1:=by rwa[cF.len,VE] at hi
   exact jQ.ne (by rw[hw,d2 hi,bA hi,e]) mT (by exact SH jl) rfl
  exact CW S Mq cF h
 obtain⟨vars,C9⟩:=J.fr;have VO:=nR.iV _ _ _ C9 hC;have ym:∀o,nM.heap.get? s7.locals=some o->¬eO o:=λo e=>VO.rC e;obtain⟨m,hm,_⟩:=VO;have VP:=hv _ ⟨AL,du,rfl⟩;have key:=hQ av nM _ VI S' VP;cases Mm with|none=>exact⟨m,hm,λVQ GL=>key VQ nM.toks ⟨_,GL.extBut,S'.iW VK VL VM ym GL.extBut,VI.iW VN hq GL.extBut,VP.aM<|eD.iW ym GL.extBut⟩⟩|some u=>exact key s7.locals m hm VK VL VM VN
end
section
variable {d:Nat}{c:aY}
section
variable {e:aq}{st ag:List ae}{v':CV}{scope:d8}{p:Pos}{g:oF}{gs:List oF}{cl:List (Str×Nat)}{a:CV}{aw aJ:List ae}{items:List CV}{P:List ae->Prop}
theorem uF.aeJ (J:uF d c e st v' ag scope p g gs cl a aw aJ items P) env:∃pos,d9 e env=B6 e scope env pos (GJ e) false (d9 g.iter env) none:=by
 have hg:(g.is_async != 0)=false:=by have:=J.qp;unfold kX at this;rw[bz] at this;have:=dI.mp this.2 g<|J.cls▸.head _;rw[bz] at this;rw[bne,this.1];rfl
 have hc:=J.cls;have hs:=J.sc;rcases yf J.qp with⟨a',b',c',d',rfl⟩|⟨a',b',c',d',f',rfl⟩
 ·subst hc;cases hs;obtain⟨t,i,fs,as⟩:=g;refine⟨i.pos,?_⟩;show B6 _ _ _ _ _ (as != 0) _ _=_;rw[show(as != 0)=false from hg];rfl
 subst hc;cases hs;obtain⟨t,i,fs,as⟩:=g;refine⟨i.pos,?_⟩;show B6 _ _ _ _ _ (as != 0) _ _=_;rw[show(as != 0)=false from hg];rfl
theorem uF.aeK (J:uF d c e st v' ag scope p g gs cl a aw aJ items P) env  u:∃pos,evalThenUse e env u=(B6 e scope env pos (GJ e) false (d9 g.iter env) (some u)>>=λx=>pure ()):=by
 have hg:(g.is_async != 0)=false:=by have:=J.qp;unfold kX at this;rw[bz] at this;have:=dI.mp this.2 g<|J.cls▸.head _;rw[bz] at this;rw[bne,this.1];rfl
 have hc:=J.cls;have hs:=J.sc;rcases yf J.qp with⟨a',b',c',d',rfl⟩|⟨a',b',c',d',f',rfl⟩
 ·subst hc;cases hs;obtain⟨t,i,fs,as⟩:=g;refine⟨i.pos,?_⟩;show(B6 _ _ _ _ _ (as != 0) _ _>>=_)=_;rw[show(as != 0)=false from hg];rfl
 subst hc;cases hs;obtain⟨t,i,fs,as⟩:=g;refine⟨i.pos,?_⟩;show(B6 _ _ _ _ _ (as != 0) _ _>>=_)=_;rw[show(as != 0)=false from hg];rfl
theorem GN (J:uF d c e st v' ag scope p g gs cl a aw aJ items P):a8 d c e st v' ag:=λA own s env q S R=>by obtain⟨pos,h⟩:=J.aeJ env;rw[h];exact Vz J q S R none _ pos λav s' acc E S' r h' tk ⟨C,x,C7,E'',r''⟩=>⟨av,E'',C7,r''⟩
theorem VR (J:uF d c e st v' ag scope p g gs cl a aw aJ items P):lx d c e st v' ag:=λx px pos LN hw A own s env q S R=>by
 have hb:∃b,zQ e (some<|.Name x px) pos.line env=pure b:=by have hs:=J.sc;rcases yf J.qp with⟨a',b',c',d',rfl⟩|⟨a',b',c',d',f',rfl⟩<;>exact⟨_,rfl⟩
 obtain⟨b,hb⟩:=hb;cases b with
 |true=>
  rw[exec_Assign_Name_used _ _ _ _ hb];apply Tr.eh;obtain⟨pp,h⟩:=J.aeK env<|oE (.Name x px) env;rw[h];refine aB<|aB<|Vz J q S R (some<|oE (.Name x px) env) _ pp λav s' acc E S' r=>?_;intro C m hm hC hP hH h0;refine bC ((wg hw) A av s' env acc q S' (R.ext E) r) (λu eP ⟨dt,dC,cF⟩=>?_) λu u x=>x;have hC3:C∉dt:=λC'=>by
   rcases dC.new C C' with h|h
   ·exact hC h
   obtain⟨o,_,_,ho,_⟩:=hm;rw[h] at ho;exact nS ho
  have mu:=hm.at' λo e=>dC.bj C o e hC hP;have ym:∀o,eP.heap.get? C=some o->¬eO o:=λo e=>by obtain⟨o',es,ep,ho,hd,_⟩:=mu;rw[e] at ho;obtain rfl:=dE ho;exact FV hd λu=>rfl
  refine⟨m,mu,λh' iD=>bH<|bH ⟨dt,?_,⟨cF.iW hC3 hP hH ym iD.extBut,rfl⟩⟩⟩;have hq:∀p∈X.P,∃o,s.heap.get? p=some o:=λp hp=>let ⟨ps,e,_⟩:=S.cU p hp;⟨_,e⟩;exact(E.trans dC).iW h0 hq iD.extBut
 |false=>
  have e1:exec (.Assign [.Name x px] e pos) env=(do
   nE pos
   if<-zQ e (some<|.Name x px) pos.line env then
    evalThenUse e env (oE (.Name x px) env)
    return .next
   let v<-d9 e env
   nE px
   bindName env x v
   pure .next):=rfl
  rw[e1,hb];apply Tr.eh;rw[pure_bind,if_neg fL];exact(GN J A own s env q S R).bind λaO y s₁ bF ⟨bq,cx⟩=>Tr.eh<|Tr.bind (F5 bq (R.ext bF) hw cx λs' u S'=>S') λaS u aR cY bw=>Tr.pure ⟨bw,rfl⟩
end
end
section
variable {d:Nat}{c:aY}
theorem gP {id:String}{st:List ae}:oM (.bi id) st:=λown s x S r=>by subst r;exact⟨_,Rq rfl⟩
theorem yn {n:String}{st:List ae}:oM (.ty n) st:=λown s x S r=>by subst r;exact⟨_,Rq rfl⟩
theorem Ms {h:bf}{l:ai}{vs:Array an}{n:Nat}{f:Array an->Array an}(ho:h.get? l=some {cls:=.type "list",data:=.seq vs n}):∃n',(h.update l (f8 f)).get? l=some {cls:=.type "list",data:=.seq (f vs) n'}:=by obtain⟨n',e⟩:=Obj.data_mapSeq (o:={cls:=.type "list",data:=.seq vs n}) rfl f;refine⟨n',?_⟩;rw[E9 _ ho<|Obj.isFreed_of_seq e];simp [f8] at e ⊢;exact e
section
variable {own:List ai}{s:az}{st:List ae}{k:Nat}{xs:List CV}
inductive LAt (own:List ai)(s:az)(k:Nat)(xs:List CV)(v:an):Prop|mk (a:ai) (vs:List an) (n:Nat) (e:v=.ref a) (ha:own[k]?=some a) (ho:s.heap.get? a=some {cls:=.type "list",data:=.seq vs.toArray n}) (hr:aF own s.heap xs vs) (hl:xs.length=vs.length)
theorem Sx.kY (S:Sx own st s)(hk:st[k]?=some (.list xs))(r:RelV own s.heap (.ab k) v):LAt own s k xs v:=by obtain⟨a,ha,e⟩:=r;obtain⟨a',b8,vs,n,ho,hr⟩:=S.bD hk;obtain rfl:=dE<|ha.symm.trans b8;exact⟨a,vs,n,e,ha,ho,hr,aF.length hr⟩
variable {id:String}{jU oV AM v:CV}{ag:List ae}
variable {f:CV}{fv:an}
theorem VS (hf:∀own h y,RelV own h f y->y=fv)(h:∀A own s y,Rm d A->Sx own st s->RelV own s.heap jU y->Tr A own s (call fv [y] []) (PV ag v)):bk d f [jU] [] st v ag:=λA own s g vs ks q S fQ cx di=>by cases hf _ _ _ fQ;subst di;obtain⟨y,_,rfl,hy,jD⟩:=cx;subst jD;exact h A own s y q S hy
theorem VT (hf:∀own h y,RelV own h f y->y=fv)(h:∀A own s y z,Rm d A->Sx own st s->RelV own s.heap jU y->RelV own s.heap oV z->Tr A own s (call fv [y,z] []) (PV ag v)):bk d f [jU,oV] [] st v ag:=λA own s g vs ks q S fQ cx di=>by cases hf _ _ _ fQ;subst di;obtain⟨y,_,rfl,hy,z,_,rfl,hz,jD⟩:=cx;subst jD;exact h A own s y z q S hy hz
theorem VU (hf:∀own h y,RelV own h f y->y=fv)(h:∀A own s y z w,Rm d A->Sx own st s->RelV own s.heap jU y->RelV own s.heap oV z->RelV own s.heap AM w->Tr A own s (call fv [y,z,w] []) (PV ag v)):bk d f [jU,oV,AM] [] st v ag:=λA own s g vs ks q S fQ cx di=>by cases hf _ _ _ fQ;subst di;obtain⟨y,_,rfl,hy,z,_,rfl,hz,w,_,rfl,hw,jD⟩:=cx;subst jD;exact h A own s y z w q S hy hz hw
theorem wy (h:∀A own s y,Rm d A->Sx own st s->RelV own s.heap jU y->Tr A own s (call (.builtin id) [y] []) (PV ag v)):bk d (.bi id) [jU] [] st v ag:=VS (λx x x r=>r) h
theorem Da (h:∀A own s y,Rm d A->Sx own st s->RelV own s.heap jU y->Tr A own s (call (.type id) [y] []) (PV ag v)):bk d (.ty id) [jU] [] st v ag:=VS (λx x x r=>r) h
theorem uG (h:∀A own s y z,Rm d A->Sx own st s->RelV own s.heap jU y->RelV own s.heap oV z->Tr A own s (call (.builtin id) [y,z] []) (PV ag v)):bk d (.bi id) [jU,oV] [] st v ag:=VT (λx x x r=>r) h
theorem aeP (h:∀A own s y z,Rm d A->Sx own st s->RelV own s.heap jU y->RelV own s.heap oV z->Tr A own s (call (.type id) [y,z] []) (PV ag v)):bk d (.ty id) [jU,oV] [] st v ag:=VT (λx x x r=>r) h
theorem aeQ (h:∀A own s y z w,Rm d A->Sx own st s->RelV own s.heap jU y->RelV own s.heap oV z->RelV own s.heap AM w->Tr A own s (call (.builtin id) [y,z,w] []) (PV ag v)):bk d (.bi id) [jU,oV,AM] [] st v ag:=VU (λx x x r=>r) h
theorem Sx.AN (S:Sx own st s){a:ai}{vs:List an}{n:Nat}{f:Array an->Array an}{ys:List CV}{t:Tok}(hi:own[k]?=some a)(ho:s.heap.get? a=some {cls:=.type "list",data:=.seq vs.toArray n}) (hr:∀av h',aF av h' xs vs->eD own s.heap av h'->aF av h' ys (f vs.toArray).toList)(hv:aF own s.heap xs vs)(ht:t≠0:=by first|exact ka _|assumption|exact Sx.tk (by assumption)):a9 own s own {s with heap:=s.heap.update a (f8 f),toks:=t}∧Sx own (st.set k (.list ys)) {s with heap:=s.heap.update a (f8 f),toks:=t}:=by have hs:f6 a s.heap (s.heap.update a<|f8 f):=(rj ..).extBut;obtain⟨n',e⟩:=Ms ho;refine⟨a9.set S hi hs,S.set hi hs λg=>⟨(f vs.toArray).toList,n',?_,hr _ _ (aF.aM g _ hv) g⟩⟩;rwa[aqc]
theorem yo (slot:Slot "list" name id)(hty:typeOf (.builtin id)=pure (.type "method_descriptor"))(hk:st[k]?=some (.list xs)):gM d name (.ab k) st (.bi id) [.ab k]:=λA own s x pl q S r=>by obtain⟨a,vs,n,rfl,ha,ho,hr,_⟩:=S.kY hk r;refine getMethod_list_of slot hty ⟨_,ho,rfl,n,rfl⟩ ⟨_,ho,rfl⟩ ⟨own,.refl,S,rfl,_,_,rfl,⟨a,ha,rfl⟩,rfl⟩
theorem mX (hk:st[k]?=some (.list xs))(bn:xs.length<cX):bk d (.bi "list.append") [.ab k,v] [] st .none (st.set k (.list (xs++[v]))):=uG λA own s b y q S hb hy=>by obtain⟨a,vs,n,rfl,ha,ho,hr,hl⟩:=S.kY hk hb;rw[hl] at bn;refine vU PySem.F.slot_list_append ⟨_,ho,rfl⟩ PySem.F.entry_list_append (PySem.F.args_list_append_2 _ _) (PySem.AutoListH.list_append_list_val_0 a vs.toArray n y<|abx<|pT bn) ⟨ho,?_⟩;obtain⟨E,S'⟩:=S.AN (f:=λx=>x.push y) (ys:=xs++[v]) ha ho (λav h' fX g=>by rw[aqd];exact aF.append fX ⟨y,[],rfl,hy.aM g,rfl⟩) hr;exact⟨own,E,S',rfl⟩
theorem GO {pos:Pos}(h:a8 d c elt st v aw)(hk:aw[k]?=some (.list xs))(bn:xs.length<cX):sZ d c (.ListComp elt gens sc pos) k st (aw.set k (.list (xs++[v]))):=λA own s env a q S R nQ=>by refine(h A own s env q S R).bind λaO x s₁ bF ⟨bq,cx⟩=>?_;exact Tr.bind (mX hk bn A aO s₁ _ [.ref a,x] [] q bq rfl ⟨_,_,rfl,⟨a,bF.aM.bD _ _ nQ,rfl⟩,_,_,rfl,cx,rfl⟩ rfl) λaS y aR cY ⟨bw,u⟩=>Tr.pure bw
theorem Mt {i:Int}{n k:Nat}(e:(if i<0 then i+n else i)=(k:Int))(h:k<n):rl i n=some k:=by unfold rl;rw[e];show(if(decide ((0:Int)<=k)&&decide ((k:Int)<n))=true then some (Int.toNat k) else none)=_;rw[decide_eq_true<|mK k,decide_eq_true<|xt.mpr h];rfl
theorem rM {i:Nat}(h:i<n):rl (i:Int) n=some i:=Mt (if_neg<|sB.mpr<|mK i) h
theorem VV {i:Int}{k:Nat}(h:rl i n=some k):k<n:=by
 have g:∀j:Int,(if(decide (0<=j)&&decide (j<n))=true then some (Int.toNat j) else none)=some k->k<n:=λj h=>by cases e:decide (0<=j)&&decide (j<n) with|false=>rw[e] at h;exact nS h|true=>have q:=(bz _ _).mp e;rw[e] at h;exact dE h▸(Int.toNat_lt<|of_decide_eq_true q.1).mpr (of_decide_eq_true q.2)
 exact g _ h
theorem VW {i:Int}(h:-(2^63:Int)<=i∧i<2^63):¬((!abz i)=true):=by unfold abz;rw[decide_eq_true h.1,decide_eq_true h.2];exact fL
theorem VX {items:Array an}{k:Nat}{x:an}(hx:items[k]?=some x):¬(items.isEmpty=true):=λhe=>by rw[Array.isEmpty_iff] at he;subst he;simp at hx
theorem VY {items:Array an}{k:Nat}(h:k<items.size)(bn:items.size<=cX):(items.eraseIdxIfInBounds k).size<=cX+1:=by rw[aqe,dif_pos h,Array.size_eraseIdx];exact fC (lm _ _)<|Fa bn
theorem aeU l (items:Array an) n  i  t  k  x (hi:(-(2^63:Int)<=i∧i<2^63))(hk:rl i items.size=some k)(hx:items[k]?=some x)(bn:items.size<=cX):Meets (Builtin.«list.pop» ⟨[.ref l,.int i t],[]⟩) (λu R s=>s.heap.get? l=some {cls:=.type "list",data:=.seq items n}∧R (.ok (.ret x)) {s with heap:=s.heap.update l (f8 (·.eraseIdxIfInBounds k)),toks:=s.toks}):=
 .of_wp λprog w A R s h=>by
  obtain⟨hp,g,d,tk,os⟩:=s;obtain⟨hl,h⟩:=h;have hf:=VW hi;have he:=VX hx
  wp_walk using (Kl hl rfl);rw[hk];simp [Option.bind_some,hx,Km]
  wp_walk using (Kl hl rfl (hz:=bn) (_hz':=VY (VV hk) bn));exact⟨_,rfl,h⟩
theorem aF.VZ:∀{xs} {vs} j,aF own h xs vs->aF own h (xs.eraseIdx j) (vs.eraseIdx j)
 |[],u,o,e=>by subst e;rfl|x::xs,u,0,⟨v,r,e,o,hr⟩=>by subst e;exact hr|x::xs,u,j+1,⟨v,r,e,hv,hr⟩=>by subst e;exact⟨v,_,rfl,hv,aF.VZ j hr⟩
theorem aF.take:∀{xs} {vs} j,aF own h xs vs->aF own h (xs.take j) (vs.take j)
 |[],u,o,e=>by subst e;rw[abA,abA];rfl|x::xs,u,0,⟨v,r,e,o,hr⟩=>by subst e;rfl|x::xs,u,j+1,⟨v,r,e,hv,hr⟩=>by subst e;exact⟨v,_,rfl,hv,aF.take j hr⟩
theorem aF.V0:∀{xs} {vs} j,aF own h xs vs->aF own h (xs.drop j) (vs.drop j)
 |[],u,o,e=>by subst e;rw[List.drop_nil,List.drop_nil];rfl|x::xs,u,0,⟨v,r,e,hv,hr⟩=>by subst e;exact⟨v,_,rfl,hv,hr⟩|x::xs,u,j+1,⟨v,r,e,hv,hr⟩=>by subst e;exact aF.V0 j hr
theorem V3 {A:Around}{j:Nat}{y:an}(S:Sx own st s)(ha:own[k]?=some a)(ho:s.heap.get? a=some {cls:=.type "list",data:=.seq vs.toArray n})(hr:aF own s.heap xs vs)(hy:vs[j]?=some y)(ry:RelV own s.heap v y):Ao own s (PV (st.set k (.list (xs.eraseIdx j))) v) y {s with heap:=s.heap.update a (f8 (·.eraseIdxIfInBounds j)),toks:=s.toks}:=by obtain⟨E,S'⟩:=S.AN (f:=λx=>x.eraseIdxIfInBounds j) ha ho (λav h' fX g=>by rw[(show ((vs.toArray).eraseIdxIfInBounds j).toList=vs.eraseIdx j from by simp [(bV.mp hy).1])];exact aF.VZ j fX) hr;exact⟨own,E,S',ry.aM E.aM⟩
theorem V4 {vs:List an}{j:Nat}{y:an}(h:vs[j]?=some y):vs.toArray[j]?=some y:=Rj.trans h
theorem GP {i:Int}{j:Nat}(hk:st[k]?=some (.list xs))(hi:-(2^63:Int)<=i∧i<2^63)(hj:rl i xs.length=some j)(hv:xs[j]?=some v)(bn:xs.length<=cX):bk d (.bi "list.pop") [.ab k,.int i] [] st v (st.set k (.list (xs.eraseIdx j))):=uG λA own s b z q S hb hz=>by obtain⟨a,vs,n,rfl,ha,ho,hr,hl⟩:=S.kY hk hb;obtain⟨t,rfl⟩:=hz;obtain⟨y,hy,ry⟩:=aF.get hr hv;rw[hl] at hj bn;exact vU aqf ⟨_,ho,rfl⟩ aqg (PySem.F.args_list_pop_2 _ _) (aeU a vs.toArray n i t j y hi hj (V4 hy) bn) ⟨ho,V3 (A:=A) S ha ho hr hy ry⟩
theorem aeY {i:Nat}(hk:st[k]?=some (.list xs))(hz:0<=z)(hzi:z.toNat=i)(hi:z<2^63)(d6:i<=xs.length)(bn:xs.length<=cX):bk d (.bi "list.insert") [.ab k,.int z,v] [] st .none (st.set k (.list (xs.take i++v::xs.drop i))):=aeQ λA own s b w y q S hb hw hy=>by
 obtain⟨a,vs,n,rfl,ha,ho,hr,hl⟩:=S.kY hk hb;obtain⟨t,rfl⟩:=hw;rw[hl] at d6 bn;refine vU PySem.F.slot_list_insert ⟨_,ho,rfl⟩ PySem.F.entry_list_insert (PySem.F.args_list_insert_3 (.ref a) (.int z t) y) (PySem.AutoListH.list_insert_list_int_val_1 a vs.toArray n z t y (VW ⟨QY (by decide) hz,hi⟩) bn) ⟨ho,?_⟩;obtain⟨E,S'⟩:=S.AN (f:=λxs=>have k:=if z<0 then(z+(xs.size)).toNat else min z.toNat xs.size;(xs.extract 0 k).push y++xs.extract k) (ys:=xs.take i++v::xs.drop i) ha ho (λav h' fX g=>by
  have h2:(if z<0 then(z+(vs.toArray.size)).toNat else min z.toNat vs.toArray.size)=i:=by rw[if_neg<|sB.mpr hz,hzi];exact zH d6
  have:(((vs.toArray.extract 0 i).push y++vs.toArray.extract i vs.length)).toList=vs.take i++y::vs.drop i:=by simp;rw[uc];simp
  rw[h2];show aF av h' _ (((vs.toArray.extract 0 i).push y++vs.toArray.extract i vs.length)).toList;rw[this];exact aF.append (aF.take i fX) ⟨y,_,rfl,hy.aM g,aF.V0 i fX⟩) hr
 exact⟨own,E,S',rfl⟩
theorem V6 {i:Nat}(hk:st[k]?=some (.list xs))(hi:(i:Int)<2^63)(d6:i<=xs.length)(bn:xs.length<=cX):bk d (.bi "list.insert") [.ab k,.int i,v] [] st .none (st.set k (.list (xs.take i++v::xs.drop i))):=aeY hk (mK i) rfl hi d6 bn
end
end
section
variable {d:Nat}{c:aY}
mutual
noncomputable def gQ:CV->CV->Bool
 | .int i,.int j=>i == j
 | .bool a,.bool b=>a == b
 | .bool a,.int j=>(if a then 1 else 0) == j
 | .int i,.bool b=>i == (if b then 1 else 0)
 | .str x,.str y=>x == y
 | .none,.none=>true
 | .cB xs,.cB ys=>mY xs ys
 | u,o=>false
noncomputable def mY:List CV->List CV->Bool
 | [],[]=>true
 | x::xs,y::ys=>gQ x y&&mY xs ys
 | u,o=>false
end
mutual
noncomputable def CV.gg:CV->Bool
 | .int _| .bool _| .str _| .none=>true
 | .cB xs=>CV.g6 xs
 | _=>false
noncomputable def CV.g6:List CV->Bool
 | []=>true
 | x::xs=>x.gg&&CV.g6 xs
end
mutual
noncomputable def CV.s8:CV->Nat
 | .cB xs=>CV.jV xs+1
 | _=>0
noncomputable def CV.jV:List CV->Nat
 | []=>0
 | x::xs=>max x.s8 (CV.jV xs)
end
theorem CV.GQ {x:CV}:CV.g6 (x::xs)=(x.gg&&CV.g6 xs):=rfl
theorem CV.GR {x:CV}:CV.jV (x::xs)=max x.s8 (CV.jV xs):=rfl
section
variable {own:List ai}{h:bf}
def ae1 (own:List ai)(h:bf)(c:CV):an->Prop
 |.none=>c=.none|.bool b=>c=.bool b|.int i x=>c=.int i|.str s x=>c=.str s|.ref a=>∃xs vs n,c=.cB xs∧h.get? a=some {cls:=.type "tuple",data:=.seq (abB vs) n}∧aF own h xs vs|_=>True
theorem Db {c:CV}{v:an}(hp:c.gg=true)(r:RelV own h c v):ae1 own h c v:=by cases c with|none=>rw[show v=_ from r];rfl|bool b=>rw[show v=_ from r];rfl|int i=>exact r.elim λt e=>by rw[e];rfl|str s=>exact r.elim λt e=>by rw[e];rfl|cB xs=>obtain⟨a,vs,n,e,_,_,ho,hr⟩:=r;exact e▸⟨xs,vs,n,rfl,ho,hr⟩|_=>nomatch hp
theorem ae2 {c:CV}(hp:c.gg=true)(r:RelV own h c .none):c=.none:=Db hp r
theorem ae3 {c:CV}{b:Bool}(hp:c.gg=true)(r:RelV own h c (.bool b)):c=.bool b:=Db hp r
theorem ae4 {c:CV}{b:Int}{t:Tok}(hp:c.gg=true)(r:RelV own h c (.int b t)):c=.int b:=Db hp r
theorem ae5 {c:CV}{b:Str}{t:Tok}(hp:c.gg=true)(r:RelV own h c (.str b t)):c=.str b:=Db hp r
theorem ae6 {c:CV}{a:ai}(hp:c.gg=true)(r:RelV own h c (.ref a)):∃xs vs n,c=.cB xs∧h.get? a=some {cls:=.type "tuple",data:=.seq (abB vs) n}∧aF own h xs vs:=Db hp r
theorem V7 {a:ai}{vs yp:List an}{n n':Nat}(h1:h.get? a=some {cls:=.type "tuple",data:=.seq vs.toArray n})(h2:h.get? a=some {cls:=.type "tuple",data:=.seq yp.toArray n'}):vs=yp:=by
 rw[h1] at h2;injection (dE h2) with _ _ h2 _
 injection h2 with h3 _
 simpa using congrArg Array.toList h3
mutual
theorem V8:∀(a b:CV) (v:an),a.gg=true->b.gg=true->RelV own h a v->RelV own h b v->a=b
 | .none,b,v,u,hb,ra,rb=>by subst ra;exact(ae2 hb rb).symm
 | .bool x,b,v,u,hb,ra,rb=>by subst ra;exact(ae3 hb rb).symm
 | .int x,b,v,u,hb,ra,rb=>by obtain⟨t,e⟩:=ra;rw[e] at rb;exact(ae4 hb rb).symm
 | .str x,b,v,u,hb,ra,rb=>by obtain⟨t,e⟩:=ra;rw[e] at rb;exact(ae5 hb rb).symm
 | .cB xs,b,v,ha,hb,ra,rb=>by
   obtain⟨a,vs,n,e,_,_,ho,hr⟩:=ra
   rw[e] at rb
   obtain⟨ys,yp,n',eb,gO,fX⟩:=ae6 hb rb
   rw[<-V7 ho gO] at fX
   rw[eb] at hb ⊢
   rw[Mu xs ys vs ha hb hr fX]
 | .ab u,o,z,ha,w,q,c=>by exact nB ha
 | .sl u,o,z,ha,w,q,c=>by exact nB ha
 | .fW u o z,w,q,ha,c,d,f=>by exact nB ha
 | .aH u,o,z,ha,w,q,c=>by exact nB ha
 | .bi u,o,z,ha,w,q,c=>by exact nB ha
 | .ty u,o,z,ha,w,q,c=>by exact nB ha
 | .any,u,o,ha,z,w,q=>by exact nB ha
theorem Mu:∀(xs ys:List CV) (vs:List an),CV.g6 xs=true->CV.g6 ys=true->aF own h xs vs->aF own h ys vs->xs=ys
 | [],[],u,o,z,w,q=>rfl
 | [],y::ys,vs,u,o,ra,rb=>by subst ra;obtain⟨_,_,e,_⟩:=rb;cases e
 | x::xs,[],vs,u,o,ra,rb=>by subst rb;obtain⟨_,_,e,_⟩:=ra;cases e
 | x::xs,y::ys,vs,ha,hb,ra,rb=>by
   obtain⟨v,r,e0,h1,h2⟩:=ra
   obtain⟨v',r',e,oW,mw⟩:=rb
   rw[e0] at e
   injection e with e1 e2
   rw[<-e1] at oW
   rw[<-e2] at mw
   rw[CV.GQ,bz] at ha hb
   rw[V8 x y v ha.1 hb.1 h1 oW,Mu xs ys r ha.2 hb.2 h2 mw]
end
end
mutual
theorem ae7:∀(a:CV),a.gg=true->gQ a a=true
 | .int i,u=>beq_self_eq_true i
 | .bool i,u=>beq_self_eq_true i
 | .str i,u=>beq_self_eq_true i
 | .none,u=>rfl
 | .cB xs,h=>uH xs h
 | .ab u,h=>nomatch h
 | .sl u,h=>nomatch h
 | .fW u o z,h=>nomatch h
 | .aH u,h=>nomatch h
 | .bi u,h=>nomatch h
 | .ty u,h=>nomatch h
 | .any,h=>nomatch h
theorem uH:∀(xs:List CV),CV.g6 xs=true->mY xs xs=true
 | [],u=>rfl
 | x::xs,h=>
   have h:=iR.mp (h)
   iR.mpr ⟨ae7 x h.1,uH xs h.2⟩
end
theorem wz:∀{xs} {j:Nat} {x},CV.g6 xs=true->xs[j]?=some x->x.gg=true
 |y::ys,0,x,h,e=>by obtain rfl:=dE e;rw[CV.GQ,bz] at h;exact h.1|y::ys,j+1,x,h,e=>by rw[CV.GQ,bz] at h;exact wz h.2 (by simpa using e)
theorem GS:∀{xs} {j:Nat} {x},xs[j]?=some x->x.s8<=CV.jV xs
 |y::ys,0,x,e=>by obtain rfl:=dE e;rw[CV.GR];exact aci|y::ys,j+1,x,e=>by rw[CV.GR];exact acj (GS<|by simpa using e)
def nV (xs ys:List CV)(j:Nat):Bool:=gQ (xs.getD j .none) (ys.getD j .none)
theorem GU:∀xs ys,((aK (min xs.length ys.length)).all (nV xs ys)&&xs.length==ys.length)=mY xs ys
 |[],[]=>rfl|[],y::ys=>abC _|x::xs,[]=>abC _|x::xs,y::ys=>by
  show _=(gQ x y&&mY xs ys);rw[<-GU xs ys];have:min (x::xs).length (y::ys).length=min xs.length ys.length+1:=by simp
  rw[this,aaH,bU,List.all_map];have e:(nV (x::xs) (y::ys) ∘ Nat.succ)=nV xs ys:=by funext j;simp [nV]
  rw[e,Bool.and_assoc];have e2:nV (x::xs) (y::ys) 0=gQ x y:=by simp [nV]
  rw[e2];congr 2;simp
section
variable {own:List ai}{s:az}
open SeqAt
inductive AP (own:List ai)(h:bf):CV->an->Prop|none:AP own h .none .none|bool (b:Bool):AP own h (.bool b) (.bool b)|int (i:Int) (t:Tok):AP own h (.int i) (.int i t)|str (x:Str) (t:Tok):AP own h (.str x) (.str x t)|cB {xs:List CV} {a:ai} {vs:List an} {n:Nat}:CV.g6 xs=true->h.get? a=some {cls:=.type "tuple",data:=.seq vs.toArray n}->aF own h xs vs->AP own h (.cB xs) (.ref a)
theorem V9 {h:bf}{c:CV}{v:an}(hp:c.gg=true)(r:RelV own h c v):AP own h c v:=by cases c with|none=>rw[show v=_ from r];exact .none|bool b=>rw[show v=_ from r];exact .bool b|int i=>exact r.elim λt e=>by rw[e];exact .int i t|str s=>exact r.elim λt e=>by rw[e];exact .str s t|cB xs=>obtain⟨a,vs,n,e,_,_,ho,hr⟩:=r;exact e▸.cB hp ho hr|_=>nomatch hp
theorem ae' {m:Nat}(ih:∀a b  A  x y,a.s8<=CV.jV xs->a.gg=true->b.gg=true->A.units+CV.jV xs<xA->RelV own s.heap a x->RelV own s.heap b y->EqAt A s x y (gQ a b))(ha:CV.g6 xs=true)(hb:CV.g6 ys=true)(hu:A.units+(CV.jV xs+1)<xA)(ho:s.heap.get? aa=some {cls:=.type "tuple",data:=.seq vs.toArray m})(hr:aF own s.heap xs vs)(gO:s.heap.get? bb=some {cls:=.type "tuple",data:=.seq yp.toArray m'})(fX:aF own s.heap ys yp):EqAt A s (.ref aa) (.ref bb) (gQ (.cB xs) (.cB ys)):=by
 by_cases oQ:aa=bb
 ·subst oQ;have hv:=V7 ho gO;subst hv;rw[Mu xs ys _ ha hb hr fX,show gQ (CV.cB ys) (CV.cB ys)=true from uH ys hb];exact EqAt.same _
 have hl:=aF.length hr;have nP:=aF.length fX;apply EqAt.of_refs oQ;have key:=RcAt.tuples (e:=nV xs ys) ⟨_,ho,rfl,m,rfl⟩ ⟨_,gO,rfl,m',rfl⟩ (Fs hu) (λj h1 h2=>by
  have oW:j<xs.length:=by rw[hl];simpa using h1
  have mw:j<ys.length:=by rw[nP];simpa using h2
  obtain⟨v1,e1,r1⟩:=aF.get hr<|bA oW;obtain⟨v2,e2,r2⟩:=aF.get fX<|bA mw;have oR:vs.toArray[j]=v1:=by simpa using (bV.mp e1).2
  have Mw:yp.toArray[j]=v2:=by simpa using (bV.mp e2).2
  rw[oR,Mw];have:nV xs ys j=gQ xs[j] ys[j]:=by simp [nV,oW,mw]
  rw[this];exact ih _ _ A.in1 _ _ (GS<|bA oW) (wz ha<|bA oW) (wz hb<|bA mw) (by simp;exact KJ hu) r1 r2)
 rwa[ig,ig,<-hl,<-nP,GU] at key
theorem afa (ih:∀k,k<n->∀a b  A  x y,a.s8<=k->a.gg=true->b.gg=true->A.units+k<xA->RelV own s.heap a x->RelV own s.heap b y->EqAt A s x y (gQ a b)){x y:an}(hd:a.s8<=n)(ha:a.gg=true)(hb:b.gg=true)(hu:A.units+n<xA)(ra:RelV own s.heap a x)(rb:RelV own s.heap b y):EqAt A s x y (gQ a b):=by
 have s9:A.units<xA:=Fs hu;have va:=V9 ha ra;have vb:=V9 hb rb;clear ra rb ha hb;cases va with
 |none=>cases vb with
  |none=>exact EqAt.same _|bool=>exact EqAt.none_bool _|int=>exact EqAt.none_int _ _|str=>exact EqAt.none_str _ _|cB u ho=>exact EqAt.none_tuple ⟨_,ho,rfl,_,rfl⟩ s9
 |bool=>cases vb with
  |none=>exact EqAt.bool_none _|bool=>exact EqAt.bool_bool _ _|int=>exact EqAt.bool_int _ _ _|str=>exact EqAt.bool_str _ _ _|cB u ho=>exact EqAt.bool_tuple _ ⟨_,ho,rfl,_,rfl⟩ s9
 |int=>cases vb with
  |none=>exact EqAt.int_none _ _|bool=>exact EqAt.int_bool _ _ _|int=>exact EqAt.int_int _ _ _ _|str=>exact EqAt.int_str _ _ _ _|cB u ho=>exact EqAt.int_tuple _ _ ⟨_,ho,rfl,_,rfl⟩ s9
 |str=>cases vb with
  |none=>exact EqAt.str_none _ _|bool=>exact EqAt.str_bool _ _ _|int=>exact EqAt.str_int _ _ _ _|str=>exact EqAt.str_str _ _ _ _|cB u ho=>exact EqAt.str_tuple _ _ ⟨_,ho,rfl,_,rfl⟩ s9
 |cB ha ho hr=>cases vb with|none=>exact EqAt.tuple_none ⟨_,ho,rfl,_,rfl⟩ s9|bool=>exact EqAt.tuple_bool _ ⟨_,ho,rfl,_,rfl⟩ s9|int=>exact EqAt.tuple_int _ _ ⟨_,ho,rfl,_,rfl⟩ s9|str=>exact EqAt.tuple_str _ _ ⟨_,ho,rfl,_,rfl⟩ s9|cB hb gO fX=>exact ae' (ih _ hd) ha hb (q7 (Nat.add_le_add_left hd _) hu) ho hr gO fX
theorem V' n:∀a b A x y,a.s8<=n->a.gg=true->b.gg=true->A.units+n<xA->RelV own s.heap a x->RelV own s.heap b y->EqAt A s x y (gQ a b):=
 Nat.strongRecOn n λu ih u u u u u=>afa ih
end
end
section
variable {d:Nat}{c:aY}
noncomputable def Mx (a b:CV):Option Bool:=match b with
 |.none=>match a with
   |.none=>some true|.bool x=>some false|.int x=>some false|.str x=>some false|.ab x=>some false|.cB x=>some false|_=>none
 |.bool q=>match a with
   |.bool p=>some (p==q)|_=>none
 |.ty q=>match a with
   |.ty p=>some (p==q)|_=>none
 |_=>none
theorem Wa {x y:an}(hv:Mx a b=some r)(ra:RelV own h a x)(rb:RelV own h b y):plainIs x y=true∧(x==y)=r:=by
 cases b with
 |none=>
  rw[show y=.none from rb];cases a with
  |none=>rw[show x=_ from ra];exact⟨rfl,dE hv⟩|bool p=>rw[show x=_ from ra];exact⟨rfl,dE hv⟩|int i=>exact ra.elim λt e=>by rw[e];exact⟨rfl,dE hv⟩|str i=>exact ra.elim λt e=>by rw[e];exact⟨rfl,dE hv⟩|ab i=>obtain⟨_,_,e⟩:=ra;rw[e];exact⟨rfl,dE hv⟩|cB i=>obtain⟨_,_,_,e,_⟩:=ra;exact e▸⟨rfl,dE hv⟩|_=>nomatch hv
 |bool q=>cases a with
  |bool p=>rw[show x=_ from ra,show y=_ from rb];refine⟨rfl,Eq.trans ?_<|dE hv⟩;cases p<;>cases q<;>rfl|_=>nomatch hv
 |ty q=>cases a with
  |ty p=>
   rw[show x=_ from ra,show y=_ from rb];refine⟨rfl,Eq.trans ?_<|dE hv⟩;by_cases wA:p=q
   ·rw[wA,beq_self_eq_true,beq_self_eq_true]
   rw[beq_eq_false_iff_ne.mpr<|λe=>wA<|an.type.inj e,beq_eq_false_iff_ne.mpr wA]
  |_=>nomatch hv
 |_=>nomatch hv
theorem ky {a b:CV}{r:Bool}{st:List ae}(h:Mx a b=some r):jj d .Is a b st (.bool r) st:=λA own s x y q S ra rb=>by obtain⟨h1,h2⟩:=Wa h ra rb;exact wpAny_is_plain h1 ⟨own,.refl,S,by rw[h2];rfl⟩
theorem yq {a b:CV}{r:Bool}{st:List ae}(h:Mx a b=some r):jj d .IsNot a b st (.bool (!r)) st:=λA own s x y q S ra rb=>by obtain⟨h1,h2⟩:=Wa h ra rb;exact wpAny_isNot_plain h1 ⟨own,.refl,S,by rw[h2];rfl⟩
section
variable {st:List ae}{k l:Nat}{xs ys:List CV}
open SeqAt
inductive LL (A:Around)(s:az)(xs ys:List CV)(x y:an):Prop|eq (l b:ai) (vs ws:Array an) (e1:x=.ref l) (e2:y=.ref b) (h1:s.heap.IsList l vs) (h2:s.heap.IsList b ws) (hz:vs.size=ws.size) (he:∀j (h1:j<vs.size) (h2:j<ws.size),EqAt A.in1 s vs[j] ws[j] (nV xs ys j)) (hv:(aK vs.size).all (nV xs ys)=mY xs ys)|ne (l b:ai) (vs ws:Array an) (e1:x=.ref l) (e2:y=.ref b) (h1:s.heap.IsList l vs) (h2:s.heap.IsList b ws) (hz:(vs.size != ws.size)=true) (hv:mY xs ys=false)
theorem My {vs:List an}{j:Nat}{v:an}(h:vs[j]?=some v) hj:vs.toArray[j]=v:=(bV.mp h).2
theorem Wb {x y:an}(q:Rm (d+1) A)(S:Sx own st s)(hk:st[k]?=some (.list xs))(hl:st[l]?=some (.list ys))(hx:CV.g6 xs=true)(hy:CV.g6 ys=true)(hd:CV.jV xs<=6)(ra:RelV own s.heap (.ab k) x)(rb:RelV own s.heap (.ab l) y):LL A s xs ys x y:=by
 obtain⟨a,vs,n,rfl,_,ho,hr,l1⟩:=S.kY hk ra;obtain⟨b,ws,m,rfl,_,gO,fX,l2⟩:=S.kY hl rb;by_cases bJ:xs.length=ys.length
 ·refine .eq a b vs.toArray ws.toArray rfl rfl ⟨_,ho,rfl,n,rfl⟩ ⟨_,gO,rfl,m,rfl⟩ (l1.symm.trans<|bJ.trans l2) (λj h1 h2=>?_) ((congrArg (λn=>(aK n).all<|nV xs ys) l1).symm.trans<|(by rw[<-GU xs ys,<-bJ];simp));have oW:=Kn h1 l1.symm;have mw:=bJ▸oW;obtain⟨v1,e1,r1⟩:=aF.get hr<|bA oW;obtain⟨v2,e2,r2⟩:=aF.get fX<|bA mw;rw[My e1,My e2,nV,ed,ed,bA oW,bA mw];exact V' _ _ _ A.in1 _ _ (aG _) (wz hx<|bA oW) (wz hy<|bA mw) (by simp;exact Sh q.2.2 hd<|GS<|bA oW) r1 r2
 exact .ne a b vs.toArray ws.toArray rfl rfl ⟨_,ho,rfl,n,rfl⟩ ⟨_,gO,rfl,m,rfl⟩ (bne_iff_ne.mpr λe=>bJ<|l1.trans<|e.trans l2.symm) ((by rw[<-GU xs ys];simp [bJ]))
theorem Mz (hk:st[k]?=some (.list xs))(hl:st[l]?=some (.list ys))(hx:CV.g6 xs=true)(hy:CV.g6 ys=true)(hd:CV.jV xs<=6):jj (d+1) .Eq (.ab k) (.ab l) st (.bool (mY xs ys)) st:=λA own s x y q S ra rb=>by cases Wb q S hk hl hx hy hd ra rb with|eq a b vs ws e1 e2 h1 h2 hz he hv=>rw[e1,e2];exact eq_listAt h1 h2 hz q.units he ⟨own,.refl,S,congrArg an.bool hv⟩|ne a b vs ws e1 e2 h1 h2 hz hv=>rw[e1,e2];exact eq_list_lengthsAt h1 h2 hz q.units ⟨own,.refl,S,congrArg an.bool hv.symm⟩
theorem Dc (hk:st[k]?=some (.list xs))(hl:st[l]?=some (.list ys))(hx:CV.g6 xs=true)(hy:CV.g6 ys=true)(hd:CV.jV xs<=6):jj (d+1) .NotEq (.ab k) (.ab l) st (.bool (!mY xs ys)) st:=λA own s x y q S ra rb=>by cases Wb q S hk hl hx hy hd ra rb with|eq a b vs ws e1 e2 h1 h2 hz he hv=>rw[e1,e2];exact RcNeAt.lists h1 h2 hz q.units he _ _ _ _ ⟨own,.refl,S,congrArg (λb=>an.bool<|!b) hv⟩|ne a b vs ws e1 e2 h1 h2 hz hv=>rw[e1,e2];exact RcNeAt.lists_lengths h1 h2 hz q.units _ _ _ _ ⟨own,.refl,S,congrArg (λb=>an.bool<|!b) hv.symm⟩
def yr (own:List ai)(h:bf)(xs:List CV)(c:CV)(y:an):Prop:=∃x∈xs,RelV own h x y∧gQ x c=true
open Classical in
theorem MA {own:List ai}{h:bf}{xs:List CV}{c:CV}{x:CV}{y:an}(hx:CV.g6 xs=true)(hm:x∈xs)(r:RelV own h x y):decide (yr own h xs c y)=gQ x c:=by
 obtain⟨j,hj,e⟩:=pN.mp hm
 have hp:=wz hx (show xs[j]?=some x by rw[bA hj,e])
 cases he:gQ x c with
 | true=>exact decide_eq_true ⟨x,hm,r,he⟩
 | false=>
   refine decide_eq_false λ⟨z,hz,rz,ez⟩=>?_
   obtain⟨j',nW,e'⟩:=pN.mp hz
   have MB:=wz hx (show xs[j']?=some z by rw[bA nW,e'])
   rw[V8 z x y MB hp rz r,he] at ez
   exact nB ez
open Classical in
theorem MC {own:List ai}{h:bf}{zs:List CV}{c:CV}(hz:CV.g6 zs=true):∀{xs:List CV} {vs:List an},(∀x∈xs,x∈zs)->aF own h xs vs->vs.map (λy=>decide (yr own h zs c y))=xs.map λx=>gQ x c
 | [],u,o,e=>by subst e;rfl
 | x::xs,u,hm,⟨v,r,e,hv,hr⟩=>by
   subst e
   rw[eC,eC,MA hz (hm x (.head _)) hv,MC hz (λy hy=>hm y (.tail _ hy)) hr]
theorem MD f:∀(l:List α),l.any f=(l.map f).any id
 |[]=>rfl|x::l=>by rw[Fb,eC,Fb,MD f l];rfl
theorem Wc:∀{xs} {vs} {y},aF own h xs vs->y∈vs->∃x∈xs,RelV own h x y
 |[],u,y,e,hm=>by subst e;cases hm|x::xs,u,y,⟨v,r,e,hv,hr⟩,hm=>by
  subst e;rcases pO.mp hm with q|q
  ·exact⟨x,.head _,q▸hv⟩
  obtain⟨z,h1,h2⟩:=Wc hr q;exact⟨z,.tail _ h1,h2⟩
theorem afc {x:CV}(hm:x∈xs):x.s8<=CV.jV xs:=by obtain⟨j,hj,e⟩:=pN.mp hm;exact GS (show xs[j]?=some x by rw[bA hj,e])
theorem afd {x:CV}(hx:CV.g6 xs=true)(hm:x∈xs):x.gg=true:=by obtain⟨j,hj,e⟩:=pN.mp hm;exact wz hx (show xs[j]?=some x by rw[bA hj,e])
open Classical in
theorem MF {A:Around}{own:List ai}{s:az}{a:CV}{vs:List an}{x z:an}(q:Rm (d+1) A)(hx:CV.g6 xs=true)(ha:a.gg=true)(hd:CV.jV xs<=6)(hr:aF own s.heap xs vs)(ra:RelV own s.heap a x)(hz:z∈vs.toArray):EqAt A.in1 s z x (decide (yr own s.heap xs a z)):=by
 obtain⟨u,hu,ru⟩:=Wc hr (List.mem_toArray.mp hz)
 rw[MA hx hu ru]
 have s9:=q.2.2
 have:=afc hu
 exact V' _ _ _ A.in1 _ _ (aG _) (afd hx hu) ha (by simp;exact Sh s9 hd this) ru ra
open Classical in
theorem afe {own:List ai}{s:az}{a:CV}{vs:List an}(hx:CV.g6 xs=true)(hr:aF own s.heap xs vs):(vs.toArray.any λy=>decide (yr own s.heap xs a y))=xs.any λx=>gQ x a:=by
 rw[List.any_toArray,MD,MC hx (λu h=>h) hr,<-MD]
open Classical in
theorem aff {a:CV}(hk:st[k]?=some (.list xs))(hx:CV.g6 xs=true)(ha:a.gg=true)(hd:CV.jV xs<=6):jj (d+1) .In a (.ab k) st (.bool (xs.any λx=>gQ x a)) st:=λA own s x y q S ra rb=>by
 obtain⟨b,vs,n,rfl,_,ho,hr,_⟩:=S.kY hk rb
 exact in_listAt _ ⟨_,ho,rfl,n,rfl⟩ (λy hy=>MF q hx ha hd hr ra hy) ⟨own,.refl,S,congrArg an.bool (afe hx hr)⟩
end
end
section
variable {d:Nat}{c:aY}
theorem yt {A:Around}{own:List ai}{s:az}{o i:an}{T id:String}{e:aq}{P:List ai->an->az->Prop}(hT:s.TypeIs o T)(hl:Fc (.type T) "__getitem__"=pure (some (.builtin id)))
 (h:Tr A own s (getItem o i) P):Tr A own s (do Kd e (<-abj o) o i) P:=by
 rw[getitemInPython_of_ne hT.not_modules];have yg:∀b,b=false->Tr A own s (Kd e b o i) P:=λb hb=>by
  subst hb;obtain⟨_,e⟩:=(show ∃l,Kd e false o i=operate l (getItem o i) from by
   cases e with
   |Slice x u q z=>cases q<;>exact⟨_,rfl⟩|_=>exact⟨_,rfl⟩)
  exact e▸abi h
 rw[bind_assoc];refine aB<|Ko hT hl ?_;first
  |exact yg _ rfl|exact aB<|bH<|yg _ rfl
section
variable {st:List ae}{k:Nat}{xs:List CV}{e:aq}
theorem uI {i:Int}{j:Nat}(hk:st[k]?=some (.list xs))(hi:-(2^63:Int)<=i∧i<2^63)(hj:rl i xs.length=some j)(hv:xs[j]?=some v):fF d e (.ab k) (.int i) st v st:=λA own s x y q S ra rb=>by
 obtain⟨a,ha,rfl⟩:=ra;obtain⟨t,rfl⟩:=rb;obtain⟨a',b8,vs,n,ho,hr⟩:=S.bD hk;rw[ha] at b8;obtain rfl:=dE b8;have hl:=aF.length hr;obtain⟨y,hy,ry⟩:=aF.get hr hv;have hL:s.heap.IsList a vs.toArray:=⟨_,ho,rfl,n,rfl⟩;apply yt hL.typeIs abD.lookup;have ari:=(bV.mp hv).1;unfold rl at hj;simp only [bz,decide_eq_true_eq] at hj;by_cases h0:i<0
 ·simp only [h0,if_true] at hj;split at hj
  ·rename_i hc;have nW:=dE hj;refine wpAny_getItem_list_neg hL h0 (by simp;lia) hi.1 ?_ ⟨own,.refl,S,ry⟩;rw[ig,<-hl,nW];simpa using hy
  exact nS hj
 simp only [h0,if_false] at hj;split at hj
 ·rename_i hc;have nW:=dE hj;refine wpAny_getItem_list hL (by lia) hi.2 ?_ ⟨own,.refl,S,ry⟩;rw[nW];simpa using hy
 exact nS hj
theorem afj {i:Int}{j:Nat}(hi:-(2^63:Int)<=i∧i<2^63)(hj:rl i xs.length=some j)(hv:xs[j]?=some v):fF d e (.cB xs) (.int i) st v st:=λA own s x y q S ra rb=>by obtain⟨a,vs,n,rfl,_,_,ho,hr⟩:=ra;obtain⟨t,rfl⟩:=rb;obtain⟨y,hy,ry⟩:=aF.get hr hv;have hT:s.heap.IsTuple a vs.toArray:=⟨_,ho,rfl,n,rfl⟩;apply yt hT.typeIs PySem.F.slot_tuple_getitem.lookup;exact PySem.P.getItem_tuple ho hi.1 hi.2 (by rwa[ig,<-(aF.length hr)]) (by simpa using hy) ⟨own,.refl,S,ry⟩
theorem afk {x:Str}{i:Int}(hi:(decide (i < -(2^63:Int))||decide (i>=2^63))=false)(hc:(rl i x.length).bind (x.cps[·]?)=some ch):fF d e (.str x) (.int i) st (.str ⟨#[ch]⟩) st:=λA own s y z q S ra rb=>by obtain⟨t,rfl⟩:=ra;obtain⟨u,rfl⟩:=rb;apply yt (Fe s x t) aqi.lookup;exact P.getItem_str hi hc ⟨own,.toks,S.toks _,_,rfl⟩
noncomputable def qt:CV->Option (Option Int)
 |.none=>some none|.int i=>some (some i)|_=>none
theorem MG {p:Option Int}{x:an}(hv:qt v=some p)(r:RelV own h v x):∃q:Option (Int×Tok),x=partValue q∧q.map (·.1)=p:=by cases v with|none=>exact sI (P:=λp=>∃q:Option (Int×Tok),x=partValue q∧q.map (·.1)=p) hv ⟨none,r,rfl⟩|int i=>obtain⟨t,rfl⟩:=r;exact sI (P:=λp=>∃q:Option (Int×Tok),_=partValue q∧q.map (·.1)=p) hv ⟨some (i,t),rfl,rfl⟩|_=>exact nS hv
theorem AQ {p:Option Int}{x:an}(hv:qt v=some p)(r:RelV own h v x):IsPart x p:=by obtain⟨q,rfl,rfl⟩:=MG hv r;cases q with|none=>exact .none|some q=>exact .int _ _
noncomputable def e7 (xs:List α)(lo hi st:Option Int):List α:=(Rt (zS lo hi st xs.length).1 (zS lo hi st xs.length).2.1 (zS lo hi st xs.length).2.2).filterMap (xs[·]?)
theorem GV (hr:aF own h xs vs):∀(is:List Nat),aF own h (is.filterMap (xs[·]?)) (is.filterMap (vs[·]?))
 |[]=>rfl|i::is=>by cases hx:xs[i]? with|none=>have:=B5 (by rw[<-(aF.length hr)];exact Rl.mp hx);rw[aqj hx,aqj this];exact GV hr is|some x=>obtain⟨y,hy,ry⟩:=aF.get hr hx;rw[aqk hx,aqk hy];exact⟨_,_,rfl,ry,GV hr is⟩
theorem Dd {lo step:Option Int}(hk:st[k]?=some (.list xs))(h1:qt a=some lo)(h2:qt b=some hi)(h3:qt z=some step)(h0:step≠some 0)(bn:xs.length<=cX):fF d e (.ab k) (.sl [a,b,z]) st (.ab st.length) (st++[.list (e7 xs lo hi step)]):=λA own s x y q S ra rb=>by
 obtain⟨l,ha,rfl⟩:=ra;obtain⟨l',b8,vs,n,ho,hr⟩:=S.bD hk;rw[ha] at b8;obtain rfl:=dE b8;obtain⟨sa,ss,rfl,_,_,wB,va,_,rfl,ra,vb,_,rfl,rb,vz,_,rfl,rz,jD⟩:=rb;subst jD;have hl:=aF.length hr;have hL:s.heap.IsList l vs.toArray:=⟨_,ho,rfl,n,rfl⟩;apply yt hL.typeIs abD.lookup;refine aql hL ⟨_,wB,rfl,rfl⟩ (AQ h1 ra) (AQ h2 rb) (AQ h3 rz) h0 ?_ (by rwa[ig,<-hl]);have fX:aF own s.heap (e7 xs lo hi step) (e7 vs lo hi step):=by unfold e7;exact hl▸GV hr _
 obtain⟨av,E,S',r'⟩:=S.newList fX;have e:Ru vs.toArray lo hi step=(e7 vs lo hi step).toArray:=by unfold Ru e7;simp
 exact e▸⟨av,E,S',r'⟩
noncomputable def gD (x:Str)(lo hi:Option Int):Str:=if((Kp lo hi 1 x.length).length==x.length)=true then x else⟨((Kp lo hi 1 x.length).filterMap (x.cps[·]?)).toArray⟩
theorem yu {x:Str}{lo:Option Int}(h1:qt a=some lo)(h2:qt b=some hi)(bn:(gD x lo hi).length<=cX):fF d e (.str x) (.sl [a,b,.none]) st (.str (gD x lo hi)) st:=λA own s y z q S ra rb=>by
 obtain⟨t,rfl⟩:=ra;obtain⟨sa,ss,rfl,_,_,wB,va,_,rfl,ra,vb,_,rfl,rb,vz,_,rfl,rz,jD⟩:=rb;subst jD;subst rz;obtain⟨qa,rfl,ea⟩:=MG h1 ra;obtain⟨qb,rfl,eb⟩:=MG h2 rb;apply yt (Fe s x t) aqi.lookup;apply wpAny_getItem_str_slice (st:=none) ⟨_,wB,rfl,rfl⟩ rfl;have e:slicePicked x qa qb none=Kp lo hi 1 x.length:=by unfold slicePicked;rw[ea,eb];rfl
 unfold sliceMade;rw[e];unfold gD at bn ⊢;by_cases hc:((Kp lo hi 1 x.length).length==x.length)=true
 ·rw[if_pos<|by simpa using hc];rw[if_pos hc];exact⟨own,.refl,S,_,rfl⟩
 rw[if_neg<|by simpa using hc];rw[if_neg hc] at bn ⊢;exact⟨bn,own,.toks,S.toks _,_,rfl⟩
end
end
section
variable {d:Nat}{c:aY}
noncomputable def yw (es:List (Str×CV))(k:Str)(v:CV):List (Str×CV):=
 if es.any (λkv=>kv.1=k) then es.map (λkv=>if kv.1=k then(kv.1,v) else kv) else es++[(k,v)]
theorem Wf:∀{xs ys} {vs ws},cf own h xs vs->cf own h ys ws->cf own h (xs++ys) (vs++ws)
 |[],u,o,z,e,r=>by subst e;exact r|(x,c)::xs,u,o,z,⟨v,r,e,hv,hr⟩,q=>by subst e;exact⟨v,_,rfl,hv,Wf hr q⟩
theorem Wg k:∀{xs} {vs},cf own h xs vs->vs.any (λkv=>kv.1=k)=xs.any (λkv=>kv.1=k)
 |[],u,e=>by subst e;rfl|(x,c)::xs,u,⟨v,r,e,hv,hr⟩=>by subst e;rw[Fb,Fb,Wg k hr]
theorem MH {own:List ai}{h:bf} k {c:CV}{y:an}(hy:RelV own h c y):∀{xs} {vs},cf own h xs vs->cf own h (xs.map (λkv=>if kv.1=k then(kv.1,c) else kv)) (vs.map (λkv=>if kv.1=k then(kv.1,y) else kv))
 |[],u,e=>by subst e;rfl|(x,c')::xs,u,⟨v,r,e,hv,hr⟩=>by
  subst e;rw[eC,eC];by_cases hx:x=k
  ·simp [hx];exact⟨y,_,rfl,hy,MH k hy hr⟩
  simp [hx];exact⟨v,_,rfl,hv,MH k hy hr⟩
theorem afl {own:List ai}{h:bf}{xs:List (Str×CV)}{vs:List (Str×an)}{k:Str}{c:CV}{y:an}(hr:cf own h xs vs)(hy:RelV own h c y):cf own h (yw xs k c) (stored vs k y):=by
 unfold yw stored;rw[Wg k hr];split
 ·exact MH k hy hr
 exact Wf hr ⟨y,[],rfl,hy,rfl⟩
theorem Wh:∀{xs} {vs},cf own h xs vs->vs.length=xs.length
 |[],u,e=>by subst e;rfl|(x,c)::xs,u,⟨v,r,e,hv,hr⟩=>by subst e;simp [Wh hr]
theorem Wi {own:List ai}{h:bf}{k:Str}{c:CV}:∀{xs} {vs},cf own h xs vs->xs.lookup k=some c->∃y,valueAt vs k=some y∧RelV own h c y
 |[],u,e,h=>by exact nS h|(x,c')::xs,u,⟨v,r,e,hv,hr⟩,h=>by
  subst e;rw[nD] at h;unfold valueAt;rw[vV];by_cases hx:k=x
  ·subst hx;simp [beq_self_eq_true,aqm] at h;subst h;simp only [decide_true];exact⟨v,rfl,hv⟩
  rw[beq_eq_false_iff_ne.mpr hx] at h;rw[show decide ((x,v).1=k)=false from decide_eq_false λe=>hx e.symm];exact Wi hr h
section
variable {st:List ae}{k:Nat}{es:List (Str×CV)}{xs ys:List CV}{e:aq}
theorem Wj {x:Str}(hk:st[k]?=some (.map es))(hv:es.lookup x=some v):fF d e (.ab k) (.str x) st v st:=λA own s y z q S ra rb=>by obtain⟨a,ha,rfl⟩:=ra;obtain⟨t,rfl⟩:=rb;obtain⟨a',b8,kvs,o,ho,hd,hr⟩:=S.bD hk;rw[ha] at b8;obtain rfl:=dE b8;have hD:=Rp.mpr ⟨o,ho,hd⟩;obtain⟨y,hy,ry⟩:=Wi hr hv;apply yt hD.mapOf.typeIs PySem.F.slot_dict_getitem.lookup;exact wpAny_getItem_of (by simp [PySem.strKind,an.isStrOf]) hD.mapOf hy ⟨own,.toks,S.toks _,ry⟩
theorem afm {pos:Pos}{x:Str}(c9:a8 d c kx st (.str x) aw)(gf:a8 d c vx aw v aJ)(hk:aJ[k]?=some (.map es))(bn:es.length<=cX):sZ d c (.DictComp kx vx gens sc pos) k st (aJ.set k (.map (yw es x v))):=λA own s env a q S R nQ=>by refine(c9 A own s env q S R).bind λaO kv s₁ bF ⟨bq,cx⟩=>?_;refine(Tr.holding<|gf A aO s₁ env q bq<|R.ext bF).bind λaS vv aR cY ⟨bw,di⟩=>Tr.eh<|Tr.holding ?_;obtain⟨t,rfl⟩:=cx.aM cY.aM;have ha:=cY.aM.bD _ _<|bF.aM.bD _ _ nQ;obtain⟨a',b8,kvs,o,ho,hd,hr⟩:=bw.bD hk;rw[ha] at b8;obtain rfl:=dE b8;have hD:=Rp.mpr ⟨o,ho,hd⟩;refine wpAny_dictSet_pairs (k:=x) (by simp [PySem.strKind,an.isStrOf]) hD (λh' lC hs=>?_) (by rwa[Wh hr]);obtain⟨o',gO,lC⟩:=Rp.mp lC;exact⟨aS,a9.set bw ha hs.extBut,bw.set ha hs.extBut λg=>⟨_,o',gO,lC,afl (hr.aM g)<|di.aM g⟩⟩
theorem Wk {l:Nat}(hk:st[k]?=some (.list xs))(hl:st[l]?=some (.list ys))(bn:xs.length+ys.length<=cX):oN d .Add (.ab k) (.ab l) st (.ab st.length) (st++[.list (xs++ys)]):=λA own s x y q S ra rb=>by
 obtain⟨a,ha,rfl⟩:=ra;obtain⟨b,hb,rfl⟩:=rb;obtain⟨a',b8,vs,n,ho,hr⟩:=S.bD hk;obtain⟨b',oX,ws,m,gO,fX⟩:=S.bD hl;rw[ha] at b8;obtain rfl:=dE b8;rw[hb] at oX;obtain rfl:=dE oX;have e:vs.toArray++ws.toArray=(vs++ws).toArray:=by simp
 refine concat_meets ⟨_,ho,rfl⟩ ⟨_,gO,rfl⟩ noFill_list_add seq_list_add PySem.F.slot_list_add PySem.F.entry_list_add (PySem.F.args_list_add_2 _ _) (list_addW a b vs.toArray ws.toArray n m none none #[] #[] (by simp;exact ah [_,_,_,_,_] (.le (.a .o .i) .u<|.c (-1) 0 (.eq .o .w)<|.c (-1) 0 (.eq .i .x)<|.gl (.a .w .x) .u) rfl bn (aF.length hr) (aF.length fX))) ⟨ho,gO,?_⟩;exact e▸S.newList (aF.append hr fX)
theorem uJ (hk:st[k]?=some (.list xs))(bn:(xs.length:Int)<2^63):bk d (.bi "len") [.ab k] [] st (.int xs.length) st:=wy λA own s y q S ry=>by obtain⟨a,vs,n,rfl,ha,ho,hr,hl⟩:=S.kY hk ry;refine call_len_list ⟨_,ho,rfl,n,rfl⟩ (by rwa[ig,<-hl]) ⟨own,.toks,S.toks _,s.toks+1,?_⟩;rw[ig,<-hl]
theorem afn {x:Str}(bn:(x.length:Int)<2^63):bk d (.bi "len") [.str x] [] st (.int x.length) st:=wy λA own s y q S ry=>by obtain⟨t,rfl⟩:=ry;exact call_len_gives (Fe s x t) F.slot_str_len F.entry_str_len (F.args_str_len_1 _) (gives_str_len x t) (o80) (by lia) ⟨own,.toks,S.toks _,s.toks+1,rfl⟩
theorem MI {t u:Tok}(S:Sx own st s)(ht:tk≠0:=by first|exact ka _|assumption|exact Sx.tk (by assumption)):Ao own s (PV st (.fW a b z)) (.ref s.heap.objs.size) {s with heap:=s.heap.push {cls:=.type "range",data:=.fields #[.int a t,.int b u,.int z v]},toks:=tk}:=by have ml:∀b' o,s.heap.get? b'=some o->(s.heap.push {cls:=.type "range",data:=.fields #[.int a t,.int b u,.int z v]}).get? b'=some o:=λb o e=>fT _ e;have iA:s.heap.get? s.heap.objs.size=none:=iI<|aG _;exact⟨own,a9.more ml,S.more ml,_,t,u,v,rfl,S.jO iA,S.mf iA,iy _ rfl⟩
theorem afo:bk d (.ty "range") [.int n] [] st (.fW 0 n 1) st:=Da λA own s y q S ry=>by obtain⟨t,rfl⟩:=ry;exact PySem.call_range_1<|MI S
theorem afp:bk d (.ty "range") [.int a,.int b] [] st (.fW a b 1) st:=aeP λA own s y z q S ry rz=>by obtain⟨t,rfl⟩:=ry;obtain⟨u,rfl⟩:=rz;exact PySem.call_range_2<|MI S
noncomputable def cQ (x:Str):List Str:=x.cps.toList.map λc=>⟨#[c]⟩
theorem Wm {x:Str}(bn:x.length<=cX):bk d (.ty "list") [.str x] [] st (.ab st.length) (st++[.list ((cQ x).map CV.str)]):=Da λA own s y q S ry=>by
 obtain⟨t,rfl⟩:=ry;refine bC (xG (l7.mpr S.tk) (E:=λz z=>False) (Q:=λr s'=>∃h' tk oP c',(∀b o,s.heap.get? b=some o->h'.get? b=some o)∧h'.get? s.heap.objs.size=some {cls:=.type "list",dict:=none,data:=.seq oP c',slots:=#[]}∧ItemsOf (SignAt x) oP x.cps.size∧r=.ref s.heap.objs.size∧s'= {s with heap:=h',toks:=tk})
  (PySem.call_list_str q.1 x t (λh' tk oP c' hk ho hi=>⟨h',tk,oP,c',hk,ho,hi,rfl,rfl⟩) bn)) (λr s' hx=>?_) λz z x=>x.2.elim
 obtain⟨ku,h',tk,oP,c',hk,ho,hi,rfl,rfl⟩:=hx;have lz:tk≠0:=l7.mp ku;have iA:s.heap.get? s.heap.objs.size=none:=iI<|aG _;refine⟨_,a9.push hk iA,S.push hk iA λg=>⟨oP.toList,c',aqc▸ho,?_⟩,_,(by rw[<-S.len,dT<|aG _,fk];rfl),rfl⟩;obtain⟨afq,i3⟩:=hi;have key:∀(cs:List Nat) vs,vs.length=cs.length->(∀(j:Nat) v,vs[j]?=some v->∃c u,cs[j]?=some c∧v=an.str ⟨#[c]⟩ u)->aF (own++[s.heap.objs.size]) h' ((cs.map λc=>(⟨#[c]⟩)).map CV.str) vs:=λcs=>by
  induction cs with
  |nil=>intro vs hl _;rw[zT] at hl;rw[aqn.mp hl];rfl|cons c cs ih=>intro vs hl hv;cases vs with|nil=>cases hl|cons v r=>obtain⟨c',u,e1,e2⟩:=hv 0 v rfl;obtain rfl:=dE e1;exact⟨v,r,rfl,⟨u,e2⟩,ih r (by simpa using hl) λj v hj=>by simpa using hv (j+1) v (by simpa using hj)⟩
 refine key x.cps.toList oP.toList (by simpa using afq) λj v hj=>?_;obtain⟨c,u,e1,e2⟩:=i3 j v (by simpa using hj);exact⟨c,u,by simpa using e1,e2⟩
end
end
section
variable {d:Nat}{c:aY}
theorem Wn:∀{ns:List Int} {vs} {i} {v:an},aF own h (ns.map CV.int) vs->vs[i]?=some v->∃t,v=.int (ns.getD i 0) t
 |[],x,i,v,e,h=>by subst e;exact nS h|n::ns,x,0,v,⟨y,r,e,⟨t,ht⟩,hr⟩,h=>by subst e;obtain rfl:=dE h;exact⟨t,ht⟩|n::ns,x,i+1,v,⟨y,r,e,u,hr⟩,h=>by subst e;obtain⟨t,ht⟩:=Wn hr (by simpa using h);exact⟨t,by simpa using ht⟩
theorem GW {own:List ai}{h:bf}{ns:List Int}{vs:List an}{i:Nat}{v:an}(hr:aF own h (ns.map CV.int) vs)(hv:vs.toArray[i]?=some v):∃t,v=.int (ns.getD i 0) t:=Wn hr<|Rj.symm.trans hv
theorem MJ (ns:List Int):∀j,j<=ns.length->preSum (λi=>ns.getD i 0) j=(ns.take j).sum
 |0,x=>by simp [preSum]|j+1,h=>by have hj:j<ns.length:=ah [_,_] (.le (.a .o .j) .i<|.gt .o .i) rfl h;rw[preSum,MJ ns j<|xN hj,<-List.take_append_getElem hj,List.sum_append,Rv,List.sum_nil];simp [hj]
section
variable {st:List ae}{k:Nat}{ns:List Int}
inductive afr (s:az)(i:Int)(r:an)(s':az):Prop|mk (h':bf) (tk t':Tok) (hk:∀b o,s.heap.get? b=some o->h'.get? b=some o) (e:r=.int i t') (e':s'= {s with heap:=h',toks:=tk})
theorem Tr.MK {A:Around}{own:List ai}{s:az}{m:Sem an}{i:Int}(S:Sx own st s)(h:be (aQ X.prog X.w) A m (afr s i) (λu u=>False) s):Tr A own s m (PV st (.int i)):=
 bC (xG (l7.mpr S.tk) h) (λr s' hx=>by obtain⟨ku,h',tk,t',ql,rfl,rfl⟩:=hx;have lz:=l7.mp ku;exact⟨own,a9.more ql,S.more ql,_,rfl⟩) λu u x=>x.2.elim
theorem ML {hp:bf}{o:Obj}{a:ai}(ha:a<hp.objs.size):∀b∈[hp.objs.size,a],b<(hp.push o).objs.size:=λb hb=>by
 rw[E8];rcases pO.mp hb with e|e
 ·exact e▸rg _
 exact gV.mp e▸pT ha
theorem MM {hp h':bf}{n:Nat}{o:Obj}(hn:hp.objs.size<=n)(ql:∀b o',b∉[n]->(hp.push o).get? b=some o'->h'.get? b=some o'):∀b o',hp.get? b=some o'->h'.get? b=some o':=λb o' e=>
 ql b o' (λhb=>absurd (sE e)<|Rw.mpr<|gV.mp hb▸hn) (fT _ e)
theorem afs (hk:st[k]?=some (.list (ns.map CV.int)))(hf:∀j,j<ns.length->InLong (ns.getD j 0)∧InLong ((ns.take (j+1)).sum)):bk d (.bi "sum") [.ab k] [] st (.int ns.sum) st:=wy λA own s y q S ry=>by obtain⟨a,vs,n,rfl,ha,ho,hr,hl⟩:=S.kY hk ry;rw[aV] at hl;have hL:s.heap.IsList a vs.toArray:=⟨_,ho,rfl,n,rfl⟩;refine Tr.MK S<|call_sum_walk<|abn hL ⟨_,_,_,_,_,_,λi=>ns.getD i 0,rfl,Walks.list (A:=A.in1) q.1 _ a (pQ<|sE ho) vs.toArray,⟨⟨_,iy _ rfl,rfl,rfl⟩,hL.push _⟩,ML<|sE ho,λi v hv=>GW hr hv,λj hj=>?_,λh' tk t' ql=>⟨h',tk,t',MM (aG _) ql,(by rw[show vs.toArray.size=ns.length from hl.symm,MJ ns _<|aG _,B7]),rfl⟩⟩;have nW:=Kn hj hl.symm;exact MJ ns (j+1) nW▸hf j nW
theorem MN {j:Nat} h:ns.getD j 0=ns[j]:=by rw[ed,bA h];rfl
end
end
section
variable {d:Nat}{c:aY}
section
variable {st:List ae}{k:Nat}{x y:Str}
theorem yx:gM d "join" (.str x) st (.bi "str.join") [.str x]:=λA own s v pl q S r=>by obtain⟨t,rfl⟩:=r;exact GM.join ⟨own,.refl,S,rfl,_,_,rfl,⟨t,rfl⟩,rfl⟩
theorem MO:gM d "lower" (.str x) st (.bi "str.lower") [.str x]:=λA own s v pl q S r=>by obtain⟨t,rfl⟩:=r;exact GM.lower ⟨own,.refl,S,rfl,_,_,rfl,⟨t,rfl⟩,rfl⟩
theorem yy:gM d "count" (.str x) st (.bi "str.count") [.str x]:=λA own s v pl q S r=>by obtain⟨t,rfl⟩:=r;exact GM.count ⟨own,.refl,S,rfl,_,_,rfl,⟨t,rfl⟩,rfl⟩
theorem afw:gM d "replace" (.str x) st (.bi "str.replace") [.str x]:=λA own s v pl q S r=>by obtain⟨t,rfl⟩:=r;exact GM.replace ⟨own,.refl,S,rfl,_,_,rfl,⟨t,rfl⟩,rfl⟩
theorem Wq:∀{ss:List Str} {vs:List an},aF own h (ss.map CV.str) vs->∃l:List (Str×Tok),vs=strValues l∧l.map (·.1)=ss
 |[],x,e=>by subst e;exact⟨[],rfl,rfl⟩|s::ss,x,⟨v,r,e,⟨t,ht⟩,hr⟩=>by subst e;obtain⟨l,h1,h2⟩:=Wq hr;exact⟨(s,t)::l,by rw[ht,h1];rfl,by rw[<-h2];rfl⟩
theorem AR {ss:List Str}(hk:st[k]?=some (.list (ss.map CV.str)))(mZ:zU x ss=true):bk d (.bi "str.join") [.str x,.ab k] [] st (.str (gY x ss)) st:=uG λA own s y z q S ry rz=>by obtain⟨t,rfl⟩:=ry;obtain⟨a,vs,n,rfl,ha,ho,hr,hl⟩:=S.kY hk rz;obtain⟨l,h1,h2⟩:=Wq hr;subst h1;refine bC (xG (l7.mpr S.tk) (E:=λu u=>False) (Q:=λr s'=>∃t' k,r=.str (gY x ss) t'∧s'= {s with toks:=k})<|SC.join ⟨_,ho,rfl,n,rfl⟩ h2 mZ λt' k=>⟨t',k,rfl,rfl⟩) (λr s' hx=>?_) λu u x=>x.2.elim;obtain⟨ku,t',k,rfl,rfl⟩:=hx;have lz:k≠0:=l7.mp ku;exact⟨own,.toks,S.toks _,_,rfl⟩
theorem MP:bk d (.bi "str.count") [.str x,.str y] [] st (.int (sM x y)) st:=uG λA own s y z q S ry rz=>by obtain⟨t,rfl⟩:=ry;obtain⟨u,rfl⟩:=rz;exact vU F.slot_str_count (Fe s x t) F.entry_str_count (F.args_str_count_2 _ _) (gives_str_count x y t u).meets ⟨own,.toks,S.toks _,_,rfl⟩
theorem Wr (h:pU (bZ x).length=false):bk d (.bi "str.lower") [.str x] [] st (.str (bZ x)) st:=wy λA own s y q S ry=>by obtain⟨t,rfl⟩:=ry;exact vU F.slot_str_lower (Fe s x t) F.entry_str_lower (F.args_str_lower_1 _) (gives_str_lower x t h).meets ⟨(by have:=h;simp [pU] at this;exact this),own,.toks,S.toks _,_,rfl⟩
theorem Ws:bk d (.ty "type") [.str x] [] st (.ty "str") st:=Da λA own s y q S ry=>by obtain⟨t,rfl⟩:=ry;exact call_type_of (Fe s x t) rfl ⟨own,.refl,S,rfl⟩
theorem Wt (hk:st[k]?=some (.list xs)):bk d (.ty "type") [.ab k] [] st (.ty "list") st:=Da λA own s y q S ry=>by obtain⟨a,vs,n,rfl,ha,ho,hr,hl⟩:=S.kY hk ry;exact call_type_of ⟨_,ho,rfl⟩ rfl ⟨own,.refl,S,rfl⟩
end
end
section
variable {d:Nat}{c:aY}
theorem gm.get {own:List ai}{h:bf}{x:Str}{c:CV}:∀{es} {dA},gm own h es dA->es.lookup x=some c->∃v,getL x dA=some (some v)∧RelV own h c v
 |[],o,e,h=>by exact nS h|(y,c')::es,o,⟨t,v,r,e,hv,hr⟩,h=>by
  subst e;rw[nD] at h;unfold getL;rw[vV];by_cases hx:x=y
  ·subst hx;simp [beq_self_eq_true,aqm] at h;subst h;rw[show(an.str x t).isStr x=true by simp [Kq]];exact⟨v,rfl,hv⟩
  rw[beq_eq_false_iff_ne.mpr hx] at h;rw[show(an.str y t).isStr x=false by simp [Kq];exact λe=>hx e.symm];obtain⟨u,h1,h2⟩:=gm.get hr h;refine⟨u,?_,h2⟩;unfold getL at h1;simp only;revert h1;cases List.find? (λe=>e.key.isStr x) r with|some e=>exact λh1=>h1|none=>simp only [Fb];intro h1;split at h1<;>cases h1
theorem gm.refKey:∀{es:List (Str×CV)} {dA:List nC},gm own h es dA->dA.any (·.refKey)=false
 |[],x,e=>by subst e;rfl|(y,c')::es,x,⟨t,v,r,e,hv,hr⟩=>by subst e;rw[Fb,gm.refKey hr];rfl
theorem gm.Wu {x:Str}:∀{es} {dA},gm own h es dA->es.lookup x=none->getL x dA=some none:=by
 intro es dA hr hl;have AS:=hr.refKey;have:dA.find? (λe=>e.key.isStr x)=none:=by
  revert hl hr;clear AS;induction es generalizing dA with
  |nil=>intro e _;subst e;rfl|cons p es ih=>
   obtain⟨y,c'⟩:=p;rintro ⟨t,v,r,e,hv,hr⟩ hl;subst e;rw[nD] at hl;rw[vV];by_cases hx:x=y
   ·subst hx;simp at hl
   rw[beq_eq_false_iff_ne.mpr hx] at hl;rw[show(an.str y t).isStr x=false by simp [Kq];exact λe=>hx e.symm];exact ih hr hl
 unfold getL;rw[this,AS];rfl
theorem gm.MQ {own:List ai}{h:bf}{x:Str}{tk:Tok}{c:CV}{y:an}(hy:RelV own h c y):∀{es} {dA},gm own h es dA->gm own h (mj es x c) (putL x (q8 X.w.params x) (.str x tk) y dA)
 |[],u,e=>by subst e;exact⟨tk,y,[],rfl,hy,rfl⟩|(z,c')::es,u,⟨t,v,r,e,hv,hr⟩=>by
  subst e;rw[Ur,putL];by_cases hx:x=z
  ·subst hx;rw[if_pos (by simp),if_pos<|by simp [Kq]];exact⟨t,y,r,rfl,hy,hr⟩
  rw[if_neg (by simpa using hx),if_neg<|by simp [Kq];exact λe=>hx e.symm];exact⟨t,v,_,rfl,hv,gm.MQ hy hr⟩
theorem gm.len:∀{es} {dA},gm own h es dA->dA.length=es.length
 |[],x,e=>by subst e;rfl|(y,c')::es,x,⟨t,v,r,e,hv,hr⟩=>by subst e;simp [gm.len hr]
noncomputable def GX:CV->Bool
 |.bi x=>false|_=>true
theorem Wv {own:List ai}{h:bf}{c:CV}{v:an}(hb:GX c=true)(r:RelV own h c v):handedIn v=true:=by cases c<;>first|(cases hb;done)|(exact False.elim r)|(cases r;rfl)|(obtain⟨t,rfl⟩:=r;rfl)|(obtain⟨t,_,rfl⟩:=r;rfl)|(obtain⟨t,_,_,rfl,_⟩:=r;rfl)|(obtain⟨t,_,rfl,_⟩:=r;rfl)|(obtain⟨t,_,_,_,rfl,_⟩:=r;rfl)
structure wC (C:ai):Prop where
 get:plainGet X.K C "" = true
 dict:hasDictIn X.K C=true
 set:xJ X.K (.ref C) "__setattr__" = some (some (.builtin "object.__setattr__"))
 over:plainOver X.K C=true
section
variable {st:List ae}{k dd:Nat}{C:ai}{es:List (Str×CV)}{name:Str}
theorem GY (S:Sx own st s)(hk:st[k]?=some (.bE C dd))(hd:st[dd]?=some (.bt es))(ha:own[k]?=some a):∃dx dA n,own[dd]?=some dx∧InstAt s.heap a (instObj C dx) C (some (BY dA n))∧s.heap.get? dx=some (BY dA n)∧gm own s.heap es dA:=by obtain⟨a',b8,dx,qw,ho⟩:=S.bD hk;rw[ha] at b8;obtain rfl:=dE b8;obtain⟨dx',De,dA,n,m4,hr⟩:=S.bD hd;rw[qw] at De;obtain rfl:=dE De;exact⟨dx,dA,n,qw,⟨ho,rfl,rfl,m4⟩,m4,hr⟩
theorem MR (Y:wC C)(hk:st[k]?=some (.bE C dd))(hd:st[dd]?=some (.bt es))(hv:es.lookup name=some v)(ha:xJ X.K (.ref C) name=some yz)(hn:noGet X.K yz=true)(hb:GX v=true):rG d name (.ab k) st v st:=λA own s x q S r=>by obtain⟨a,uK,rfl⟩:=r;obtain⟨dx,dA,n,qw,I,m4,hr⟩:=GY S hk hd uK;obtain⟨u,hu,ru⟩:=hr.get hv;exact get_value (vS S.ok.k S.bj) I (Kr Y.get).1 (findObj_own Y.dict ha hn<|by rwa[Rx]) (Wv hb ru) ⟨own,.toks,S.toks _,ru⟩
theorem ta (Y:wC C)(hk:st[k]?=some (.bE C dd))(hd:st[dd]?=some (.bt es))(hv:es.lookup name=none)(hf:xJ X.K (.ref C) name=some (some (.ref f)))(ht:typeIn X.K (.ref f)=some (.type "function")):gM d name (.ab k) st (.aH f) [.ab k]:=λA own s x pl q S r=>by obtain⟨a,uK,rfl⟩:=r;obtain⟨dx,dA,n,qw,I,m4,hr⟩:=GY S hk hd uK;exact method_fn (vS S.ok.k S.bj) I (Kr Y.get).1 (Kr Y.get).2 hf ht (by show(lookIn name<|BY dA n).map _=_;rw[Rx,hr.Wu hv];rfl) ⟨own,.refl,S,rfl,_,_,rfl,⟨a,uK,rfl⟩,rfl⟩
end
end
section
variable {d:Nat}{c:aY}
section
variable {st:List ae}{k dd:Nat}{C:ai}{es:List (Str×CV)}{name:Str}
theorem GZ (Y:wC C)(hk:st[k]?=some (.bE C dd))(hd:st[dd]?=some (.bt es))(ht:takerIn X.K C name=some none)(bn:es.length<=999):uA d name (.ab k) v st (st.set dd (.bt (mj es name v))):=λA own s x y q S r rv=>by
 obtain⟨a,uK,rfl⟩:=r;obtain⟨dx,dA,n,qw,I,m4,hr⟩:=GY S hk hd uK;have KI:=vS S.ok.k S.bj;refine set_plain KI I Y.set<|osa_open KI I Y.over ht λb=>?_;obtain⟨cd,hc,mh⟩:=any_some Y.dict;obtain⟨hx,-,-,-⟩:=I;have G0:(instObj C dx).dict=some dx:=rfl;dsimp only;refine aB<|bH<|aB<|aB<|B8 hx<|aB<|Looks.here (looks_clsIn KI hc) ?_;rw[mh];refine bH<|aB<|bH<|aB ?_;refine aB<|aB<|abr<|bH<|aB<|B1<|aB<|B8 m4 ?_;dsimp only;have Df:(!(dA.toArray).any (·.key.isStr name)&&(dA.toArray).any (·.refKey))=false:=by rw[<-Array.any_toList,<-Array.any_toList,aqp,hr.refKey,abC]
 rw[aRefKeyMayBeTheName_at,Df];have e:=putName_dict name (q8 X.w.params name) (.str name<|s.toks+1) y dA n;have Dg:(s.heap.update dx<|Ry name (q8 X.w.params name) (.str name<|s.toks+1) y).get? dx=some (BY (putL name (q8 X.w.params name) (.str name<|s.toks+1) y dA)<|putN name dA n):=by rw[E9 _ m4 (by rw[e];rfl),e]
 refine wpAny_updatePart m4 ?_;have x8:(putL name (q8 X.w.params name) (.str name<|s.toks+1) y dA).length<=1000:=by
  have:∀l,(putL name (q8 X.w.params name) (.str name<|s.toks+1) y l).length<=l.length+1:=λl=>by induction l with|nil=>simp [putL]|cons e r ih=>rw[putL];split<;>simp<;>omega
  exact ah [_,_,_] (.eq .o .i<|.le .i (.n 999)<|.le .u (.a .o .j)<|.gl .u<|.n 1000) rfl hr.len bn (this dA)
 refine aB<|wpAny_lookBehind Dg (pastItsLine_dict<|ig▸vW▸ah [_,_] (.le .o (.n 1000)<|.gl .o<|.a (.n 16777216) .i) rfl x8) ?_;apply bH;have hs:f6 dx s.heap (s.heap.update dx<|Ry name (q8 X.w.params name) (.str name<|s.toks+1) y):=(rj ..).extBut;exact⟨own,a9.set S qw hs,S.set qw hs λg=>⟨_,_,Dg,gm.MQ (rv.aM g)<|hr.aM g⟩⟩
end
end
section
variable {d:Nat}{c:aY}
theorem afy (q:Rm (d+1) A):Rm d (A.under (.builtin "type.__call__" ⟨.ref C::rest,kw⟩)):=by
 refine⟨q.1,?_,?_⟩
 ·show A.depth+1+d<Ka;have:=q.2.1;exact KJ this
 have h:(Code.builtin "type.__call__" ⟨.ref C::rest,kw⟩).cUnits=1:=rfl;exact ah [_,_,_,_,_] (.lt (.a .o<|.m 8<|.a .i .u) .w<|.eq .x .u<|.gt (.a (.a .o .x)<|.m 8 .i) .w) rfl q.2.2 h
section
variable {st ag:List ae}{C fI:ai}{args:List CV}{kw:List (Str×CV)}
theorem MS (hm:makesIn X.K C=true)(hi:xJ X.K (.ref C) "__init__"=some (some (.ref fI)))(hf:typeIn X.K (.ref fI)=some (.type "function")) (h:bM d (.aH fI) (.ab (st.length+1)::args) kw (st++[.bt [],.bE C st.length]) .none ag):bM (d+1) (.aH C) args kw st (.ab (st.length+1)) ag:=λA own s fv ws ks q S fQ cx di=>by
 subst fQ;have KI:=vS S.ok.k S.bj;have afz:∀b o,s.heap.get? b=some o->((s.heap.push emptyDict).push<|instObj C s.heap.objs.size).get? b=some o:=λb o e=>fT _<|fT _ e;have bn:(s.heap.push emptyDict).objs.size=s.heap.objs.size+1:=E8 ..;have iA:∀a,s.heap.objs.size<=a->s.heap.get? a=none:=λa h=>iI h;obtain⟨S',E',g⟩:=S.Gq (as:=[s.heap.objs.size,s.heap.objs.size+1]) (os:=[.bt [],.bE C st.length]) afz (λa ha=>by
  rcases pO.mp ha with e|ha
  ·exact iA _<|ll e.symm
  ·exact gV.mp ha▸iA _ (ke _)) (by
  refine zJ.mpr ⟨λhm=>?_,by simp⟩;exact absurd (gV.mp hm)<|pQ<|rg _) rfl (λg i o a e1 e2=>by
  match i,e1,e2 with
  |0,e1,e2=>obtain rfl:=dE e1;obtain rfl:=dE e2;exact⟨[],0,fT _<|iy _ rfl,rfl⟩|1,e1,e2=>obtain rfl:=dE e1;obtain rfl:=dE e2;refine⟨s.heap.objs.size,(by rw[<-S.len,dT<|aG _,fk];rfl),?_⟩;exact bn▸iy _ rfl|n+2,e1,e2=>exact nS e1)
 have C2:(own++[s.heap.objs.size,s.heap.objs.size+1])[st.length+1]?=some (s.heap.objs.size+1):=by rw[<-S.len,dT<|ke _,Ks<|aG _,fk];rfl
 apply make_core (makes_of KI hm) (looks_findIn KI hi) (λqf=>bind_fn KI qf hf)<|.inl rfl;refine pS (h (A.under<|.builtin "type.__call__" ⟨.ref C::ws,ks⟩) _ _ _ (.ref (s.heap.objs.size+1)::ws) ks (afy q) S' rfl ⟨_,_,rfl,⟨_,C2,rfl⟩,aF.aM g _ cx⟩ (di.aM g)) λr s' hp=>?_;cases r with
 |error e=>exact hp|ok f=>cases f with|ret v=>obtain⟨av,bX,bw,rv⟩:=hp;exact⟨rv,av,E'.trans bX,bw,_,bX.aM.bD _ _ C2,rfl⟩|_=>exact hp
theorem bM.at aU (h:bM d wt wu ww iE s6 qm)(hn:aU.Nodup)(hs:g4 aU st=some iE)(hf:f.bI (eW aU)=some wt)(ha:CV.gn (eW aU) args=some wu)(hk:jh (eW aU) kw=some ww)(hb:uE aU st qm=some ag)(hv:s6.bI (jT aU st.length)=some v):bM d f args kw st v ag:=λA own s fv vs ks q S fQ cx di=>by
 have aZ:∀k∈aU,k<own.length:=λk hk=>S.len▸yj hs k hk;have R:=C6 (h:=s.heap) aZ;refine pS (h A _ s fv vs ks q (S.aU hn hs) (RelV.bI R f hf fQ) (aF.bI R args ha cx)<|cf.mv R.mv hk di) λr s' hp=>?_;cases r with
 |error e=>exact hp|ok fl=>cases fl with|ret x=>obtain⟨mV,E,S',r⟩:=hp;obtain⟨r',e,E',C7,R'⟩:=S.sU hn hs E S' hb;exact⟨_,E',C7,RelV.bI R' s6 hv r⟩|_=>exact hp
theorem bM.qr (h:bM d f args kw st v aJ)(k:GI st.length aJ v ag v'):bM d f args kw st v' ag:=λA own s fv vs ks q S fQ cx di=>by
 refine pS (h A own s fv vs ks q S fQ cx di) λr s' hp=>?_;cases r with
 |error e=>exact hp|ok fl=>cases fl with|ret x=>obtain⟨aS,E,bw,r⟩:=hp;obtain⟨av,E',S',_,_,k'⟩:=k.ext rfl S E bw;exact⟨av,E',S',k' x r⟩|_=>exact hp
theorem cK (h:jz X.K (.ref a)=true):oM (.aH a) st:=λown s x S r=>by subst r;obtain⟨k,_,hl⟩:=looks_keep h<|vS S.ok.k S.bj;exact⟨k,hl⟩
end
end
section
variable {d:Nat}{c:aY}
theorem afA {o:aq}{x a b:Str}{mn pos iC kT:Pos}{wD tc:Nat}{st aw:List ae}(hb:xY o=true)(ho:a8 d c o st (.str x) aw)(xZ:mn.endLine=pos.line)(oQ:(a==b)=false)(hx:x.length<=1048576)(hz:b.length<=14):a8 d c (.Call (.Attribute o "replace" mn) [.Constant (.str a) wD iC,.Constant (.str b) tc kT] [] pos) st (.str (sN x a b)) aw:=λA own s env q S R=>by
 rw[arm_eval_Call];refine(Lr hb<|ho A own s env q S R).bind λaO ov s₁ bF ⟨bq,cx⟩=>Tr.eh ?_;unfold methodCall;have hs:∀e∈([.Constant (.str a) wD iC,.Constant (.str b) tc kT]:List aq),∀x p,e≠.Starred x p:=λe he y p h=>by
  subst h;rcases pO.mp he with h|h
  ·cases h
  rw[gV] at h;cases h
 have few:Rb (([.Constant (.str a) wD iC,.Constant (.str b) tc kT]:List aq).length+([]:List ub).length) (pP pos<|l6 [.Constant (.str a) wD iC,.Constant (.str b) tc kT] env) (vO pos<|vP [] env)=true:=by rfl
 rw[few];refine(Tr.holding<|afw A aO s₁ ov _ q bq cx).bind λaS ff aR cY ⟨bw,di,ya⟩=>?_;obtain⟨fv,fs⟩:=ff;have e:methodCallPos true o env mn pos=pure pos:=by exact if_pos (by rw[xZ];simp)
 dsimp only;rw[e,pure_bind];delta callWith;have args:Tr A aS aR (Ke fv true (pP pos<|l6 [.Constant (.str a) wD iC,.Constant (.str b) tc kT] env)<|vO pos<|vP [] env) λav p s'=>Sx av aw s'∧∃t u,p=⟨[.str a t,.str b u],[]⟩∧t≠0∧u≠0∧t≠u:=by
  have sp:Tr A aS aR (zO<|(false,d9 (.Constant (.str a) wD iC) env)::pP pos (l6 [.Constant (.str b) tc kT] env)) λav p s'=>Sx av aw s'∧∃t u,p=[.str a t,.str b u]∧t≠0∧u≠0∧t≠u:=by
   rw[Lw];refine Tr.bind (P:=λav v s'=>av=aS∧v=.str a aR.toks∧s'= {aR with toks:=aR.toks+1}) ?_ λdt v bu jP ⟨h1,h2,h3⟩=>?_
   ·rw[arm_eval_Constant];exact B1 ⟨aS,.toks,rfl,rfl,rfl⟩
   subst h1;subst h2;subst h3;have e2:pP pos (l6 [.Constant (.str b) tc kT] env)=(false,d9 (.Constant (.str b) tc kT) env)::pP pos (l6 [] env):=rfl;rw[e2,Lw];refine Tr.bind (P:=λav vs s'=>Sx av aw s'∧vs=[.str b<|aR.toks+1]) (Tr.holding ?_) λqk vs kq Ay ⟨jQ,h4⟩=>?_
   ·refine Tr.bind (P:=λav v s'=>Sx av aw s'∧v=.str b (aR.toks+1)) ?_ λqk v kq Ay ⟨jQ,h4⟩=>?_
    ·rw[arm_eval_Constant];exact B1 ⟨dt,.toks,(bw.toks<|aR.toks+1).toks<|aR.toks+1+1,rfl⟩
    subst h4;exact(Tr.holding<|Tr.pure (P:=λav vs s'=>Sx av aw s'∧vs=[]) ⟨jQ,rfl⟩).bind λx0 vs nM UN ⟨nR,h5⟩=>by subst h5;exact Tr.pure ⟨nR,rfl⟩
   subst h4;exact Tr.pure ⟨jQ,_,_,rfl,bw.tk,ka _,pQ<|rg _⟩
  refine sp.bind λdt p bu jP ⟨cF,t,u,hp,h1,h2,h3⟩=>Tr.holding ?_;subst hp;exact Tr.pure ⟨cF,t,u,rfl,h1,h2,h3⟩
 refine(Tr.holding args).bind λdt p bu jP ⟨cF,t,u,hp,h1,h2,h3⟩=>Tr.eh ?_;subst hp;have afC:((pP pos<|l6 [.Constant (.str a) wD iC,.Constant (.str b) tc kT] env).any (·.1)||(vO pos<|vP [] env).any (·.1.isNone))=false:=rfl;rw[afC];subst di;obtain⟨_,_,hfs,⟨w,hw⟩,jD⟩:=ya;subst jD;subst hw;subst hfs;apply Ls<|Rq rfl;refine bC (xG (l7.mpr cF.tk) (E:=λz z=>False) (Q:=λr s'=>∃t' k,r=.str (sN x a b) t'∧s'= {bu with toks:=k})<|SC.replaceW h1 h2 h3 oQ hx hz λt' k=>⟨t',k,rfl,rfl⟩) (λr s' hx=>?_) λz z x=>x.2.elim;obtain⟨ku,t',k,rfl,rfl⟩:=hx;have lz:k≠0:=l7.mp ku;exact⟨dt,.toks,cF.toks _,_,rfl⟩
end
section
structure EP where
 es:List aq:=[]
 gs:List oF:=[]
 sc:d8:=default
 ar:pL:=default
 ks:List aq:=[]
 p:Pos:=default
 Ww:Bool:=false
noncomputable def ep:aq->EP
 |.ListComp e g s p=>{es:=[e],gs:=g,sc:=s,p:=p}|.DictComp k v g s x=>{es:=[k,v],gs:=g,sc:=s}|.Call x es ks u=>{es:=es,ks:=ks.map (·.value)}|.BinOp l x r u=>{es:=[l,r]}|.Tuple es x u=>{es:=es}|.Compare l x rs u=>{es:=l::rs}|.BoolOp x es u=>{es:=es}|.Lambda a b s x=>{es:=[b],sc:=s,ar:=a,Ww:=true}|.Subscript o x u=>{es:=[o]}|.Name x p=>{p:=p}|_=>{}
def ew (e:aq)(n:Nat):aq:=(ep e).es.getD n default
def uL (e:aq):oF:=(ep e).gs.headD default
def kZ (e:aq):aq:=(uL e).iter
def wE (e:aq):aq:=(uL e).ifs.headD default
def fH (e:aq):d8:=(ep e).sc
def AT (e:aq):Pos:=(ep e).p
def Wx (e:aq):aq:=(ep e).ks.headD default
structure G1 where
 args:pL
 body:aq
 scope:d8
noncomputable def MT (q:EP):G1:=⟨q.ar,q.es.headD default,q.sc⟩
structure SP where
 k:Nat:=0
 e:aq:=default
 t:aq:=default
 b:List bl:=[]
 o:List bl:=[]
 p:Pos:=default
noncomputable def sp:bl->SP
 |.Assign u e z=>{e:=e}|.Expr e u=>{e:=e}|.Return e p=>{k:=4,e:=e.getD default,p:=p}|.If t x y u=>{e:=t,b:=x,o:=y}|.While t x u z=>{k:=2,e:=t,b:=x}|.For t i x u z=>{k:=1,e:=i,t:=t,b:=x}|_=>{}
def yA (k:Nat)(b:List bl):SP:=((b.map sp).find? λs=>s.k==k).getD {}
noncomputable def g7 (b:List bl)(n:Nat):bl:=b[n]?.getD default
def iL (s:bl):aq:=(sp s).e
def rO (b:List bl)(n:Nat):List bl:=(sp (g7 b n)).b
def rP (b:List bl)(n:Nat):List bl:=(sp (g7 b n)).o
def mx (b:List bl):aq×List bl:=((yA 2 b).e,(yA 2 b).b)
def dc (b:List bl):aq×aq×List bl:=((yA 1 b).t,(yA 1 b).e,(yA 1 b).b)
def eY (b:List bl)(n:Nat):G1:=MT (((b.map λs=>ep (sp s).e).filter (·.Ww)).getD n {})
variable {d:Nat}{c:aY}
theorem aW {body:List bl}{st ag:List ae}{sc mm:List iB}{f:cZ}{ob:List Prop}(h:RZ.out (Go d 99 c body ⟨st,sc,[]⟩)=some (f,⟨ag,mm,ob⟩))(k:Z.ok ⟨ag,mm,ob⟩):aI d c body st f ag:=EZ.run h k
theorem dk {e:aq}{st ag:List ae}{sc mm:List iB}{v:CV}{ob:List Prop}(h:RZ.out (fh d 99 c e ⟨st,sc,[]⟩)=some (v,⟨ag,mm,ob⟩))(k:Z.ok ⟨ag,mm,ob⟩):a8 d c e st v ag:=EZ.run h k
theorem nX {e:aq}{st ag:List ae}{sc mm:List iB}{b:Bool}{ob:List Prop}(h:RZ.out (CM d 99 c e ⟨st,sc,[]⟩)=some (b,⟨ag,mm,ob⟩))(k:Z.ok ⟨ag,mm,ob⟩):fx d c e st b ag:=EZ.run h k
theorem i4 {t:aq}{v:CV}{st ag:List ae}{sc mm:List iB}{ob:List Prop}(h:RZ.out (Gn d 99 c t v ⟨st,sc,[]⟩)=some ((),⟨ag,mm,ob⟩))(k:Z.ok ⟨ag,mm,ob⟩):dj d c t v st ag:=EZ.run h k
end
section
variable {d:Nat}{c:aY}
def nY (d:Nat)(target:aq)(k:Nat)(st:List ae)(v:Option CV)(ag:List ae):Prop:=∀A own s a (R:Option an->az->Prop),Rm d A->Sx own st s->own[k]?=some a->(∀av r s',a9 own s av s'->Sx av ag s'->kQ av s'.heap v r->R r s')->be (aQ X.prog X.w) A (l8 (.ref a)) (λr s₁=>match r with
   |none=>R none s₁|some y=>be (aQ X.prog X.w) A (ri target (.ref a) y) (λx aR=>R (some y) aR) (λx x=>False) s₁) (λx x=>False) s
def G3 (d:Nat)(k:Nat)(st:List ae):Prop:=∀A own s a (Q:an->az->Prop),Rm d A->Sx own st s->own[k]?=some a->Q (.ref a) s->be (aQ X.prog X.w) A (ud (.ref a)) Q (λx x=>False) s
inductive te (d:Nat)(c:aY)(target:aq)(body:List bl)(k:Nat):List ae->cZ->List ae->Prop|jk {st aw}:nY d target k st none aw->te d c target body k st .next aw|cons {st v aw aJ f cE f' mS}:nY d target k st (some v) aw->dj d c target v aw aJ->aI d c body aJ f cE->(f=.next∨f=.cont)->te d c target body k cE f' mS->te d c target body k st f' mS|brk {st v aw aJ cE}:nY d target k st (some v) aw->dj d c target v aw aJ->aI d c body aJ .brk cE->te d c target body k st .next cE|ret {st v aw aJ u cE}:nY d target k st (some v) aw->dj d c target v aw aJ->aI d c body aJ (.ret u) cE->te d c target body k st (.ret u) cE
theorem afE {target:aq}{body:List bl}{k:Nat}{st ag:List ae}{f:cZ}(h:te d c target body k st f ag):∀{A bx aT own s a env},Rm d A->a9 bx aT own s->Sx own st s->dK own c env->own[k]?=some a->gK (aQ X.prog X.w) A (.forLoop target (.ref a) body [] env) (x9 bx aT ag f) s:=by
 have item:∀{st aw aJ:List ae} {v:CV} {A bx aT own s a env} {R:Kc->az->Prop},nY d target k st (some v) aw->dj d c target v aw aJ->Rm d A->a9 bx aT own s->Sx own st s->dK own c env->own[k]?=some a->
  (∀aO s₁,a9 bx aT aO s₁->Sx aO aJ s₁->dK aO c env->aO[k]?=some a->
   be (aQ X.prog X.w) A (l4 body env) (λf bu=>match f with
    |.next|.cont=>gK (aQ X.prog X.w) A (.forLoop target (.ref a) body [] env) R bu|.brk=>R (.ok .next) bu|.ret v=>R (.ok<|.ret v) bu) (λu u=>False) s₁)->gK (aQ X.prog X.w) A (.forLoop target (.ref a) body [] env) R s:=by
  intro st aw aJ v A bx aT own s a env R hn ha q E S R' hk kk;refine AA (bC (hn A own s a (λr s₁=>∃y,r=some y∧be (aQ X.prog X.w) A (oE target env y) (λu aR=>be (aQ X.prog X.w) A (l4 body env) (λf bu=>match f with
   |.next|.cont=>gK (aQ X.prog X.w) A (.forLoop target (.ref a) body [] env) R bu|.brk=>R (.ok .next) bu|.ret v=>R (.ok<|.ret v) bu) (λu u=>False) aR) (λu u=>False) s₁) q S hk λaO r s₁ bK bq hr=>?_) (λr s₁ c9=>?_) λu u x=>x)
  ·obtain⟨y,rfl,hy⟩:=hr;exact⟨y,rfl,bC (ha A aO s₁ env y q bq (R'.ext bK) hy) (λu aR ⟨aS,bX,bw⟩=>kk aS aR ((E.trans bK).trans bX) bw ((R'.ext bK).ext bX)<|(bK.trans bX).aM.bD _ _ hk) λu u x=>x⟩
  cases r with|none=>obtain⟨y,e,_⟩:=c9;exact nS e|some y=>refine bC c9 (λu aR ⟨y',e,gf⟩=>?_) λu u x=>x;obtain rfl:=dE e;exact gf
 induction h with
 |jk hn=>
  intro A bx aT own s a env q E S R' hk;refine AA<|bC (hn A own s a (λr s₁=>r=none∧∃av,a9 own s av s₁∧Sx av _ s₁) q S hk λaO r s₁ bK bq hr=>⟨hr,aO,bK,bq⟩) (λr s₁ c9=>?_) λu u x=>x;cases r with
  |none=>obtain⟨_,av,bK,bq⟩:=c9;exact⟨_,av,rfl,E.trans bK,bq,rfl⟩|some y=>exact bC c9 (λu aR gf=>by cases gf.1) λu u x=>x
 |cons hn ha hx hf hr ih=>
  intro A bx aT own s a env q E S R' hk;refine item hn ha q E S R' hk λaO s₁ bK bq uM tf=>?_;refine bC (hx A aO s₁ env q bq uM) (λfl aR ⟨aS,bX,bw,rf⟩=>?_) λu u x=>x;have go:=ih q (bK.trans bX) bw (uM.ext bX)<|bX.aM.bD _ _ tf;rcases hf with rfl|rfl
  ·subst rf;exact go
  subst rf;exact go
 |brk hn ha hx=>intro A bx aT own s a env q E S R' hk;refine item hn ha q E S R' hk λaO s₁ bK bq uM tf=>?_;refine bC (hx A aO s₁ env q bq uM) (λfl aR ⟨aS,bX,bw,rf⟩=>?_) λu u x=>x;subst rf;exact⟨_,aS,rfl,bK.trans bX,bw,rfl⟩|ret hn ha hx=>intro A bx aT own s a env q E S R' hk;refine item hn ha q E S R' hk λaO s₁ bK bq uM tf=>?_;refine bC (hx A aO s₁ env q bq uM) (λfl aR ⟨aS,bX,bw,rf⟩=>?_) λu u x=>x;obtain⟨x,rfl,hv⟩:=rf;exact⟨_,aS,rfl,bK.trans bX,bw,x,rfl,hv⟩
theorem MU {target iter:aq}{body:List bl}{pos:Pos}{k:Nat}{st aw ag:List ae}{f:cZ}(hs:ye iter=true)(hi:a8 d c iter st (.ab k) aw)(hI:G3 d k aw) (h:te d c target body k aw f ag):dB d c (.For target iter body [] pos) st f ag:=λA own s env q S R=>by refine wpAny_For (bC (hi A own s env q S R) (λx s₁ ⟨aO,bK,bq,cx⟩=>?_) λu u x=>x)<|AD hs;obtain⟨a,ha,rfl⟩:=cx;apply hI A aO s₁ a _ q bq ha;refine pS (afE h q bK bq (R.ext bK) ha) λr s' ⟨fl,av,e,E',S',rf⟩=>?_;subst e;exact⟨av,E',S',rf⟩
theorem Wy:Slot "callable_iterator" "__iter__" "callable_iterator.__iter__":=
 .of (owner:="callable_iterator") (n:="__iter__") (by rw[B9,B'];kernel_rfl) (by decide +kernel) (by decide +kernel) (by decide +kernel)
  (by exact .inl<|by decide +kernel) (by rw[Rz];kernel_rfl)
theorem Dh:Slot "callable_iterator" "__next__" "callable_iterator.__next__":=
 .of (owner:="callable_iterator") (n:="__next__") (by rw[B9,B'];kernel_rfl) (by decide +kernel) (by decide +kernel) (by decide +kernel)
  (by exact .inl<|by decide +kernel) (by rw[Rz];kernel_rfl)
theorem Wz:Fg table "callable_iterator.__next__"=some Builtin.«callable_iterator.__next__»:=RA (by kernel_rfl)
theorem afF:Fg table "callable_iterator.__iter__"=some Builtin.«dict_keyiterator.__iter__»:=
 entryFor_alias (id':="dict_keyiterator.__iter__") (by kernel_rfl) (by rfl) (by decide +kernel) (by kernel_rfl)
theorem WA a:argsOk "callable_iterator.__next__" ⟨[a],[]⟩:=by kernel_rfl
end
section
variable {d:Nat}{c:aY}{st ag:List ae}
theorem afH {M:Model}{A:Around}{E:an->az->Prop}{s:az}{f:an}{pos:List an}{Q:an->az->Prop} (hc:gK M A (.call f ⟨pos,[]⟩) (λr s'=>match r with|.ok (.ret v)=>Q v s'|.ok u=>False|.error e=>E e s') s):be M A (callBorrowed f pos) Q E s:=λΓ p hΓ=>by unfold callBorrowed;rw[Sem.wp_call];refine wpCode_mono (λr s' h=>?_)<|hc _ p rfl (hΓ.enter (.call f ⟨pos,[]⟩) none p<|λx=>by exact nS x);rcases r with _|(_|_|_|_)<;>exact h
theorem afI {k:Nat}(Y:wC C)(hk:st[k]?=some (.bE C dd))(hd:st[dd]?=some (.bt es))(hv:es.lookup name=none)(ha:xJ X.K (.ref C) name=some (some (.ref f)))(hf:typeIn X.K (.ref f)=some (.type "function"))(hgf:specialIn X.K (.ref f) "__get__"=some (some (.builtin "function.__get__")))(ht:takesIn X.K (.ref f)=some false)(hc:copiedNames.contains name=false):rG d name (.ab k) st (.ab st.length) (st++[.bg f k]):=λA own s x q S r=>by obtain⟨a,uK,rfl⟩:=r;obtain⟨dx,dA,n,qw,I,m4,hr⟩:=GY S hk hd uK;have KI:=vS S.ok.k S.bj;apply get_bind KI I (Kr Y.get).1 (findObj_fn Y.dict ha hgf ht hc<|by rw[Rx];exact hr.Wu hv) (Kr Y.get).2;refine Ri<|fn_get KI hf<|handed_on rfl ?_;have eV:∀b o,s.heap.get? b=some o->(s.heap.push<|methodObj (.ref f)<|.ref a).get? b=some o:=λb o e=>fT _ e;have iK:s.heap.get? s.heap.objs.size=none:=iI<|aG _;refine⟨own++[s.heap.objs.size],a9.push eV iK,S.push eV iK λg=>⟨a,g.bD _ _ uK,iy _ rfl⟩,s.heap.objs.size,?_,rfl⟩;rw[<-S.len,dT<|aG _,fk];rfl
theorem WB {f:ai}{m k:Nat}{args:List CV}{kw:List (Str×CV)}{v:CV}(hm:st[m]?=some (.bg f k))(h:bM d (.aH f) (.ab k::args) kw st v ag):bM d (.ab m) args kw st v ag:=λA own s fv vs ks q S fQ cx di=>by obtain⟨a,ha,rfl⟩:=fQ;obtain⟨a',b8,x,hx,ho⟩:=S.bD hm;rw[ha] at b8;obtain rfl:=dE b8;exact method_call ho<|h A own s (.ref f) (.ref x::vs) ks q S rfl ⟨_,_,rfl,⟨x,hx,rfl⟩,cx⟩ di
theorem WC {E:an->az->Prop}{x:an}{o:Obj}(ho:s.heap.get? a=some (methodObj (.ref f) x))(hf:s.heap.get? f=some o)(hd:o.data=.func fd)(h:Q true s):be M A (borrowsExactly (.ref a)) Q E s:=by refine aB<|Rk ho ?_;refine aB<|Rk hf ?_;exact hd▸bH h
theorem MV {k m:Nat}{x:Str}(hk:st[k]?=some (.jf m x)):G3 d k st:=λA own s a Q q S ha hQ=>by obtain⟨a',b8,y,t,hy,ho⟩:=S.bD hk;rw[ha] at b8;obtain rfl:=dE b8;have hT:s.TypeIs (.ref a) "callable_iterator":=⟨_,ho,rfl⟩;exact wpAny_pyIter_slot hT Wy<|vX Wy hT afF (bH ⟨_,rfl,"callable_iterator",_,hT,Dh.lookup,hQ⟩)<|(by kernel_rfl)
theorem G4 {prog:q9}{w:pM}{A:Around}{s:az}{α:Type}{K:α->az->Prop}{E:an->az->Prop}(hh:A.handled=none) (hQ:∀h' e,(∀b o,s.heap.get? b=some o->h'.get? b=some o)->(∃o,h'.get? e=some o∧o.cls=.type "StopIteration")->E (.ref e) {s with heap:=h'}):be (aQ prog w) A (Builtin.SmallTypes.stopIteration:Sem α) K E s:=by apply aB;refine aB (vQ ?_<|by size_fits);refine aB<|wpAny_of_eq (by rfl) ?_;refine vQ ?_ (by size_fits);refine aB<|wpAny_handled ?_;rw[hh];exact aB<|bH<|wpAny_throw<|hQ _ _ (λb o e=>fT _<|fT _ e) ⟨_,iy _ rfl,rfl⟩
theorem afK {k:Nat}(hk:st[k]?=some .mR):nY d target k st none st:=λA own s a R q S ha hR=>by
 obtain⟨a',b8,ho⟩:=S.bD hk;rw[ha] at b8;obtain rfl:=dE b8;replace ho:s.heap.get? a=some {cls:=.type "callable_iterator",data:=.fields #[.none,.none,.bool true]}:=ho;have hT:s.TypeIs (.ref a) "callable_iterator":=⟨_,ho,rfl⟩;refine aB (zV (zW hT Dh
  (vX Dh hT Wz ?_<|WA _)))
 show be _ _ (sO (.ref a) 2>>=_) _ _ s;refine aB<|kf ho rfl (x:=.bool true) rfl ?_;refine aB<|sC<|aB<|G4 q.1 λh' e hk hx=>?_;obtain⟨o,gO,hc⟩:=hx;exact aB<|RB ⟨o,gO,hc⟩ RD<|bH<|hR own none _ (a9.more hk) (S.more hk) rfl
theorem WD {target:aq}{k m j:Nat}{x:Str}(hk:st[k]?=some (.jf m x))(hm:st[m]?=some (.bg f j))(hf:X.K.lookup f=some ⟨oc,od,.func fd,kU⟩)(h:bM d (.ab m) [] [] st (.str v) ag)(tf:ag[k]?=some (.jf m x))(Di:ag[m]?=some (.bg f j))(q:Rm (d+1) A)(S:Sx own st s)(ha:own[k]?=some a)(cz:v≠x->∀av s' t,a9 own s av s'->Sx av ag s'->R (some (.str v t)) s')(heq:v=x->∀av s',a9 own s av s'->Sx av (ag.set k .mR) s'->R none s'):be (aQ X.prog X.w) A (l8 (.ref a)) R (λY Y=>False) s:=by
 obtain⟨a',b8,b,t,hb,ho⟩:=S.bD hk;rw[ha] at b8;obtain rfl:=dE b8;obtain⟨b',oX,z,hz,hom⟩:=S.bD hm;rw[hb] at oX;obtain rfl:=dE oX;have hT:s.TypeIs (.ref a) "callable_iterator":=⟨_,ho,rfl⟩;refine aB (zV (zW hT Dh
  (vX Dh hT Wz ?_<|WA _)))
 show be _ _ (sO (.ref a) 2>>=_) _ _ s;refine aB<|kf ho rfl rfl ?_;refine aB<|kf ho rfl rfl ?_;refine aB<|zV ?_;refine aB<|WC hom (S.bj _ _<|S.ok.k _ _ hf) rfl ?_;rw[if_pos rfl];refine afH<|pS (h _ own s (.ref b) [] [] q.in1 S ⟨b,hb,rfl⟩ rfl rfl) λr s₁ c9=>?_;rcases r with e|(_|_|_|r)<;>first|exact c9.elim|skip
 obtain⟨aO,bK,bq,u,rfl⟩:=c9;have AU:=bK.aM.bD _ _ ha;obtain⟨a',b8,ars,G5,Mo,AB⟩:=bq.bD tf;rw[AU] at b8;obtain rfl:=dE b8;refine aB<|kf AB rfl rfl ?_;refine aB<|kf AB rfl rfl ?_;refine aB<|vN<|wpAny_eqBool_str ?_;by_cases hv:v=x
 ·subst hv;simp [decide_true];refine aB<|sC ?_;obtain⟨b',oX,z',AO,afO⟩:=bq.bD Di;rw[Mo] at oX;obtain rfl:=dE oX;apply aB;refine aB<|kf AB rfl rfl ?_;apply aB;refine aB<|WC afO (bq.bj _ _<|bq.ok.k _ _ hf) rfl ?_;rw[if_pos rfl];apply bH;refine aB<|zX AB (by simp) λgf afQ AV=>?_;refine aB<|zX afQ (by simp) λeF afR AW=>?_;refine zX afR (by simp) λyh afS afT=>?_;refine G4 q.1 λh' e Dj hx=>?_;obtain⟨oe,hoe,MW⟩:=hx;refine aB<|RB ⟨oe,hoe,MW⟩ RD<|bH ?_;have hs:=λb o cz e=>Dj b o<|afT.extBut b o cz<|AW.extBut b o cz<|AV.extBut b o cz e;exact heq rfl aO _ (bK.trans<|a9.set bq AU hs) (bq.set (t:=s₁.toks) AU hs λg=>Dj _ _ afS)
 have kW:¬x=v:=λe=>hv e.symm;simp [decide_eq_false kW];exact bH ⟨_,rfl,bH<|cz hv aO s₁ u bK bq⟩
theorem afV {k m j:Nat}{x:Str}(hk:st[k]?=some (.jf m x))(hm:st[m]?=some (.bg f j))(hf:X.K.lookup f=some ⟨oc,od,.func fd,kU⟩)(h:bM d (.ab m) [] [] st (.str v) ag)(tf:ag[k]?=some (.jf m x))(Di:ag[m]?=some (.bg f j))(hv:v≠x):nY (d+1) target k st (some (.str v)) ag:=λA own s a R q S ha hR=>
 WD (target:=target) hk hm hf h tf Di q S ha (λo av s' t E' S'=>by obtain⟨a',b8,b,u,hb,ho⟩:=S'.bD tf;rw[E'.aM.bD _ _ ha] at b8;obtain rfl:=dE b8;exact LW ho rfl rfl (hR av (some<|.str v t) s' E' S' ⟨_,rfl,t,rfl⟩)) λe=>absurd e hv
theorem afX:Fc (.type "method") "__call__"=pure (some (.builtin "method.__call__")):=by rw[B9,B'];kernel_rfl
theorem afY:builtinKind "iter"=none:=by decide +kernel
theorem afZ:plainId "iter"=true:=by decide +kernel
theorem af0:Fg table "iter"=some Builtin.«iter»:=RA (by kernel_rfl)
theorem af1 a b:argsOk "iter" ⟨[a,b],[]⟩:=by kernel_rfl
theorem af3 {m j:Nat}{x:Str}(hm:st[m]?=some (.bg f j)):bk d (.bi "iter") [.ab m,.str x] [] st (.ab st.length) (st++[.jf m x]):=uG λA own s y z q S ry rz=>by obtain⟨a,ha,rfl⟩:=ry;obtain⟨t,rfl⟩:=rz;obtain⟨a',b8,y,hy,ho⟩:=S.bD hm;rw[ha] at b8;obtain rfl:=dE b8;have eV:∀b o,s.heap.get? b=some o->(s.heap.push {cls:=.type "callable_iterator",data:=.fields #[.ref a,.str x t,.bool false]}).get? b=some o:=λb o e=>fT _ e;have iK:s.heap.get? s.heap.objs.size=none:=iI<|aG _;refine call_function_meets afY afZ af0 (af1 _ _) ((show Meets (Builtin.«iter» ⟨[.ref a,(.str x t)],[]⟩) (λu R s=>s.TypeIs (.ref a) "method"∧R (.ok<|.ret<|.ref s.heap.objs.size) {s with heap:=s.heap.push {cls:=.type "callable_iterator",data:=.fields #[.ref a,(.str x t),.bool false]}}) from .of_wp λprog w A R s h=>by obtain⟨hT,h⟩:=h;show be _ _ (specialOf (.ref a) "__call__">>=_) _ _ s;refine aB<|Ko hT afX ?_;refine aB (sC<|aB<|vQ ?_<|by size_fits);exact bH ⟨_,rfl,h⟩)) ⟨⟨_,ho,rfl⟩,?_⟩;refine⟨own++[s.heap.objs.size],a9.push eV iK,S.push eV iK λg=>⟨a,t,g.bD _ _ ha,iy _ rfl⟩,s.heap.objs.size,?_,rfl⟩;rw[<-S.len,dT<|aG _,fk];rfl
end
section
variable {d:Nat}{c:aY}{st ag:List ae}
section
variable {prog:q9}{w:pM}{A:Around}{E:an->az->Prop}{s:az}{it:ai}{x:Str}{t:Tok}{i:Nat}
theorem G6 {T:String}{id:String}(slot:Slot T "__next__" id)(hT:s.TypeIs (.ref it) T){B:Builtin}(he:Fg table id=some B)(ha:argsOk id ⟨[.ref it],[]⟩){Q:an->az->Prop} (h:be (aQ prog w) A.in1 (B ⟨[.ref it],[]⟩) (λyg s'=>∃v,yg=.done (.ret v)∧Q v s') E s):be (aQ prog w) A (abG (.ref it)) Q E s:=by exact aB<|zW hT slot<|vX slot hT he (bC h (λyg s' ⟨v,e,hq⟩=>⟨v,e,bH hq⟩) λu u x=>x) ha
theorem WE {T:String}{o:Obj}(ho:s.heap.get? it=some o)(hc:o.cls=.type T)(hd:o.data=.fields #[.str x t,.int i 0]):(s.heap.update it (Obj.mapFields (·.setIfInBounds 1 (rh ((i:Int)+1))))).IsStrIter it T x t (i+1):=
 ⟨_,E9 _ ho<|Obj.isFreed_of_fields<|RE hd _,(Obj.cls_mapFields ..).trans hc,by rw[RE hd];simp [rh]⟩
theorem af4 {k:Nat}{Q:an->az->Prop}(i3:s.heap.IsStrIter it (jM x) x t i)(hx:x.cps[i]?=some k) (hQ:∀h',h'.IsStrIter it (jM x) x t (i+1)->sJ it s.heap h'->Q (.str ⟨#[k]⟩ s.toks) {s with heap:=h',toks:=s.toks+1}):be (aQ prog w) A (abG (.ref it)) Q E s:=by
 unfold jM at i3 hQ;obtain⟨o,ho,hc,hd⟩:=id i3;split at i3
 ·rename_i h;rw[if_pos h] at hc hQ;apply G6 aqq ⟨o,ho,hc⟩ aqr<|aqs _;show be _ _ (sO (.ref it) 0>>=_) _ _ s;refine aB<|kf ho hd (x:=.str x t) rfl ?_;show be _ _ (sO (.ref it) 1>>=_) _ _ s;refine aB<|kf ho hd (x:=.int i 0) rfl ?_;simp [hx];exact aB (RF ho hd (by simp)<|aB<|wpAny_mkStr (bH ⟨_,rfl,hQ _ (WE ho hc hd)<|rj ..⟩)<|by show 1<=cX;decide)
 rename_i h;rw[if_neg h] at hc hQ;apply G6 aqt ⟨o,ho,hc⟩ aqu<|aqv _;show be _ _ (sO (.ref it) 0>>=_) _ _ s;refine aB<|kf ho hd (x:=.str x t) rfl ?_;show be _ _ (sO (.ref it) 1>>=_) _ _ s;refine aB<|kf ho hd (x:=.int i 0) rfl ?_;simp [Fh,hx];exact aB (RF ho hd (by simp)<|aB<|wpAny_mkStr (bH ⟨_,rfl,hQ _ (WE ho hc hd)<|rj ..⟩)<|by show 1<=cX;decide)
theorem af5 {Q:an->az->Prop}(hh:A.handled=none)(i3:s.heap.IsStrIter it (jM x) x t i)(hx:x.cps[i]?=none) (hE:∀h' e,f6 it s.heap h'->(∃o,h'.get? it=some o∧¬eO o)->(∃o,h'.get? e=some o∧o.cls=.type "StopIteration")->E (.ref e) {s with heap:=h'}):be (aQ prog w) A (abG (.ref it)) Q E s:=by
 unfold jM at i3;obtain⟨o,ho,hc,hd⟩:=id i3;have WF:∀T,o.cls=.type T->T≠"slice"->T≠"range"->∀h':bf,(∀b o,(s.heap.update it<|Obj.mapFields (·.setIfInBounds 0 .none)).get? b=some o->h'.get? b=some o)->∃o,h'.get? it=some o∧¬eO o:=λT hT h2 h3 h' hk=>
  ⟨_,hk _ _<|E9 _ ho<|Obj.isFreed_of_fields<|RE hd _,Obj.uq ((Obj.cls_mapFields ..).trans hT) (RE hd _) h2 h3 rfl⟩
 split at i3
 ·rename_i h;rw[if_pos h] at hc;apply G6 aqq ⟨o,ho,hc⟩ aqr<|aqs _;show be _ _ (sO (.ref it) 0>>=_) _ _ s;refine aB<|kf ho hd (x:=.str x t) rfl ?_;show be _ _ (sO (.ref it) 1>>=_) _ _ s;refine aB<|kf ho hd (x:=.int i 0) rfl ?_;simp [hx];exact aB<|sC<|aB<|RF ho hd (by simp)<|aB<|RG<|G4 hh λh' e hk gE=>hE h' e (λb o cz e=>hk b o<|(rj ..).extBut b o cz e) (WF _ hc (by decide) (by decide) _ hk) gE
 rename_i h;rw[if_neg h] at hc;apply G6 aqt ⟨o,ho,hc⟩ aqu<|aqv _;show be _ _ (sO (.ref it) 0>>=_) _ _ s;refine aB<|kf ho hd (x:=.str x t) rfl ?_;show be _ _ (sO (.ref it) 1>>=_) _ _ s;refine aB<|kf ho hd (x:=.int i 0) rfl ?_;simp [hx];exact aB<|sC<|aB<|RF ho hd (by simp)<|aB<|RG<|G4 hh λh' e hk gE=>hE h' e (λb o cz e=>hk b o<|(rj ..).extBut b o cz e) (WF _ hc (by decide) (by decide) _ hk) gE
theorem af6 {e:ai}{k:Nat}{jg:an}{MX:List aq}{x1:Nat}{pos:Pos}{R:Option an->az->Prop}(he:zI s.heap e it i jg)(i3:s.heap.IsStrIter it (jM x) x t i)(hx:x.cps[i]?=some k)(cz:e≠it) (hQ:∀c9 h' L,c9.IsStrIter it (jM x) x t (i+1)->sJ it s.heap c9->f6 e c9 h'->zI h' e it ((i:Int)+1) (.str ⟨#[k]⟩ s.toks)->s.heap.get? L=none->h'.get? L=some {cls:=.type "tuple",data:=.seq #[.int i (s.toks+1),.str ⟨#[k]⟩ s.toks]}->R (some (.ref L)) {s with heap:=h',toks:=s.toks+1+1}):be (aQ prog w) A (l8 (.ref e)) (λr s₁=>match r with|none=>R none s₁|some y=>be (aQ prog w) A (ri (.Tuple MX x1 pos) (.ref e) y) (λu aR=>R (some y) aR) (λu u=>False) s₁) E s:=by
 obtain⟨hp,g,dr,tk,os⟩:=s;have hT:abH ⟨hp,g,dr,tk,os⟩ (.ref e) "enumerate":=⟨_,he,rfl⟩;refine aB (zV (zW hT RH
  (vX RH hT F.entry_enumerate_next ?_<|aqw _)))
 show be _ _ (sO (.ref e) 2>>=_) _ _ _;refine aB<|kf he rfl rfl ?_;refine aB<|af4 i3 hx λc9 MY qx=>?_;replace qx:sJ it hp c9:=qx;have MZ:=(qx.2 e cz).trans he;refine aB<|kf MZ rfl rfl ?_;refine aB<|kf MZ rfl rfl ?_;refine aB<|wpAny_mkInt ?_;refine aB<|zX MZ (by simp) λgf M0 AV=>?_;replace AV:sJ e c9 gf:=AV;replace M0:zI gf e it (i+1) jg:=M0;refine aB<|zX M0 (by simp) λeF M' AW=>?_;replace AW:sJ e gf eF:=AW;replace M':zI eF e it (i+1) jg:=M';refine aB<|wpAny_newTuple ?_;have ik:hp.get? eF.objs.size=none:=by
  have:eF.objs.size=hp.objs.size:=by rw[AW.1,AV.1,qx.1]
  exact this▸iI (aG _)
 have WG:eF.objs.size≠e:=λq=>by rw[q] at ik;rw[show hp.get? e=_ from he] at ik;cases ik
 generalize hL:eF.objs.size=L at ik WG;have Dk:zI (eF.push {cls:=.type "tuple",data:=.seq #[.int i<|tk+1,.str ⟨#[k]⟩ tk]}) e it (i+1) jg:=fT _ M';have Na:(eF.push {cls:=.type "tuple",data:=.seq #[.int i<|tk+1,.str ⟨#[k]⟩ tk]}).get? L=some {cls:=.type "tuple",data:=.seq #[.int i<|tk+1,.str ⟨#[k]⟩ tk]}:=hL▸iy _ rfl;have Nb:f6 e c9 (eF.push {cls:=.type "tuple",data:=.seq #[.int i<|tk+1,.str ⟨#[k]⟩ tk]}):=λb o hb e'=>fT _<|(λb o hb e'=>AW.extBut b o hb<|AV.extBut b o hb e') b o hb e';revert Dk Na Nb;generalize eF.push {cls:=.type "tuple",data:=.seq #[.int i<|tk+1,.str ⟨#[k]⟩ tk]}=yh;intro Dk Na Nb;apply aB;refine aB<|kf Dk rfl rfl (bH ?_);refine aB<|sC ?_;refine aB<|kf Dk rfl rfl ?_;refine aB<|zX Dk (by simp) λAE Nc Nd=>?_;replace Nd:sJ e yh AE:=Nd;replace Nc:zI AE e it (i+1) (.str ⟨#[k]⟩ tk):=Nc;show be _ _ (aqx (.ref e) (.ref L)>>=_) _ _ ⟨AE,g,dr,tk+1+1,os⟩;apply aB;refine aB<|zX Nc (by simp) λCZ Nf Ng=>?_;replace Ng:sJ e AE CZ:=Ng;replace Nf:IsEnumOut CZ e it (i+1) (.str ⟨#[k]⟩ tk) L:=Nf;refine zX Nf (by simp) λNh Ni Nj=>?_;replace Nj:sJ e CZ Nh:=Nj;replace Ni:IsEnumOut Nh e it (i+1) (.str ⟨#[k]⟩ tk) L:=Ni;refine aB<|RG<|bH ⟨_,rfl,bH ?_⟩;refine wpAny_letOwnedTupleGo_enum Ni λNk af8 Nl=>?_;replace Nl:sJ e Nh Nk:=Nl;have up:=λb o hb e'=>Nl.extBut b o hb<|Nj.extBut b o hb<|Ng.extBut b o hb<|Nd.extBut b o hb e';exact hQ c9 Nk L MY qx (λb o hb e'=>up b o hb<|Nb b o hb e') af8 ik<|up L _ WG Na
theorem af9 {e:ai}(hh:A.handled=none)(he:zI s.heap e it i jg)(i3:s.heap.IsStrIter it (jM x) x t i)(hx:x.cps[i]?=none)(hQ:∀h',f6 it s.heap h'->(∃o,h'.get? it=some o∧¬eO o)->Q none {s with heap:=h'}):be (aQ prog w) A (l8 (.ref e)) Q E s:=by
 have hT:s.TypeIs (.ref e) "enumerate":=⟨_,he,rfl⟩;refine aB (zV (zW hT RH
  (vX RH hT F.entry_enumerate_next ?_<|aqw _)))
 show be _ _ (sO (.ref e) 2>>=_) _ _ _;refine aB<|kf he rfl (x:=.ref it) rfl ?_;refine aB<|af5 hh i3 hx λh' x Nm kW gE=>?_;obtain⟨o,ho,hc⟩:=gE;exact aB<|RB ⟨o,ho,hc⟩ RD<|bH<|hQ _ Nm kW
end
theorem af' {x:Str}:bk d (.ty "enumerate") [.str x] [] st (.ab (st.length+1)) (st++[.ki x 0,.gc st.length 0]):=Da λA own s y q S ry=>by
 obtain⟨t,rfl⟩:=ry;refine call_enumerate_str λh' he hi hz hk=>?_;have iK:∀a∈[s.heap.objs.size,s.heap.objs.size+1],s.heap.get? a=none:=λa ha=>by
  rcases pO.mp ha with rfl|ha
  ·exact iI<|aG _
  exact gV.mp ha▸iI (ke _)
 obtain⟨S',E',g⟩:=S.Gq (os:=[.ki x 0,.gc st.length 0]) hk iK (by simp) rfl λg j o a e1 e2=>by
  match j with
  |0=>obtain rfl:=dE e1;obtain rfl:=dE e2;exact⟨t,hi⟩|1=>obtain rfl:=dE e1;obtain rfl:=dE e2;refine⟨s.heap.objs.size,.none,?_,he⟩;rw[<-S.len,dT<|aG _,fk];rfl|j+2=>exact nS e1
 refine⟨_,E',S',s.heap.objs.size+1,?_,rfl⟩;rw[<-S.len,dT<|ke _,show own.length.succ-own.length=1 by lia];rfl
theorem aga {k i:Nat}(hk:st[k]?=some (.gc n i)):G3 d k st:=λA own s a Q q S ha hQ=>by obtain⟨a',b8,it,jg,hy,ho⟩:=S.bD hk;rw[ha] at b8;obtain rfl:=dE b8;exact wpAny_pyIter_enum ho hQ
theorem agb {k i:Nat}{x:Str}{pos:Pos}(hk:st[k]?=some (.gc n i))(hn:st[n]?=some (.ki x i))(hx:x.cps[i]?=some ch):nY d (.Tuple MX x1 pos) k st (some (.cB [.int i,.str ⟨#[ch]⟩])) ((st.set n (.ki x (i+1))).set k (.gc n (i+1))):=λA own s a R q S ha hR=>by
 obtain⟨a',b8,it,jg,hy,ho⟩:=S.bD hk;rw[ha] at b8;obtain rfl:=dE b8;obtain⟨wm,Dl,t,i3⟩:=S.bD hn;rw[hy] at Dl;obtain rfl:=dE Dl;have yB:k≠n:=λe=>by rw[e,hn] at hk;cases hk
 refine af6 ho i3 hx (S.ne ha hy yB) λc9 h' L MY qx WH Nm ik hL=>?_;have bq:=S.set (o':=.ki x<|i+1) hy qx.extBut λg=>⟨t,MY⟩;exact hR own _ _ ((a9.set S hy qx.extBut).trans<|a9.set bq ha WH) (bq.set (o':=.gc n<|i+1) (t:=s.toks+1+1) ha WH λg=>⟨it,.str ⟨#[ch]⟩ s.toks,hy,by rw[QW];exact Nm⟩) ⟨_,rfl,L,[.int i<|s.toks+1,.str ⟨#[ch]⟩ s.toks],_,rfl,S.jO ik,S.mf ik,hL,_,_,rfl,⟨_,rfl⟩,_,_,rfl,⟨_,rfl⟩,rfl⟩
theorem agc {k i:Nat}{x:Str}(hk:st[k]?=some (.gc n i))(hn:st[n]?=some (.ki x i))(hx:x.cps[i]?=none):nY d target k st none (st.set n .qg):=λA own s a R q S ha hR=>by obtain⟨a',b8,it,jg,hy,ho⟩:=S.bD hk;rw[ha] at b8;obtain rfl:=dE b8;obtain⟨wm,Dl,t,i3⟩:=S.bD hn;rw[hy] at Dl;obtain rfl:=dE Dl;exact af9 q.1 ho i3 hx λh' gE kW=>hR own none _ (a9.set S hy gE) (S.set hy gE λg=>kW) rfl
end
section
open PySem PySem.W PySem.Calls PyProof.Rows PySem.W.X
variable {d:Nat}{c:aY}
section
variable {A:Around}{cd:Code}{fs:List Frame}{s:az}{P:End->az->Prop}
theorem tg {α:Type}{m:Sem α}{K:α->Sem Fin}{H:an->Sem Fin}{gd:Bool->Bool}{lv:List an->List an} (h:be (aQ X.prog X.w) (A.over cd fs) m (λa s'=>iT (aQ X.prog X.w) A cd (K a) fs s' P) (λu u=>False) s):iT (aQ X.prog X.w) A cd (m.wrap K H gd lv) fs s P:=by rintro Γ p rfl hΓ;obtain⟨e,s',hr,hq⟩:=runs_wrap_of_wp K H gd lv m (h (Γ.over fs) p<|hΓ.over fs) (λa p' s' h'=>h' Γ p' rfl hΓ)<|λx p' s' h'=>h'.elim;exact⟨e,s',hr,hq⟩
theorem AX {p:Pos}{k:Unit->Sem Fin}(h:iT (aQ X.prog X.w) A cd (k ()) fs s P):iT (aQ X.prog X.w) A cd (.at p k) fs s P:=
 tg (H:=.raise) (gd:=id) (lv:=id) (zM h)
end
structure G7 (d:Nat)(A:Around)(cd:Code)(fs:List Frame):Prop where
 rm:Rm d (A.over cd fs)
 split:splitAtGen fs=none
 WI:fs.any Frame.guarded=false
structure G8 (fp:List ai)(s s':az):Prop where
 sx:Sx [] [] s'
 own:∀a∈fp,s'.heap.get? a=s.heap.get? a
 val:∀b o,s.heap.get? b=some o->eO o->b∉X.P->s'.heap.get? b=some o
noncomputable def uN (A:Around):List CV->List ai->az->End->az->Prop
 |[],fp,s,e,s'=>e=.ret (.ok (.ret .none))∧∃g8 ag,a9 fp s g8 s'∧Sx g8 ag s'|y::ys,fp,s,e,s'=>∃v l k c p fs g8 ag,e=.susp v false l k c p fs∧a9 fp s g8 s'∧Sx g8 ag s'∧RelV g8 s'.heap y v∧∀eP,G8 g8 s' eP->iT (aQ X.prog X.w) A c (k (.send .none)) fs eP (uN A ys g8 eP)
theorem G8.WJ {fp:List ai}{st:List ae}{s s':az}(y:G8 fp s s')(S:Sx fp st s):Sx fp st s':=by exact⟨y.sx.bj,S.len,S.kj,S.fresh,λi o a e1 e2=>(S.iV i o a e1 e2).aM ⟨λx x e=>e,λb o e v x hp=>y.val b o e v hp,λx h=>.inl h⟩<|y.own a<|c8 e2,y.sx.cU,y.sx.bare,y.sx.tk,S.ok⟩
variable {st aw ag:List ae}
def lD (d:Nat)(c:aY)(b:List bl)(st:List ae)(ys:List CV)(ag:List ae):Prop:=∀(A:Around) (cd:Code) (fs:List Frame) (env:Env) (K:Flow->Sem Fin) (H:an->Sem Fin) (gd:Bool->Bool) (lv:List an->List an) (tail:List CV),G7 d A cd fs->gd false=false->∀bx aT own s,a9 bx aT own s->Sx own st s->dK own c env->(∀mV wF av s',a9 mV wF av s'->Sx av ag s'->dK av c env->(∃w,av=own++w)->iT (aQ X.prog X.w) A cd (K .next) fs s' (uN A tail mV wF))->iT (aQ X.prog X.w) A cd ((l4 b env).wrap K H gd lv) fs s (uN A (ys++tail) bx aT)
theorem qy:lD d c [] st [] st:=λA cd fs env K H gd lv tail q hg bx aT own s E S R hK=>hK bx aT own s E S R ⟨[],by simp⟩
theorem G9 {x:bl}(h:dB d c x st .next aw)(k:lD d c r aw ys ag):lD d c (x::r) st ys ag:=λA cd fs env K H gd lv tail q hg bx aT own s E S R hK=>by rw[execs_cons_wrap];refine tg<|bC (h _ own s env q.rm S R) (λf s' ⟨av,E',S',rf⟩=>?_) λu u x=>x;subst rf;obtain⟨w,rfl⟩:=E'.pre;exact k A cd fs env K H gd lv tail q hg bx aT _ s' (E.trans E') S' (R.ext E') λoZ aT o' s' h1 h2 h3 ⟨w',hw⟩=>hK oZ aT o' s' h1 h2 h3 ⟨w++w',by rw[hw,eJ]⟩
theorem Nn (rQ:c.scope.isCoroutine=false){e:aq}{p:Pos}(h:a8 d c e st v aw)(k:lD d c r aw ys ag):lD d c (.Expr (.Yield (some e) p) p'::r) st (v::ys) ag:=λA cd fs env K H gd lv tail q hg bx aT own s E S R hK=>by
 rw[execs_cons_wrap,exec_Expr env _ p' R.U8 rfl];show iT (aQ X.prog X.w) A cd (.at p' λu=>((d9 e env>>=λv=>(nE p>>=λu=>yieldOut env v))>>=λx=>
  dropValue (.Yield (some e) p) p' x).wrap _ H gd lv) fs s _
 have agd:env.scope.isCoroutine=false:=R.scope▸rQ;have hy:∀v,yieldOut env v=yieldValue v:=λv=>by simp [yieldOut,agd,gJ]
 simp only [hy];apply AX;rw[ue,ue,sP,sP];refine tg<|bC (h _ own s env q.rm S R) (λy s' ⟨av,E',S',ry⟩=>?_) λu u x=>x;apply AX;refine(show iT (aQ X.prog X.w) A cd (.yield y (gd false) (lv []) _) fs s' _ from ?_);rw[hg];refine s_yield X.prog X.w A cd fs _ s' y _ _ q.split q.WI λp=>?_;refine⟨y,_,_,cd,p,fs,av,_,rfl,E.trans E',S',ry,λeP hs=>?_⟩;obtain⟨w,rfl⟩:=E'.pre;exact k A cd fs env K H gd lv tail q hg _ eP _ eP .refl (hs.WJ S') (R.ext E') λoZ aT o' s' h1 h2 h3 ⟨w',hw⟩=>hK oZ aT o' s' h1 h2 h3 ⟨w++w',by rw[hw,eJ]⟩
set_option backward.match.sparseCases true in
theorem yC {t:aq}{x y:List bl}{p:Pos} b (h:fx d c t st b aw)(hb:lD d c (if b then x else y) aw ys aJ)(k:lD d c r aJ jW ag):lD d c (.If t x y p::r) st (ys++jW) ag:=λA cd fs env K H gd lv tail q hg bx aT own s E S R hK=>by rw[execs_cons_wrap];show iT (aQ X.prog X.w) A cd (.at p λu=>(xB t env (d9 t env)>>=λb=>if b then l4 x env else l4 y env).wrap _ H gd lv) fs s _;apply AX;rw[ue,sP];refine tg<|bC (h _ own s env q.rm S R) (λb' s' ⟨av,E',S',e⟩=>?_) λu u x=>x;subst e;rw[eJ];have:=hb A cd fs env (λf=>match f with|.next=>(l4 r env).wrap K H gd lv|f=>K f) H gd lv (jW++tail) q hg bx aT av s' (E.trans E') S' (R.ext E') (λoZ No CX G5 h1 h2 h3 ⟨AF,uD⟩=>k A cd fs env K H gd lv tail q hg oZ No CX G5 h1 h2 h3 λoZ aT o' s' h1 h2 h3 ⟨w',hw⟩=>by obtain⟨w,age⟩:=E'.pre;exact hK oZ aT o' s' h1 h2 h3 ⟨w++AF++w',by rw[hw,uD,age];simp⟩);cases b' with|true=>exact this|false=>exact this
inductive yD (d:Nat)(c:aY)(t:aq)(b:List bl)(k:Nat):List ae->List CV->List ae->Prop|jk {su AY:List ae}:nY d t k su none AY->yD d c t b k su [] AY|step {su AY Np Nq Nr:List ae} {v:CV} {ys jW:List CV}:nY d t k su (some v) AY->dj d c t v AY Np->lD d c b Np ys Nq->yD d c t b k Nq jW Nr->yD d c t b k su (ys++jW) Nr
set_option tactic.hygienic true in
theorem agf {t:aq}{k:Nat}(h:yD d c t b k st ys ag):∀A cd fs env kk wG iC a tail,G7 d A (.forLoop t (.ref a) b [] env) (.ret kk none false wG cd iC []::fs)->∀bx aT own s,a9 bx aT own s->Sx own st s->dK own c env->own[k]?=some a->(∀mV wF av s',a9 mV wF av s'->Sx av ag s'->dK av c env->(∃w,av=own++w)->iT (aQ X.prog X.w) A cd (kk (.ok .next)) fs s' (uN A tail mV wF))->iT (aQ X.prog X.w) A (.forLoop t (.ref a) b [] env) (denote table (.forLoop t (.ref a) b [] env)) (.ret kk none false wG cd iC []::fs) s (uN A (ys++tail) bx aT):=by
 have Dm:∀{A:Around} {fs:List Frame} {env:Env} {a:ai} {s:az} {P:End->az->Prop},
  be (aQ X.prog X.w) (A.over (.forLoop t (.ref a) b [] env) fs) (l8<|.ref a) (λr s₁=>match r with
   |none=>iT (aQ X.prog X.w) A (.forLoop t (.ref a) b [] env) (.pure<|.again<|.block [] env) fs s₁ P|some y=>be (aQ X.prog X.w) (A.over (.forLoop t (.ref a) b [] env) fs) (ri t (.ref a) y) (λu aR=>be (aQ X.prog X.w) (A.over (.forLoop t (.ref a) b [] env) fs) (oE t env y) (λu bu=>
    ∀N,iT (aQ X.prog X.w) A (.forLoop t (.ref a) b [] env) ((l4 b env).wrap (λf=>match f with
     |.next|.cont=>.pure (.again<|.forLoop t (.ref a) b [] env)|.brk=>.pure (.done .next)|.ret v=>.pure<|.done<|.ret v) N id id) fs bu P) (λu u=>False) aR) (λu u=>False) s₁) (λu u=>False) s->
  iT (aQ X.prog X.w) A (.forLoop t (.ref a) b [] env) (denote table<|.forLoop t (.ref a) b [] env) fs s P:=by
  intro A fs env a s P h;show iT (aQ X.prog X.w) A _ ((forTurn t (.ref a) b [] env).onRaise (λx=>do noteFrame x env;theTreesLotGoes x)) fs s P;rw[Sem.onRaise_eq_wrap];apply AX;show iT (aQ X.prog X.w) A _ (((l8<|.ref a).onRaise _>>=_).wrap _ _ _ _) fs s P;rw[ue,sP];refine tg<|E6<|bC h (λr s₁ c9=>?_) λu u x=>x.elim;cases r with
  |none=>exact c9|some y=>
   show iT (aQ X.prog X.w) A _ ((ri t (.ref a) y>>=_).wrap _ _ _ _) fs s₁ P;rw[ue,sP];refine tg<|bC c9 (λu aR gf=>?_) λu u x=>x;rw[ue,sP];refine tg<|bC gf (λu bu eF=>?_) λu u x=>x;rw[ue,sP];rw[Sem.wrap_congr (K':=λf=>match f with
    |.next|.cont=>.pure (.again<|.forLoop t (.ref a) b [] env)|.brk=>.pure (.done .next)|.ret v=>.pure<|.done<|.ret v) _ _ _ (λf=>by cases f<;>rfl)<|λe=>rfl]
   exact eF _
 induction h with
 |jk hn=>
  intro A cd fs env kk wG iC a tail q bx aT own s E S R ha hK;refine Dm<|bC (hn _ own s a (λr s₁=>r=none∧iT (aQ X.prog X.w) A (.forLoop t (.ref a) b [] env) (.pure<|.again<|.block [] env) (.ret kk none false wG cd iC []::fs) s₁ (uN A ([]++tail) bx aT)) q.rm S ha λav r s' E' S' e=>?_) (λr s₁ c9=>?_) λu u x=>x
  ·exact⟨e,s_again X.prog X.w A _ _ _ s' _ rfl (s_pop X.prog X.w A _ _ _ s' (.ok .next) _ rfl _ _ _ _ _ _ _ (hK bx aT av s' (E.trans E') S' (R.ext E') E'.pre))⟩
  cases r with
  |none=>exact c9.2|some y=>exact bC c9 (λu aR gf=>by cases gf.1) λu u x=>x
 |step hn hs hb hr ih=>
  rename_i su AY Np Nq Nr v ys jW;intro A cd fs env kk wG iC a tail q bx aT own s E S R ha hK;refine Dm (bC (hn _ own s a (λr s₁=>∃y,r=some y∧be (aQ X.prog X.w) (A.over (.forLoop t (.ref a) b [] env)<|.ret kk none false wG cd iC []::fs) (oE t env y) (λu bu=>
   ∀N,iT (aQ X.prog X.w) A (.forLoop t (.ref a) b [] env) ((l4 b env).wrap (λf=>match f with
    |.next|.cont=>.pure (.again<|.forLoop t (.ref a) b [] env)|.brk=>.pure (.done .next)|.ret v=>.pure<|.done<|.ret v) N id id) (.ret kk none false wG cd iC []::fs) bu<|uN A (ys++jW++tail) bx aT) (λu u=>False) s₁) q.rm S ha λav r s' E' S' e=>?_) (λr s₁ c9=>?_) λu u x=>x)
  ·obtain⟨y,rfl,ry⟩:=e;refine⟨y,rfl,bC (hs _ av s' env y q.rm S' (R.ext E') ry) (λu aR ⟨aS,bX,bw⟩ N=>?_) λu u x=>x⟩;rw[eJ];refine hb A _ _ env _ N id id (jW++tail) q rfl bx aT aS aR ((E.trans E').trans bX) bw ((R.ext E').ext bX) λmV wF dt bu dC cF agg ⟨Vq,GG⟩=>?_;apply s_again X.prog X.w A _ _ _ bu _ rfl;obtain⟨Mc,AG⟩:=(E'.trans bX).pre;exact ih A cd fs env kk wG iC a tail q mV wF dt bu dC cF agg (by rwa[GG,AG,eJ,d2 (bV.mp ha).1]) λoZ aT o' s' h1 h2 h3 ⟨w',hw⟩=>hK oZ aT o' s' h1 h2 h3 ⟨Mc++Vq++w',by rw[hw,GG,AG];simp⟩
  cases r with|none=>obtain⟨y,e,_⟩:=c9;exact nS e|some y=>refine bC c9 (λu aR ⟨y',e,gf⟩=>?_) λu u x=>x;obtain rfl:=dE e;exact gf
theorem agh {t:aq}{o:List bl}{p:Pos}(q:G7 d A cd fs):G7 d A (.forLoop t a b o env) (.ret kk none false lv cd p []::fs):=by
 refine⟨?_,?_,?_⟩
 ·obtain⟨h1,h2,h3⟩:=q.rm;refine⟨h1,?_,?_⟩
  ·have e:(A.over (.forLoop t a b o env)<|.ret kk none false lv cd p []::fs).depth=(A.over cd fs).depth:=by show A.depth+frameCount ((cd,p)::fs.map RI)+0=A.depth+frameCount (fs.map RI)+cd.weight;rw[frameCount_cons];exact Sy
   rwa[e]
  have e:(A.over (.forLoop t a b o env)<|.ret kk none false lv cd p []::fs).units=(A.over cd fs).units:=by show A.units+unitsOf ((cd,p)::fs.map RI)+0=A.units+unitsOf (fs.map RI)+cd.cUnits;rw[unitsOf_cons];exact Sy
  rwa[e]
 ·show(splitAtGen fs).map _=none;rw[q.split];rfl
 show(false||fs.any Frame.guarded)=false;rw[q.WI];rfl
theorem agi {t i:aq}{p:Pos}{k:Nat}(hs:ye i=true)(h:a8 d c i st (.ab k) aw)(hI:G3 d k aw)(hy:yD d c t b k aw ys aJ)(kr:lD d c r aJ jW ag):lD d c (.For t i b [] p::r) st (ys++jW) ag:=λA cd fs env K H gd lv tail q hg bx aT own s E S R hK=>by rw[execs_cons_wrap];show iT (aQ X.prog X.w) A cd (.at p λu=>(d9 i env>>=λy=>abq i env y>>=λx=>nE i.pos>>=λu=>holding [x] (ud x)>>=λit=>runOwn (.forLoop t it b [] env) env).wrap _ H gd lv) fs s _;apply AX;rw[ue,sP];refine tg<|bC (h _ own s env q.rm S R) (λx s₁ ⟨aO,bK,bq,cx⟩=>?_) λu u x=>x;obtain⟨a,ha,rfl⟩:=cx;rw[AD hs,ue,sP];apply AX;show iT (aQ X.prog X.w) A cd ((holding [.ref a] (ud<|.ref a)>>=λit=>runOwn (.forLoop t it b [] env) env).wrap _ _ _ _) fs s₁ _;rw[ue,sP];refine tg<|vN<|hI _ aO s₁ a _ q.rm bq ha ?_;rw[eJ];obtain⟨w,hw⟩:=bK.pre;refine s_call X.prog X.w A cd fs _ s₁ (.forLoop t (.ref a) b [] env) none (gd false) _ _ λiC=>?_;rw[hg];exact agf hy A cd fs env _ _ iC a (jW++tail) (agh q) bx aT aO s₁ (E.trans bK) bq (R.ext bK) ha λoZ No CX G5 h1 h2 h3 ⟨AF,uD⟩=>kr A cd fs env K H gd lv tail q hg oZ No CX G5 h1 h2 h3 λoZ aT o' s' h1 h2 h3 ⟨w',AZ⟩=>hK oZ aT o' s' h1 h2 h3 ⟨w++AF++w',by rw[AZ,uD,hw];simp⟩
theorem agj (h:lD d c body st ys ag)(q:Rm (d+1) A)(S:Sx own st s)(R:dK own c env):iT (aQ X.prog X.w) A (.func body env) (denote table (.func body env)) [] s (uN A ys own s):=by
 refine tg (H:=.raise) (gd:=id) (lv:=λz=>[])<|wpAny_point ?_;rw[Sem.onRaise_eq_wrap,ue,sP];rw[Sem.wrap_congr (l4 body env) _ _ (K':=λf=>.pure<|.done<|.ret<|match f with|.ret v=>v|_=>.none)
  (H':=λe=>(leaving env e).wrap (λz=>.raise e) .raise id id) (λf=>by cases f<;>rfl)
  (λe=>by rw[Sem.bind_eq_wrap,sP];rfl)]
 rw[<-dM ys];refine h A _ [] env _ _ id id [] ⟨?_,rfl,rfl⟩ rfl own s own s .refl S R λmV wF av s' E' S' R' z=>s_end X.prog X.w A _ _ s' (.ok<|.ret .none) _ rfl ⟨rfl,av,_,E',S'⟩;obtain⟨h1,h2,h3⟩:=q;refine⟨h1,?_,?_⟩
 ·show A.depth+0+_+d<_;have:Code.weight (.func body env)=1:=rfl;exact ah [_,_,_,_,_] (.lt (.a .o<|.a .i .u) .w<|.eq .x .u<|.gt (.a (.a (.a .o .k) .x) .i) .w) rfl h2 this
 show A.units+0+_+8*d<_;exact ah [_,_,_,_] (.lt (.a .o<|.m 8<|.a .i .j) .u<|.eq .w (.n 3)<|.gt (.a (.a (.a .o .k) .w)<|.m 8 .i) .u) rfl h3 rfl
end
section
open PySem PySem.W PySem.Calls PyProof.Rows PySem.W.X
variable {d:Nat}{c:aY}{st aw ag:List ae}
def WK (A:Around)(gs:vK)(s:az)(P:End->az->Prop):Prop:=(∃th,gs=.fresh th∧iT (aQ X.prog X.w) A th (denote table th) [] s P)∨(∃k l th p fs cl,gs=.suspended k l th p fs cl∧iT (aQ X.prog X.w) A th (k (.send .none)) fs s P)
theorem agk {A:Around}{s:az}{ga:ai}{g:Nat}{gs:vK}{P:End->az->Prop}{Q:Option an->az->Prop}(hh:A.handled=none)(hl:s.heap.NoLimit)(G':A.depth<Ka) (hg:s.heap.IsGen ga g)(uO:s.gens[g]?=some gs)(Ha:WK A.in1 gs (s.setGen g .running) P) (hP:∀e s₁,e.quiet=true->P e s₁->(e=.ret (.ok (.ret .none))∧∀h',(∀b o,s₁.heap.get? b=some o->h'.get? b=some o)->Q none {s₁.setGen g .finished with heap:=h'})∨(∃v gd l k c p fs,e=.susp v gd l k c p fs∧Q (some v) (s₁.setGen g e.genState))):be (aQ X.prog X.w) A (l8 (.ref ga)) Q (λx x=>False) s:=by
 refine aB (zV (zW hg.typeIs slot_gen_next
  (vX slot_gen_next hg.typeIs entry_gen_next ?_<|args_gen_next _)))
 show be _ _ (Builtin.Generator.genWake (.ref ga)<|.send .none) _ _ s;refine aB<|vN<|wpAny_genNumber hg<|aB<|wpAny_genState uO ?_;have go:∀{E:an->az->Prop} {l:List an} {k:GenResult->Sem xK} {Q':xK->az->Prop},(∀e s₁,e.quiet=true->P e s₁->be (aQ X.prog X.w) A.in1 (k e.result) Q' E (s₁.setGen g e.genState))->be (aQ X.prog X.w) A.in1 (.resume g (.send .none) l k) Q' E s:=by
  intro E l k Q' hk;rcases Ha with⟨th,rfl,hx⟩|⟨WL,WM,th,WN,agl,cl,rfl,hx⟩
  ·exact wake_any (α:=xK) X.prog X.w uO (.inl ⟨rfl,rfl,rfl,rfl⟩) (λΓ=>Γ.In A.in1) (λx h=>h) λΓ p hc hΓ=>by obtain⟨e,s',hr,hq,hp⟩:=hx Γ p hc hΓ;exact⟨e,s',hr,hq,λNt p' hC=>hk e s' hq hp Nt p' hC⟩
  exact wake_any (α:=xK) X.prog X.w uO (.inr ⟨WL,WM,WN,cl,rfl,rfl⟩) (λΓ=>Γ.In A.in1) (λx h=>h) λΓ p hc hΓ=>by obtain⟨e,s',hr,hq,hp⟩:=hx Γ p hc hΓ;exact⟨e,s',hr,hq,λNt p' hC=>hk e s' hq hp Nt p' hC⟩
 have hst:gs.status=.fresh∨gs.status=.suspended:=by
  rcases Ha with⟨th,rfl,hx⟩|⟨WL,WM,th,WN,agl,cl,rfl,hx⟩
  ·exact .inl rfl
  exact .inr rfl
 generalize gs.status=art at *;have hw:be (aQ X.prog X.w) A.in1 roomToWake (λx s'=>s'=s) (λx x=>False) s:=wpAny_roomToWake hl G' rfl;rcases hst with e|e<;>rw[e]<;>clear e<;>refine ?same
 refine aB<|wpAny_roomToWake hl G' ?_;refine go λe s₁ hq hp=>?_;rcases hP e s₁ hq hp with⟨rfl,hQ⟩|⟨v,gd,l,k,c,p,fs,rfl,hQ⟩
 ·show be _ _ (newExc (.type "StopIteration") []>>=_) _ _ _;apply aB;refine aB (vQ ?_<|by size_fits);refine aB<|wpAny_of_eq (by first|rfl|(simp [firstArgMember];rfl)) ?_;refine vQ ?_ (by size_fits);refine aB<|aB<|wpAny_handled ?_;rw[hh];apply wpAny_throw;exact aB<|RB ⟨_,iy _ rfl,rfl⟩ RD<|bH<|hQ _ λb o hb=>fT _<|fT _ hb
 exact bH ⟨v,rfl,bH hQ⟩
theorem RelV.iW (hv:∀a o,h.get? a=some o->eO o->a∉own) y (h0:y.lo 0=true)(r:RelV fp h y v):RelV own h y v:=RelV.mv ((⟨λx x x e=>nS e,λb o e v x x=>⟨hv b o e v,e⟩⟩)) y y v (CV.kR (λk hk=>absurd hk<|zY k) y h0) r
theorem Sx.nil (S:Sx own st s):Sx [] [] s:=⟨S.bj,rfl,EX,λa h=>(nomatch h),λi o a e=>(nomatch e),S.cU,S.bare,S.tk,S.ok⟩
theorem WO {x:vK}(h:AllBare gens)(hx:x.bare=true):AllBare (gens.setIfInBounds g x):=λy hy=>by
 rcases Array.mem_or_eq_of_mem_setIfInBounds hy with h'|h'
 ·exact h y h'
 exact h'▸hx
theorem Sx.setGen (S:Sx own st s){x:vK}(hx:x.bare=true):Sx own st (s.setGen g x):=⟨S.bj,S.len,S.kj,S.fresh,S.iV,S.cU,WO S.bare hx,S.tk,S.ok⟩
theorem Sx.Dn (S:Sx own st s)(F:Sx fp tm s)(E:a9 fp s g8 s')(F':Sx g8 A0 s')(hd:∀a∈fp,a∉own):Sx own st s':=by refine⟨F'.bj,S.len,S.kj,S.fresh,λi o a e1 e2=>?_,F'.cU,F'.bare,F'.tk,F'.ok⟩;have r:=S.iV i o a e1 e2;obtain⟨ob,e⟩:=r.qh;exact r.aM ⟨λx x e=>e,λb o e v x hp=>E.bj b o e (F.rC e v) hp,λx h=>.inl h⟩<|((λa ha o e=>E.bj a o e (λh=>hd a h ha) (S.fresh a ha).2) a (c8 e2) ob e).trans e.symm
theorem agp {s:az}{g i:Nat}{x y:vK}(h:s.gens[i]?=some y)(cz:i≠g):(s.setGen g x).gens[i]?=some y:=by show(s.gens.setIfInBounds g x)[i]?=_;rwa[Array.getElem?_setIfInBounds_ne<|rc cz]
theorem sT.setGen {x:vK}(h:sT aT s)(h0:aT.gens[g]?=none):sT aT (s.setGen g x):=⟨h.os,λi y e=>agp (h.gens i y e) λq=>by rw[q,h0] at e;exact nS e⟩
structure yE (A:Around)(ys:List CV)(bx:List ai)(aT:az)(own:List ai)(st:List ae)(s:az)(ga:ai)(g:Nat)(fp:List ai):Prop where
 E:a9 bx aT own s
 S:Sx own st s
 yF:s.heap.IsGen ga g
 g1:ga∉own
 g2:ga∉X.P
 g3:ga∉fp
 run:∃gs,s.gens[g]?=some gs∧WK A.in1 gs (s.setGen g .running) (uN A.in1 ys fp (s.setGen g .running))
 g0:aT.gens[g]?=none
 Dp:∀a∈fp,aT.heap.get? a=none∧a∉own
 F:∃tm,Sx fp tm s
 q0:∀q∈X.P,∃o,aT.heap.get? q=some o
theorem a9.Dn {tm:List ae}(E:a9 bx aT own s)(E':a9 fp s g8 s')(h0:∀a∈fp,aT.heap.get? a=none)(F':Sx g8 A0 s'):a9 bx aT own s':=
 ⟨E.pre,E.new,λb o e hn hp=>E'.bj b o (E.bj b o e hn hp) (λh=>by rw[h0 b h] at e;exact nS e) hp,λq hq o e=>let ⟨ps,e',_⟩:=F'.cU q hq;⟨_,e'⟩,E.os.trans E'.os⟩
theorem yE.next (I:yE A ys bx aT own st s ga g fp)(q:Rm d A)(jD:ys=[]->∀s',a9 bx aT own s'->Sx own st s'->Q none s')(agq:∀y r,ys=y::r->y.lo 0=true->∀v s' g8,a9 bx aT own s'->Sx own st s'->RelV own s'.heap y v->s'.heap.IsGen ga g->(∀aO s₁ aw,a9 own s' aO s₁->Sx aO aw s₁->yE A r bx aT aO aw s₁ ga g g8)->Q (some v) s')(b9:∀y∈ys,y.lo 0=true):be (aQ X.prog X.w) A (l8 (.ref ga)) Q (λu u=>False) s:=by
 obtain⟨gs,uO,agr⟩:=I.run;obtain⟨tm,F⟩:=I.F;have Fr:Sx fp tm (s.setGen g .running):=F.setGen rfl;have Sr:Sx own st (s.setGen g .running):=I.S.setGen rfl;have Er:a9 bx aT own (s.setGen g .running):=⟨I.E.pre,I.E.new,I.E.bj,I.E.cU,I.E.os.setGen I.g0⟩;have hgr:(s.setGen g .running).gens[g]?=some .running:=by show(s.gens.setIfInBounds g .running)[g]?=_;rw[aqy<|(abI.mp uO).1]
 refine agk q.1 (I.S.ok.fw.nolimit.keeps I.S.bj) q.depth I.yF uO agr λe s₁ hq hp=>?_;cases ys with
 |nil=>obtain⟨rfl,g8,A0,E',F'⟩:=hp;refine .inl ⟨rfl,λh' hk=>?_⟩;have bK:=Er.Dn (tm:=tm) E' (λa ha=>(I.Dp a ha).1) F';have bq:=Sr.Dn Fr E' F' λa ha=>(I.Dp a ha).2;have bX:a9 bx aT own (s₁.setGen g .finished):=⟨bK.pre,bK.new,bK.bj,bK.cU,bK.os.setGen I.g0⟩;have bw:Sx own st (s₁.setGen g .finished):=bq.setGen rfl;exact jD rfl _ (bX.trans<|a9.more hk) (bw.more hk)|cons y r=>
  obtain⟨v,l,k,c',p,fs,g8,A0,rfl,E',F',rv,Ha⟩:=hp;refine .inr ⟨v,false,l,k,c',p,fs,rfl,?_⟩;have bK:=Er.Dn (tm:=tm) E' (λa ha=>(I.Dp a ha).1) F';have bq:=Sr.Dn Fr E' F' λa ha=>(I.Dp a ha).2;generalize WP:(End.susp v false l k c' p fs).genState=yG;have hb:yG.bare=true:=WP▸End.bare_of_quiet hq;have bX:a9 bx aT own (s₁.setGen g yG):=⟨bK.pre,bK.new,bK.bj,bK.cU,bK.os.setGen I.g0⟩;have bw:Sx own st (s₁.setGen g yG):=bq.setGen hb;have y0:=b9 y<|.head _;have Nu:s₁.heap.IsGen ga g:=by obtain⟨o,nm,qn,ho,hr⟩:=I.yF;exact⟨o,nm,qn,E'.bj ga o ho I.g3 I.g2,hr⟩
  have Nv:∀a∈g8,aT.heap.get? a=none∧a∉own:=λa ha=>by
   rcases E'.new a ha with h|h
   ·exact I.Dp a h
   refine⟨?_,Sr.jO h⟩;cases e:aT.heap.get? a with
   |none=>rfl|some o=>
    exfalso;have MB:=(F'.fresh a ha).2;by_cases ho:a∈bx
    ·obtain⟨w,hw⟩:=Er.pre;exact Sr.jO h<|hw▸EY _ ho
    rw[Er.bj a o e ho MB] at h;cases h
  refine agq y r rfl y0 v _ g8 bX bw (RelV.iW (λa o e t=>bq.rC e t) y y0 rv) Nu λaO aR aJ dC cF=>?_;have kp:∀a∈g8,aR.heap.get? a=s₁.heap.get? a:=λa ha=>by obtain⟨ob,e⟩:=F'.qh ha;exact(dC.bj a ob e (Nv a ha).2 (F'.fresh a ha).2).trans e.symm
  have ag:∀x:vK,x.bare=true->G8 g8 s₁ (aR.setGen g x):=λx hx=>⟨(cF.setGen hx).nil,kp,λb o e t hp=>dC.bj b o e (λhm=>bw.rC e t hm) hp⟩;refine⟨bX.trans dC,cF,?_,λhm=>?_,I.g2,λhm=>?_,⟨yG,dC.os.gens g yG ?_,?_⟩,I.g0,λa ha=>⟨(Nv a ha).1,λhm=>?_⟩,⟨A0,?_⟩,I.q0⟩
  ·obtain⟨o,nm,qn,ho,hr⟩:=Nu;exact⟨o,nm,qn,dC.bj ga o ho I.g1 I.g2,hr⟩
  ·obtain⟨o,nm,qn,ho,hr⟩:=Nu;rcases dC.new ga hm with h|h
   ·exact I.g1 h
   rw[show s₁.heap.get? ga=none from h] at ho;exact nS ho
  ·obtain⟨o,nm,qn,ho,hr⟩:=I.yF;rcases E'.new ga hm with h|h
   ·exact I.g3 h
   rw[show s.heap.get? ga=none from h] at ho;exact nS ho
  ·show(s₁.gens.setIfInBounds g yG)[g]?=_;rw[aqy<|(abI.mp<|E'.os.gens g _ hgr).1]
  ·exact .inr ⟨k,l,c',p,fs,_,WP.symm,Ha _<|ag .running rfl⟩
  ·obtain⟨ob,e⟩:=F'.qh ha;rcases dC.new a hm with h|h
   ·exact(Nv a ha).2 h
   rw[show s₁.heap.get? a=none from h] at e;exact nS e
  have:=(ag yG hb).WJ F';exact⟨this.bj,this.len,this.kj,this.fresh,this.iV,this.cU,cF.bare,cF.tk,cF.ok⟩
theorem agu (h:s.heap.IsGen ga g)(hQ:Q () s):be (aQ X.prog X.w) A (ri target (.ref ga) v) Q (λx x=>False) s:=by obtain⟨o,nm,qn,ho,hc,_⟩:=h;exact LW ho hc rfl hQ
theorem agv (b9:∀y∈ys,y.lo 0=true):∀{st ag} {f},fG d c target body (λu=>True) ys st f ag->∀{A bx aT own s ga g fp env},Rm d A->yE A ys bx aT own st s ga g fp->dK own c env->gK (aQ X.prog X.w) A (.forLoop target (.ref ga) body [] env) (x9 bx aT ag f) s:=by
 have item:∀{y:CV} {ys:List CV} {st aw:List ae} {A bx aT own s ga g fp env} {R:Kc->az->Prop},(∀z∈y::ys,z.lo 0=true)->dj d c target y st aw->Rm d A->yE A (y::ys) bx aT own st s ga g fp->dK own c env->
  (∀aO s₁,a9 bx aT aO s₁->Sx aO aw s₁->dK aO c env->(∀aS aR aJ,a9 aO s₁ aS aR->Sx aS aJ aR->∃g8,yE A ys bx aT aS aJ aR ga g g8)->
   be (aQ X.prog X.w) A (l4 body env) (λf bu=>match f with
    |.next|.cont=>gK (aQ X.prog X.w) A (.forLoop target (.ref ga) body [] env) R bu|.brk=>R (.ok .next) bu|.ret v=>R (.ok<|.ret v) bu) (λu u=>False) s₁)->gK (aQ X.prog X.w) A (.forLoop target (.ref ga) body [] env) R s:=by
  intro y ys st aw A bx aT own s ga g fp env R b9 ha q I R' k;refine AA<|I.next q (λe=>nomatch e) (λy' r e y0 v s' g8 bK bq rv hg kk=>?_) b9;cases e;apply agu hg;exact bC (ha A own s' env v q bq ⟨R'.scope,R'.kind,R'.wc,R'.cells,R'.globals,R'.builtins,R'.tab⟩ rv) (λu aR ⟨aS,bX,bw⟩=>k aS aR (bK.trans bX) bw (R'.ext bX) λdt bu cE dC cF=>⟨g8,kk dt bu cE (bX.trans dC) cF⟩) λu u x=>x
 induction ys with|nil=>intro st ag f h A bx aT own s ga g fp env q I R;obtain⟨_,rfl,rfl⟩:=h;exact AA (I.next q (λu s' E' S'=>⟨_,own,rfl,E',S',rfl⟩) (λy r e=>nomatch e) b9)|cons y ys ih=>intro st ag f h A bx aT own s ga g fp env q I R;obtain⟨_,_,_,_,ha,hx,hr⟩:=h;refine item b9 ha q I R λaO s₁ bK bq uM kk=>bC (hx A aO s₁ env q bq uM) (λfl aR ⟨aS,bX,bw,rf⟩=>Vm hr (bK.trans bX) bw rf λh=>?_) λu u x=>x;obtain⟨g8,I'⟩:=kk aS aR _ bX bw;exact ih (λy hy=>b9 y<|.tail _ hy) h q I'<|uM.ext bX
theorem agw {pos:Pos}(hp:Av f=false)(hf:a8 (d+4) c f st (.aH a) aw)(hv:qj (d+4) c args aw vs aJ)(hk:sV (d+4) c fg aJ ks cE)(uy:oM (.aH a) cE)(F:CS a fd yH)(x7:fd.scope.isGenerator=true)(hb:db fd cE vs ks binds cE)(ly:Gu fd.scope binds=true)(WQ:∀n,je n fd.scope.names []=[])(WR:(binds.all λp=>p.2.lo 0)=true)(hg:lD d (da fd.scope 0 none) yH [.frame (CQ fd.scope binds)] ys Hb)(b9:∀y∈ys,y.lo 0=true)(h:fG (d+4) c target body (λu=>True) ys cE fl ag):dB (d+4) c (.For target (.Call f args fg tn) body [] pos) st fl ag:=λA own s env q S R=>by
 refine wpAny_For (UF hp hf hv hk uy q S R λaS aR fv ws kk bX bw fQ cx di=>?_)<|AD rfl;subst fQ;obtain⟨oc,od,kU,LR⟩:=F.bD;refine Ri<|codeAny_call_generator q.depth (bw.bj _ _<|bw.ok.k _ _ LR) rfl F.co x7 F.body (codeRec_of (λa o e=>bw.bj _ _<|bw.ok.k a o e) F.code) (hb aS aR ws kk bw cx di _ _ _ _ λdt bs bu dC cF wj=>?_);rw[F.aH,F.d3,F.blt];refine bC (xG (l7.mpr cF.tk) (E:=λu u=>False) (Q:=λenv s'=>env=_∧InCallC bu env.locals (bindL env.kindOf bs λu=>none) env.cells (bindC env.kindOf bs λu=>none) s')
  (ap7 F.kind (λx hx=>?_) λenv he s' x=>⟨he,x⟩)) (λtp kq hx=>?_) λu u x=>x.2.elim
 ·have hm:x.1∈binds.map (·.1):=cf.names wj▸Kf hx;obtain⟨p,hp,e⟩:=cu.mp hm;have:=dI.mp ly p hp;rw[e] at this;rcases ap8.mp this with h1|h1
  ·exact .inl (by simpa using h1)
  rw[bz] at h1;obtain⟨h2,h3⟩:=h1;refine .inr ⟨by simpa using h2,?_⟩;obtain⟨i,hi,e2⟩:=pN.mp<|ap9.mp h3;have hm:=CR fd.scope.names (bu.heap.objs.size+1) [] i x.1 (by rw[bA hi,e2]);rw[abm (cellsFrom_names fd.scope.names 0 (bu.heap.objs.size+1) [] [] rfl▸F.Gs) hm];rfl
 obtain⟨ku,he,x⟩:=hx;obtain⟨qk,oU,jQ,mT,Vj⟩:=Vh cF wj rfl (by rw[he];rfl) (by rw[he];rfl) (by rw[he];rfl) F.nd F.Gs x (l7.mp ku);obtain⟨h',tk,rfl,eV⟩:=x.done;refine⟨(bw.ok.fw.nolimit.keeps cF.bj).keeps eV,?_⟩;have WS:bu.heap.get? tp.locals=none:=he▸iI (aG _);obtain⟨aL,WT,m,hm,hv⟩:=jQ.bD (by rw[dT<|aG _,fk];rfl);rw[mT] at WT;obtain rfl:=dE WT;have yI:=c8 mT;have C8:h'.get? h'.objs.size=none:=iI<|aG _;have Hc:bu.heap.get? h'.objs.size=none:=by cases e:bu.heap.get? h'.objs.size with|none=>rfl|some o=>rw[eV _ _ e] at C8;cases C8
 generalize Hd:({cls:=.type "generator",data:=.fields #[.int (bu.gens.size) 0,.str fd.name tk,.str fd.qualname<|tk+1]}:Obj)=go;have WU:∀b o,bu.heap.get? b=some o->(h'.push go).get? b=some o:=λb o e=>fT _<|eV b o e;have gb:AllBare (bu.gens.push<|.fresh<|.func yH tp):=cF.bare.push rfl;have wH:=cF.more (t:=tk+1+1) WU;have nR:Sx dt cE {bu with heap:=h'.push go,toks:=tk+1+1,gens:=bu.gens.push (.fresh<|.func yH tp)}:=⟨wH.bj,wH.len,wH.kj,wH.fresh,wH.iV,wH.cU,gb,wH.tk,wH.ok⟩;have He:=bX.trans dC;have A3:=He.trans<|a9.more (t:=tk+1+1) WU;have yl:a9 own s dt {bu with heap:=h'.push go,toks:=tk+1+1,gens:=bu.gens.push (.fresh<|.func yH tp)}:=⟨A3.pre,A3.new,A3.bj,A3.cU,⟨A3.os.os,λi y e=>by have:=A3.os.gens i y e;rw[Array.getElem?_push];rw[if_neg<|by exact ah [_,_] (.lt .o .i<|.g (-1) 0<|.no<|.eq .o .i) rfl ((abI.mp this).1)];exact this⟩⟩;have WV:(h'.push go).IsGen h'.objs.size bu.gens.size:=⟨_,_,_,iy _ (by rw[<-Hd];rfl),by rw[<-Hd],by rw[<-Hd],by rw[<-Hd]⟩;apply wpAny_pyIter_gen WV;have nv:∀o,(h'.push go).get? tp.locals=some o->¬eO o:=λo e t=>by obtain⟨ob,eb⟩:=jQ.qh yI;rw[fT _ eb] at e;obtain rfl:=dE e;exact jQ.rC eb t yI
 have I:yE A ys own s dt cE {bu with heap:=h'.push go,toks:=tk+1+1,gens:=bu.gens.push (.fresh<|.func yH tp)} h'.objs.size bu.gens.size [tp.locals]:=by
  have Sg:∀gens:Array vK,AllBare gens->Sx [tp.locals] [.frame<|CQ fd.scope binds] {bu with heap:=h'.push go,toks:=tk+1+1,gens:=gens}:=λgens hgb=>by
   refine⟨nR.bj,rfl,by simp,λb hb=>gV.mp hb▸jQ.fresh _ yI,λi o b e1 e2=>?_,nR.cU,hgb,nR.tk,nR.ok⟩;cases i with
   |succ i=>exact nS e1|zero=>
    obtain rfl:=dE e1;obtain rfl:=dE e2;obtain⟨ofr,es,ep,agz,agA⟩:=hm;refine⟨m,⟨ofr,es,ep,fT _ agz,agA⟩,λz=>?_⟩;rcases hv z with hz|hz
    ·exact .inl hz
    refine .inr ?_;cases hl:(CQ fd.scope binds).lookup z with|none=>rwa[hl] at hz|some v=>rw[hl] at hz;obtain⟨y,e1,e2⟩:=hz;have Nw:=dI.mp WR _ (by have:=abJ.mp<|Uj hl;exact(Ca.mp this).1);exact⟨y,e1,RelV.iW (λb o e t hb=>by rw[gV.mp hb] at e;exact nv o e t) v Nw<|e2.aM ⟨λu u e=>e,λb o e u u u=>fT _ e,λu h=>.inl h⟩⟩
  have hL0:=CW S He cF WS;refine⟨yl,nR,WV,cF.jO Hc,cF.mf Hc,?_,⟨.fresh<|.func yH tp,?_,.inl ⟨_,rfl,agj hg (Rm.in1<|Rm.le q<|by exact ah [_] (.gl (.a (.a .o .j) .j)<|.a .o<|.n 4) rfl) (Sg _<|WO gb rfl) ?_⟩⟩,?_,λb hb=>?_,⟨_,Sg _ gb⟩,λp hp=>let ⟨ps,e,_⟩:=S.cU p hp;⟨_,e⟩⟩
  ·intro hb;have e:=gV.mp hb;obtain⟨ob,eb⟩:=jQ.qh yI;have WW:h'.get? h'.objs.size=some ob:=by rwa[e]
   rw[C8] at WW;exact nS WW
  ·show(bu.gens.push _)[bu.gens.size]?=_;simp
  ·refine⟨by rw[he];rfl,F.kind,rfl,?_,by rw[he];rfl,by rw[he];rfl,λq hq=>nomatch hq⟩;show gZ _ (je 1 fd.scope.names []) _;rw[WQ,he];exact WQ _
  ·cases e:s.gens[bu.gens.size]? with|none=>rfl|some y=>have:=He.os.gens _ _ e;rw[Array.getElem?_eq_none<|aG _] at this;exact nS this
  exact gV.mp hb▸⟨hL0,cF.jO WS⟩
 refine pS (agv b9 h q I<|R.ext He) λr s' ⟨fl,av,e,E',S',rf⟩=>?_;subst e;exact⟨av,E',S',rf⟩
end
section
theorem Nx (xs:List α) a:∀n,((aK n).map (a + ·)).filterMap (xs[·]?)=(xs.drop a).take n
 |0=>by simp|n+1=>by rw[abK,fU,List.filterMap_append,Nx xs a n];rw[aa2,sL];congr 1
noncomputable def eZ (lo:Option Int)(n:Nat):Nat:=lo.elim 0 (nH n)
noncomputable def i5 (hi:Option Int)(n:Nat):Nat:=hi.elim n (nH n)
theorem Hf (xs:List α) lo hi:e7 xs lo hi none=(xs.drop (eZ lo xs.length)).take (i5 hi xs.length-eZ lo xs.length):=by unfold e7;rw[sliceBounds_plain];rw[sliceRange_one,Nx];rfl
theorem Dq x  lo hi:gD x lo hi=⟨((x.cps.toList.drop (eZ lo x.length)).take (i5 hi x.length-eZ lo x.length)).toArray⟩:=by
 have e:Kp lo hi 1 x.length=(aK<|i5 hi x.length-eZ lo x.length).map (eZ lo x.length + ·):=by have:=sliceBounds_plain lo hi x.length;show Rt (zS lo hi none x.length).1 (zS lo hi none x.length).2.1 1=_;exact this▸sliceRange_one _ _
 have hn:x.length=x.cps.toList.length:=by simp [Fi]
 have Ny:i5 hi x.length<=x.length:=by cases hi with|none=>exact aG _|some i=>exact Int.toNat_le.mpr<|Int.max_le.mpr ⟨mK _,Int.min_le_right _ _⟩
 unfold gD;rw[e];have pk:((aK<|i5 hi x.length-eZ lo x.length).map (eZ lo x.length + ·)).filterMap (x.cps[·]?)=(x.cps.toList.drop<|eZ lo x.length).take (i5 hi x.length-eZ lo x.length):=by have:=Nx x.cps.toList (eZ lo x.length)<|i5 hi x.length-eZ lo x.length;simpa using this
 rw[pk];by_cases h:(((aK<|i5 hi x.length-eZ lo x.length).map (eZ lo x.length + ·)).length==x.length)=true
 ·rw[if_pos h];simp [aV,fb,beq_iff_eq] at h;by_cases h0:x.length=0
  ·have:=Fj<|hn▸h0;apply xC;rw[this];simp;exact Rd h0
  have h1:eZ lo x.length=0:=by lia
  apply xC;rw[h1,sQ,uc<|by exact acB h hn]
 rw[if_neg h]
theorem yJ x  lo hi:(gD x lo hi).length<=x.length:=by
 rw[Dq];show(abB _).size<=_;simp [ig,nG,jA];have:x.cps.toList.length=x.length:=by simp [Fi]
 exact acC this
theorem uP (n k:Nat):nH n (k:Int)=min k n:=by
 unfold nH;rw[if_neg<|sB.mpr<|mK k];rcases Nat.le_total k n with h|h
 ·rw[abF<|EV.mpr h,zH h,abL<|mK _];rfl
 rw[Int.min_eq_right<|EV.mpr h,aai h,abL<|mK _];rfl
variable {d:Nat}{st:List ae}{k:Nat}{xs:List CV}
theorem jX (hk:st[k]?=some (.list xs)):gM d "append" (.ab k) st (.bi "list.append") [.ab k]:=yo F.slot_list_append F.type_list_append hk
theorem A4 (hk:st[k]?=some (.list xs)):gM d "pop" (.ab k) st (.bi "list.pop") [.ab k]:=yo F.slot_list_pop F.type_list_pop hk
theorem WY (hk:st[k]?=some (.list xs)):gM d "insert" (.ab k) st (.bi "list.insert") [.ab k]:=yo F.slot_list_insert F.type_list_insert hk
theorem Nz (hk:st[k]?=some (.list xs)):gM d "extend" (.ab k) st (.bi "list.extend") [.ab k]:=yo F.slot_list_extend F.type_list_extend hk
theorem agE:∀{a b} {st aw ag} {f},aI d c a st .next aw->aI d c b aw f ag->aI d c (a++b) st f ag:=λ{a b st aw ag f} h k A own s env q S R=>by
 have e:∀a,l4 (a++b) env=(l4 a env>>=λf=>match f with|.next=>l4 b env|f=>pure f):=λa=>by induction a with|nil=>rfl|cons x r ih=>rw[fM,Gi,Gi,ih,bind_assoc];congr 1;funext f;cases f<;>rfl
 rw[e];refine(h A own s env q S R).bind λaO fl s₁ bF ⟨bq,rf⟩=>?_;subst rf;exact k A aO s₁ env q bq<|R.ext bF
theorem jY n (h:aI d c (b.take n) st .next aw)(k:aI d c (b.drop n) aw f ag):aI d c b st f ag:=by have:=agE h k;rwa[E5] at this
end
section
variable {d:Nat}{c:aY}{st ag:List ae}
theorem CodeAll.mem:∀{cU},CodeAll cU h->∀q∈cU,CodeHd h q.1 q.2
 |_::_,k,_,.head _=>k.1|_::_,k,q,.tail _ hq=>CodeAll.mem k.2 q hq
theorem agF pos  ext ps (h:J9 ps):vL pos (ps++ext)=(vL pos ps).or (vL pos ext):=by
 fun_induction J9 ps with
 |case1=>rfl|case2 l t k u c r ih=>
  show vL pos (.int l t::.int k u::c::(r++ext))=_;rw[vL,vL];by_cases hh:(l==(pos.line)&&k==(pos.col))=true
  ·rw[if_pos hh,if_pos hh];rfl
  rw[if_neg hh,if_neg hh];exact ih h
 |case3=>exact h.elim
theorem agG (h:rB vs=true):∃q t,vs[1]?=some (.str q t):=by
 unfold rB at h;generalize vs[1]?=o at *;cases o with
 |none=>exact nB h|some v=>cases v<;>first|exact nB h|exact⟨_,_,rfl⟩
theorem Sx.tab (S:Sx own st s){P:ai}{t:Tok}(hP:P∈X.P)(hB:X.H.get? P=none)(hk:f6 P s.heap h')(hT:Ak h' P)(ht:t≠0):Sx own st {s with heap:=h',toks:=t}:=by
 have hv:∀o,s.heap.get? P=some o->¬eO o:=λo e v=>by obtain⟨ps,e',h1,_⟩:=S.cU P hP;rw[e] at e';obtain rfl:=dE e';obtain⟨q,t,e⟩:=agG<|(cP _).symm.trans<|v;exact triples_no_str h1 q t<|Array.getElem?_toList.trans e
 refine⟨S.CC hB hk,S.len,S.kj,S.fresh,λi o a e1 e2=>(S.iV i o a e1 e2).CD (eD.iW hv hk) hk<|Lh (λh=>(S.fresh P h).2 hP) e2,λq hq=>?_,S.bare,ht,S.ok⟩;by_cases uQ:q=P
 ·subst uQ;exact hT
 obtain⟨ps,e,r,r'⟩:=S.cU q hq;exact⟨ps,hk _ _ uQ e,r,r'.bj λb o e v x=>hk b o (λq=>hv o (q▸e) v) e⟩
theorem a9.tab {P:ai}{t:Tok}(hP:P∈X.P)(hk:f6 P s.heap h')(hT:Ak h' P):a9 own s own {s with heap:=h',toks:=t}:=
 ⟨⟨[],by simp⟩,λx h=>.inl h,λb o e x hp=>hk b o (λq=>hp<|q▸hP) e,λq hq o e=>by
  by_cases uQ:q=P
  ·subst uQ;obtain⟨ps,e',_⟩:=hT;exact⟨_,e'⟩
  exact⟨o,hk q o uQ e⟩,.of rfl rfl⟩
section
variable {M:Model}{A:Around}{E:an->az->Prop}{s:az}{name qual:Str}{params:pL}{body:aq}{scope:d8}{env:Env}{cd P:ai}{ps:Array an}{pos:Pos}{W0:Nat}{mg:Str->Option an} {qz:List (Str×ai)}{Q:an->az->Prop}
theorem agH (eG:closureFor scope env=pure qz)(agI:env.globals=jy)(hg:s.heap.Ns jy mg)(A5:env.code=.ref cd)(C:CodeHd s.heap cd P)(hP:s.heap.get? P=some (xy ps))(ht:J9 ps.toList) (hnf:vL pos ps.toList=none)(NA:jy≠P)(hb:s.heap.BuiltinsAt mg P) (h:∀c' yK h' tk pm,f6 P s.heap h'->s.heap.objs.size<=c'->h'.CodeRec (.ref c') qual->(∃o,h'.get? c'=some o∧o.cls=.type "code")->h'.get? P=some (xy (ps++#[rh pos.line,rh pos.col,.ref c']))->Q (.ref h'.objs.size) {s with heap:=h'.push {cls:=.type "function",data:=.func (vJ name qual params body scope qz pm (.ref c') yK)},toks:=tk}):be M A (makeFunction name qual params (.expr body) scope env [] [] [] pos W0) Q E s:=by
 rw[makeFunction_eq];simp [List.zip_nil_right,List.filterMap_nil,List.isEmpty_nil,if_true];obtain⟨bm,ob,hbm,agL,_,agM,hbo,Hg,agO,agP⟩:=hb;unfold makeTail;rw[eG,agI];refine aB<|bH ?_;have tail:∀yK s₁,(∀b o,s.heap.get? b=some o->s₁.heap.get? b=some o)->s.heap.objs.size<=s₁.heap.objs.size->s₁= {s with heap:=s₁.heap}->
  be M A (do
   let cv<-functionCode env pos W0 name qual params scope (.expr body);let bv<-builtinsFor jy env.builtins;let nm<-nsGet jy "__name__";let doc<-pure an.none
   newObj (.type "function") (.func {name:=name,qualname:=qual,params:=params,body:=.expr body,scope:=scope,globals:=jy,closure:=qz,closureTuple:=yK,code:=cv,builtins:=bv,defaults:=.none,kwdefaults:=.none,annotations:=none,pyModule:=nm.getD .none,doc:=doc})) Q E s₁:=λyK s₁ hk hz he=>by
  refine aB<|wpAny_functionCodeX A5 ((C.keeps hk).code (hk _ _ hP) ht) ((C.keeps hk).tab<|hk _ _ hP) hnf λc' h' tk hx Dr aZ x NB NC ⟨u,z,w,⟨⟨oc,v,tu,Ds,t⟩,y⟩⟩=>?_;have wo:=(hg.keeps hk).extBut hx NA;refine aB<|wpAny_builtinsFor wo hbm agL (hx _ _ agM<|hk _ _ hbo) Hg agO agP ?_;refine aB (wpAny_nsGet wo<|aB<|bH<|vQ ?_<|by size_fits);rw[he];exact h c' yK h' tk ((mg "__name__").getD .none) (λb o hb e=>hx b o hb<|hk _ _ e) (fC hz Dr) NB ⟨oc,tu,Ds⟩ NC.2
 cases qz with|nil=>exact aB (bH<|tail .none s (λx x e=>e) (aG _) rfl)|cons q r=>exact aB<|wpAny_newTextTuple<|tail _ _ (λb o e=>fT _ e) (by rw[E8];exact pY) rfl
end
inductive agQ (own:List ai)(s:az)(P:ai)(args:pL)(body:aq)(scope:d8)(qz:List (Str×ai))(v:an)(s':az):Prop|mk (h':bf) (tk:Tok) (nm qu:Str) (pm ct:an) (c':ai) (o:Obj) (vs:Array an) (q:Str) (t:Tok) (hk:f6 P s.heap h') (hT:Ak h' P) (hv:v=.ref h'.objs.size)
   (hs:s'= {s with heap:=h'.push {cls:=.type "function",data:=.func (vJ nm qu args body scope qz pm (.ref c') ct)},toks:=tk}) (h1:c'∉own) (h2:c'∉X.P) (h3:h'.get? c'=some o) (h4:o.data=.fields vs) (h5:vs[1]?=some (.str q t)) (h6:o.cls≠.type "callable_iterator")
theorem xT.CE {P:ai}{pos:Pos}(yL:J9 ps.toList)(rQ:xT h ps.toList)(hP:P∈X.P)(hk:f6 P h h')(hc:T8 h' (.ref c')):xT h' (ps++#[rh pos.line,rh pos.col,.ref c']).toList:=λrH cv e=>by
 rw[z3,agF _ _ _ yL] at e;cases hx:vL rH ps.toList with
 |some cv'=>rw[hx] at e;obtain rfl:=dE e;obtain⟨jU,o,vs,q,t,e1,e2,e3,e4,e5,e6⟩:=rQ rH _ hx;exact⟨jU,o,vs,q,t,e1,e2,hk _ _ (λz=>e2<|z▸hP) e3,e4,e5,e6⟩|none=>
  rw[hx] at e;have e':(if(((pos.line)==(rH.line:Int))&&((pos.col)==(rH.col:Int)))=true then some (an.ref c') else none)=some cv:=e;by_cases hz:(((pos.line)==(rH.line:Int))&&((pos.col)==(rH.col:Int)))=true
  ·rw[if_pos hz] at e';exact dE e'▸hc
  rw[if_neg hz] at e';exact nS e'
theorem agR (S:Sx own st s){P:ai}(hP:P∈X.P):jy≠P∧s.heap.BuiltinsAt X.mg P:=by
 have T:=S.ok.fw;have hB:=S.ok.T3 P hP;obtain⟨bm,ob,b1,b2,b3,b4,b5,b6⟩:=T.bmain;obtain⟨o,es,ep,e,hd,_⟩:=T.g;refine⟨λq=>?_,bm,ob,b1,b2,λq=>?_,λq=>?_,S.bj _ _ b3,b4,b5,b6⟩
 ·rw[q,hB] at e;exact nS e
 ·rw[q,e] at b3;obtain rfl:=dE b3;rw[hd] at b6;cases b6
 rw[q,hB] at b3;exact nS b3
theorem agS {P:ai}{pos:Pos}(S:Sx own st s)(R:dK own c env)(hq:(cd,P)∈X.cU)(A5:env.code=.ref cd)(hP:P∈X.P)(AK:closureFor scope env=pure qz):be (aQ X.prog X.w) A (makeFunction name qual args (.expr body) scope env [] [] [] pos n) (agQ own s P args body scope qz) (λx x=>False) s:=by
 have C:=(CodeAll.mem S.ok.code _ hq).keeps S.bj;obtain⟨ps,A6,yL,rQ⟩:=S.cU P hP;have uO:=S.ok.fw.g.keeps S.bj;obtain⟨NA,W1⟩:=agR S hP;cases hf:vL pos ps.toList with
 |some cv=>refine kla_makeFunctionHit AK R.globals uO A5 C A6 yL hf W1 λyK h' tk hk bn=>?_;obtain⟨c',o,vs,q,t,rfl,e2,e3,e4,e5,e6⟩:=rQ pos cv hf;exact⟨h',tk,_,_,_,_,c',o,vs,q,t,λb o x e=>hk b o e,⟨ps,hk _ _ A6,yL,rQ.bj λb o e x x=>hk b o e⟩,rfl,rfl,S.rC e3<|FT e4 e5 e6,e2,hk _ _ e3,e4,e5,e6⟩|none=>
  refine agH AK R.globals uO A5 C A6 yL hf NA W1 λc' yK h' tk pm hk Dr NB ⟨oc',agT,Ds⟩ NC=>?_;have ik:=iI Dr;obtain⟨oV,oc,vs,t,e2,tu,hd,hv⟩:=NB;cases e2;have Hg:oc.cls≠.type "callable_iterator":=by rw[dE<|tu.symm.trans agT,Ds];exact λz=>absurd (an.type.inj z) (by decide)
  have Hh:=S.mf ik;exact⟨h',tk,_,_,_,_,c',oc,vs,_,t,hk,⟨_,NC,by rw[z3];exact TriplesOk_snoc _ _ _ _ yL,rQ.CE yL hP hk ⟨c',oc,vs,_,t,rfl,Hh,tu,hd,hv,Hg⟩⟩,rfl,rfl,S.jO ik,Hh,tu,hd,hv,Hg⟩
theorem Hi (ht:c.tab=some q){pos:Pos}(agU:∀env,defaultsOf args env=([],[]))(eG:mW c.cells scope.names []=some cells):a8 d c (.Lambda args body scope pos) st (.ab st.length) (st++[.d3 args body scope cells none]):=λA own s env rm S R=>by obtain⟨hq,A5⟩:=R.tab q ht;obtain⟨cd,P⟩:=q;have hP:P∈X.P:=Kf hq;obtain⟨qz,AK,rcl⟩:=Vx R.cells eG;apply kla_eval<|agU env;refine bC (xG (l7.mpr S.tk)<|agS S R hq A5 hP AK) (λv s' hx=>?_) λu u x=>x.2.elim;obtain⟨ku,h',tk,nm,qu,pm,ct,c',o,vs,q,t,hk,hT,rfl,rfl,e2,Mw,e3,e4,e5,e6⟩:=hx;have lz:tk≠0:=l7.mp ku;have bq:=S.tab hP (S.ok.T3 P hP) hk hT lz;have bK:a9 own s own {s with heap:=h',toks:=tk}:=a9.tab hP hk hT;have eV:∀b o,h'.get? b=some o->(h'.push {cls:=.type "function",data:=.func (vJ nm qu args body scope qz pm (.ref c') ct)}).get? b=some o:=λb o e=>fT _ e;have iK:h'.get? h'.objs.size=none:=iI<|aG _;refine⟨own++[h'.objs.size],bK.trans<|a9.push eV iK,bq.push eV iK λg=>⟨nm,qu,qz,pm,.ref c',ct,none,iy _ rfl,⟨q,c',o,vs,t,rfl,eV _ _ e3,e4,e5⟩,⟨c',rfl,g.not e3 e2<|FT e4 e5 e6,Mw,λo' e=>?_⟩,rcl.aM g,rfl⟩,h'.objs.size,(by rw[<-S.len,dT<|aG _,fk];rfl),rfl⟩;rwa[<-dE ((eV _ _ e3).symm.trans e)]
end
section
variable {d:Nat}{c:aY}{st ag g:List ae}
theorem cf.lookup {x:Str}:∀{es} {k},cf own h es k->kQ own h (es.lookup x) (k.lookup x)
 |[],u,e=>by subst e;rfl|(y,cv)::es,u,⟨v,k',e,hv,hr⟩=>by subst e;rw[nD,nD];cases xU:x==y with|true=>exact⟨v,rfl,hv⟩|false=>exact cf.lookup hr
theorem cf.append:∀{es ls} {k k'},cf own h es k->cf own h ls k'->cf own h (es++ls) (k++k')
 |[],x,u,o,e,r=>by subst e;exact r|(y,cv)::es,x,u,o,⟨v,k',e,hv,hr⟩,r=>by subst e;exact⟨v,_,rfl,hv,cf.append hr r⟩
theorem cf.reverse:∀{es} {k},cf own h es k->cf own h es.reverse k.reverse
 |[],x,e=>by subst e;rfl|(y,cv)::es,x,⟨v,k',e,hv,hr⟩=>by subst e;rw[B3,B3];exact cf.append (cf.reverse hr) ⟨v,[],rfl,hv,rfl⟩
section
variable {prog:q9}{w:pM}{A:Around}{R:Kc->az->Prop}{s:az}
theorem agW {a:ai}{args:Args}{o:Obj}{fd:el}{body:aq}{q:Str}(G':A.depth<Ka) (ho:s.heap.get? a=some o)(lC:o.data=.func fd)(rQ:fd.scope.isCoroutine=false)(x7:fd.scope.isGenerator=false)(agX:fd.body=.expr body)(mh:s.heap.CodeRec fd.code q) (h:be (aQ prog w) A.in1 (sH fd args) (λbinds s₁=>be (aQ prog w) A.in1 (abv fd.scope fd.globals fd.closure binds (q++".<locals>.") (some a) fd.code none fd.builtins) (λenv aR=>aR.heap.NoLimit∧gK (aQ prog w) A (.expr body env) R aR) (λe s'=>R (.error e) s') s₁) (λe s'=>R (.error e) s') s):gK (aQ prog w) A (.call (.ref a) args) R s:=by
 refine Kh ?_;refine aB<|Rk ho ?_;obtain⟨c,oc,vs,tq,hc,tu,hdc,hq⟩:=mh;rw[lC];show be _ A.in1 (callFunction a fd args) _ _ s;delta callFunction;rw[hc] at h ⊢;rw[rQ,x7,agX];refine aB<|kf tu hdc hq<|aB<|bH ?_;exact aB (bC h (λbinds s₁ c9=>aB (bC c9 (λenv aR gf=>aB (wpAny_enterFrame gf.1 G'
  (bH<|And.intro rfl gf.2))) λx x h'=>h')) λx x h'=>h')
end
theorem Hj (hn:st[n]?=some (.d3 params body scope cells dict))(hb:∀nm qu cl pm cv ct,db (vJ nm qu params body scope cl pm cv ct) st args kw binds st)(rQ:scope.isCoroutine=false)(x7:scope.isGenerator=false)(ly:scope.kind=.function)(hnc:(scope.names.all λx=>x.2 != .cell)=true)(mT:(binds.all λp=>scope.names.lookup p.1==some .local)=true)(h:a8 d {scope:=scope,locals:=st.length,cells:=cells} body (st++[.frame binds.reverse]) v (ag++g))(bJ:st.length<=ag.length)(b9:(ag.all λo=>o.lo ag.length)=true)(uB:v.lo ag.length=true):bM (d+2) (.ab n) args kw st v ag:=λA own s fv vs ks q S fQ cx di=>by
 obtain⟨a,ha,rfl⟩:=fQ;obtain⟨a',b8,name,qual,cl,pm,jN,ct,dd,ho,⟨qq,mh⟩,ND,eG,W2⟩:=S.bD hn;rw[ha] at b8;obtain rfl:=dE b8;refine agW q.depth ho rfl rQ x7 rfl mh (hb name qual cl pm jN ct own s vs ks S cx di _ _ _ _ λaO bs s₁ bK bq wj=>?_);refine bC (xG (l7.mpr bq.tk) (E:=λu u=>False) (Q:=λenv s'=>env=newEnv scope s₁.heap.objs.size jy cl (qq++".<locals>.") (some a) jN none Kb∧∃h',h'.Ns s₁.heap.objs.size (λx=>bs.reverse.lookup x)∧sJ s₁.heap.objs.size (s₁.heap.push {cls:=.type "frame",data:=.dict #[]}) h'∧s'= {s₁ with heap:=h',toks:=s₁.toks+bs.length})
  (wpAny_newFunctionEnv (λx hx=>?_) (λx hx=>?_) (λh' mu NE=>⟨rfl,h',mu,NE,rfl⟩) ly)) (λenv s' hx=>?_) λu u x=>x.2.elim
 ·have:=dI.mp hnc x hx;simpa using this
 ·have hm:x.1∈binds.map (·.1):=by rw[<-cf.names wj];exact Kf hx
  obtain⟨p,hp,e⟩:=cu.mp hm;have:=dI.mp mT p hp;rw[e] at this;simpa using this
 obtain⟨ku,rfl,h',mu,NE,rfl⟩:=hx;have lz:=l7.mp ku;have hk:=λb o e=>NE.extBut b o (pQ<|sE e)<|fT _ e;have iK:s₁.heap.get? s₁.heap.objs.size=none:=iI<|aG _;refine⟨(S.ok.fw.nolimit.keeps bq.bj).keeps hk,kla_codeExpr ?_⟩;have bX:a9 aO s₁ (aO++[s₁.heap.objs.size]) {s₁ with heap:=h',toks:=s₁.toks+bs.length}:=a9.push hk iK;have R:dK (aO++[s₁.heap.objs.size]) {scope:=scope,locals:=st.length,cells:=cells} (newEnv scope s₁.heap.objs.size jy cl (qq++".<locals>.") (some a) jN none Kb):=
  ⟨rfl,ly,by rw[<-bq.len,dT<|aG _,fk];rfl,(eG.aM bK.aM).aM bX.aM,rfl,rfl,λq hq=>nomatch hq⟩
 refine bC (h _ _ _ _ (Rm.deeper<|Rm.le q<|Tq) (bq.push (o':=.frame binds.reverse) hk iK λg=>⟨_,mu,λx=>.inr (cf.reverse<|wj.aM g).lookup⟩) R) (λx aR ⟨aS,dC,cF,rx⟩=>?_) λu u x=>x.elim;obtain⟨dt,ya,e1,e2,E',S'⟩:=Gy S (bK.trans<|bX.trans dC) cF bJ b9;subst e1;exact⟨dt,E',S',aF.Gv e2 uB rx⟩
end
section
open PySem PySem.W PySem.Calls PyProof.Rows Builtin Builtin.ObjectAttr
variable {d:Nat}{c:aY}{st ag g:List ae}
theorem A7:StoreFacts "function" [.type "function",.type "object"] "object.__setattr__" "object" where
 mro:=by rw[mroOf_type];kernel_rfl
 slot:=.of (owner:="object") (n:="__setattr__") (by rw[B9,B'];kernel_rfl) (by decide +kernel) (by decide +kernel) (by decide +kernel)
  (by first|exact .inl (by decide +kernel)|exact .inr<|by decide +kernel) (by rw[Rz];kernel_rfl)
 entry:=PySem.F.store_object.entry
 kind:=by decide +kernel
 split:=by decide +kernel
 hasOwner:=by decide +kernel
 args:=λa b c=>by kernel_rfl
 passes:=λqf=>by kernel_rfl
theorem Hk:Slot "function" "__getattribute__" "object.__getattribute__":=
 .of (owner:="object") (n:="__getattribute__") (by rw[B9,B'];kernel_rfl) (by decide +kernel) (by decide +kernel) (by decide +kernel)
  (by first|exact .inl (by decide +kernel)|exact .inr<|by decide +kernel) (by rw[Rz];kernel_rfl)
theorem ag0:Fg table "object.__getattribute__"=some Builtin.«object.__getattribute__»:=RA (by kernel_rfl)
theorem ag2:Fc (.type "function") "__getattr__"=pure none:=by rw[B9,B'];kernel_rfl
theorem W3:Fc (.type "function") "read"=pure none:=by rw[B9,B'];kernel_rfl
theorem ag3:typeHasDict (.type "function")=true:=by kernel_rfl
theorem ag5 {k:Nat}(hk:st[k]?=some (.d3 ps b sc cells none))(hl:Fc (.type "function") name=pure none):uA d name (.ab k) v st (((st++[ae.bt []]).set k (.d3 ps b sc cells (some st.length))).set st.length (.bt [(name,v)])):=λA own s x y q S r rv=>by
 obtain⟨a,ha,rfl⟩:=r;obtain⟨a',b8,NF,qual,cl,pm,jN,ct,dd,ho,lE,ND,eG,W2⟩:=S.bD hk;rw[ha] at b8;obtain rfl:=dE b8;have ag6:=W2;subst ag6;have hT:∀t,abH {s with toks:=t} (.ref a) "function":=λt=>⟨_,ho,rfl⟩;have aZ:=(bV.mp hk).1;refine aB<|B1<|aB<|zW (hT _) A7.slot<|vX A7.slot (hT _) A7.entry ?_<|A7.args _ _ _;rw[osa_eq,refuse_eq];refine aB<|aB<|RJ (hT _) ?_;rw[A7.mro,pure_bind,A7.passes];refine bH<|aB<|RJ (hT _) ?_;rw[hl,pure_bind];show be _ _ (instanceDict a true>>=_) _ _ _;refine aB<|aB<|B8 ho ?_;dsimp only;rw[ag3];simp only [mN,Bool.or_self,gJ,if_false];refine aB<|wpAny_alloc ?_;have eV:∀b o,s.heap.get? b=some o->(s.heap.push {cls:=.type "dict",data:=.dict #[]}).get? b=some o:=λb o e=>fT _ e;have iK:s.heap.get? s.heap.objs.size=none:=iI<|aG _;have bq:=S.push (o':=.bt []) (t:=s.toks+1) eV iK λg=>⟨[],0,iy _ rfl,rfl⟩;have bK:a9 own s (own++[s.heap.objs.size]) {s with heap:=s.heap.push {cls:=.type "dict",data:=.dict #[]},toks:=s.toks+1}:=a9.push eV iK;refine aB<|wpAny_update (eV _ _ ho) ?_;have Dg:((s.heap.push {cls:=.type "dict",data:=.dict #[]}).update a<|λo=>{o with dict:=some s.heap.objs.size}).get? a=some {cls:=.type "function",dict:=some s.heap.objs.size,data:=.func (vJ NF qual ps b sc cl pm jN ct)}:=
  E9 _ (eV _ _ ho) rfl
 have qx:f6 a (s.heap.push {cls:=.type "dict",data:=.dict #[]}) ((s.heap.push {cls:=.type "dict",data:=.dict #[]}).update a<|λo=>{o with dict:=some s.heap.objs.size}):=(rj ..).extBut;have AU:=bK.aM.bD _ _ ha;have Hl:(own++[s.heap.objs.size])[st.length]?=some s.heap.objs.size:=by rw[<-S.len,dT<|aG _,fk];rfl
 have bw:=bq.set (o':=.d3 ps b sc cells<|some st.length) (t:=s.toks+1) AU qx λg'=>by obtain⟨qq,lE⟩:=lE;have k1:=xS.mv bK.aM.mv lE ND;have k2:=xS.mv g'.mv k1.1 k1.2;exact⟨NF,qual,cl,pm,jN,ct,some s.heap.objs.size,Dg,⟨qq,k2.1⟩,k2.2,eG.aM bK.aM,s.heap.objs.size,Hl,rfl⟩
 have bX:=bK.trans<|a9.set (t:=s.toks+1) bq AU qx;generalize ((s.heap.push {cls:=.type "dict",data:=.dict #[]}).update a<|λo=>{o with dict:=some s.heap.objs.size})=gf at Dg qx bw bX ⊢;generalize hLe:s.heap.objs.size=L at *;obtain⟨L',Hm,dA,n,m4,NG⟩:=bw.bD (i:=st.length) (by rw[lZ (by exact SH aZ),dT<|aG _,fk];rfl);rw[Hl] at Hm;obtain rfl:=dE Hm;subst NG;simp only [if_false];refine aB<|bH<|bH ?_;show be _ _ (nsSet L name y>>=_) _ _ _;refine aB ?_;unfold nsSet;refine aB<|aB<|abr<|bH<|aB<|B1<|aB<|B8 m4 ?_;dsimp only;have Df:(!(([]:List nC).toArray).any (·.key.isStr name)&&(([]:List nC).toArray).any (·.refKey))=false:=by simp
 rw[aRefKeyMayBeTheName_at,Df];have e:=putName_dict name (q8 X.w.params name) (.str name<|s.toks+1) y ([]:List nC) n;have W4:(gf.update L<|Ry name (q8 X.w.params name) (.str name<|s.toks+1) y).get? L=some (BY (putL name (q8 X.w.params name) (.str name<|s.toks+1) y [])<|putN name [] n):=by rw[E9 _ m4 (by rw[e];rfl),e]
 refine wpAny_updatePart m4 ?_;refine aB<|wpAny_lookBehind W4 (pastItsLine_dict<|by rw[ig,vW];simp [putL]) ?_;have hs:f6 L gf (gf.update L<|Ry name (q8 X.w.params name) (.str name<|s.toks+1) y):=(rj ..).extBut;refine bH ⟨_,rfl,bH ?_⟩;exact⟨_,bX.trans<|a9.set bw Hl hs,bw.set Hl hs λg=>⟨_,_,W4,gm.MQ (es:=[]) ((rv.aM bX.aM).aM g) rfl⟩⟩
theorem ag7:(Manifest.canonical "object.__getattribute__" != "object.__getattribute__")=false:=by decide +kernel
theorem ag8 {k:Nat}(hk:st[k]?=some (.d3 ps b sc cells (some dd)))(hd:st[dd]?=some (.bt es))(hv:es.lookup name=some v)(hb:GX v=true)(hl:Fc (.type "function") name=pure none):gM d name (.ab k) st v []:=λA own s x pl q S r=>by obtain⟨a,ha,rfl⟩:=r;obtain⟨a',b8,NF,qual,cl,pm,jN,ct,dp,ho,lE,ND,eG,dx,qw,rfl⟩:=S.bD hk;rw[ha] at b8;obtain rfl:=dE b8;obtain⟨dx',De,dA,n,m4,hr⟩:=S.bD hd;rw[qw] at De;obtain rfl:=dE De;obtain⟨u,hu,ru⟩:=hr.get hv;have hT:∀t,abH {s with toks:=t} (.ref a) "function":=λt=>⟨_,ho,rfl⟩;refine aB<|Ko ⟨_,ho,rfl⟩ Hk.lookup ?_;dsimp only;rw[ag7];refine aB<|Ko ⟨_,ho,rfl⟩ ag2 ?_;refine aB<|Ko ⟨_,ho,rfl⟩ hl ?_;apply aB;refine aB<|B1<|vN<|aB<|RJ (hT _) ?_;rw[Hk.lookup,pure_bind];show be _ _ ((boundAndCalled (.builtin "object.__getattribute__") (.ref a)<|.str name s.toks).attempt>>=_) _ _ _;refine aB<|zV ?_;unfold boundAndCalled;rw[Hk.bind,pure_bind];refine vX Hk (hT _) ag0 ?_<|(by kernel_rfl);show be _ _ (typeOf (.ref a)>>=_) _ _ _;refine aB<|RJ (hT _) ?_;apply aB;unfold find;rw[hl,pure_bind];show be _ _ (ownThenClass (.ref a) name none none) _ _ _;apply aB;apply aB;refine aB<|B8 (s:={s with toks:=s.toks+1}) ho ?_;show be _ _ (instanceDict a false) _ _ _;unfold instanceDict;refine aB<|B8 ho ?_;apply bH;show be _ _ (nsGet dx name) _ _ _;unfold nsGet;refine aB<|B8 m4 ?_;rw[nsLook_of<|by rwa[Rx]];refine bH<|aB<|sC<|bH ?_;refine bH ⟨u,rfl,?_⟩;show be _ _ (handedOut u) _ _ _;rw[handedOut_of<|Wv hb ru];refine bH<|bH ?_;exact⟨own,.toks,S.toks _,ru,rfl⟩
end
section
variable {d:Nat}{c:aY}{st ag g:List ae}
theorem Hn {α:Type}{h:α->CV}{f:Nat->Option Nat}(H:∀x,(h x).bI f=some (h x))(xs:List α):CV.gn f (xs.map h)=some (xs.map h):=by induction xs with|nil=>rfl|cons x xs ih=>exact gC (H x) ih
theorem W5 f (cs:List Nat):CV.gn f (cs.map jR)=some (cs.map jR):=Hn (λx=>rfl) cs
theorem yM f (ss:List Str):CV.gn f (ss.map CV.str)=some (ss.map CV.str):=Hn (λx=>rfl) ss
theorem Ho f (ss:List Int):CV.gn f (ss.map CV.int)=some (ss.map CV.int):=Hn (λx=>rfl) ss
theorem fz (h:CV.gn f xs=some ys):(ae.list xs).bI f=some (.list ys):=congrArg (dg ae.list) h
theorem cq {α β:Type}{f:α->Option β}{x:α}{xs:List α}{y:β}{ys:List β}(h:f x=some y)(k:lA f xs=some ys):lA f (x::xs)=some (y::ys):=gC (g:=id) h k
theorem gq {k:Nat}{o:ae}(h:st[k]?=some o)(hr:o.bI f=some o'):st[k]?.bind (ae.bI f)=some o':=by rw[h];exact hr
theorem iF:lA f []=some []:=rfl
theorem wI {α:Type}{β:Type}{F:α->Option β}{xs:List α}{ys:List β}(hl:ys.length=xs.length)(h:∀(i:Nat) x y,xs[i]?=some x->ys[i]?=some y->F x=some y):lA F xs=some ys:=by
 induction xs generalizing ys with
 |nil=>cases ys with
  |nil=>rfl|cons u o=>cases hl
 |cons x xs ih=>cases ys with|nil=>cases hl|cons y ys=>exact cq (h 0 x y rfl rfl) (ih (by simpa using hl) λi a b h1 h2=>h (i+1) a b (by simpa using h1)<|by simpa using h2)
theorem NH:∀aU k,k∉aU->eW aU k=none
 |[],u,o=>rfl|x::r,k,h=>by rw[Me,if_neg (by simpa using λe:x=k=>h<|e▸.head _),NH r k λq=>h<|.tail _ q];rfl
theorem gr:∀aU j k,aU.Nodup->aU[j]?=some k->eW aU k=some j
 |[],u,o,z,h=>by exact nS h|x::r,0,k,hn,h=>by obtain rfl:=dE h;rw[Me,if_pos<|by simp]|x::r,j+1,k,hn,h=>by rw[re] at h;have hx:x≠k:=λe=>(zJ.mp hn).1<|e▸c8 h;rw[Me,if_neg (by simpa using hx),gr r j k (zJ.mp hn).2 h];rfl
theorem uR {k:Nat}(h:k<n):eW (aK n) k=some k:=gr _ _ _ xF (by rw[iS h])
theorem NI (b9:(st.all λo=>o.lo st.length)=true):g4 (aK st.length) (st++g)=some st:=by unfold g4;refine wI (by simp) λi k o h1 h2=>?_;have hi:i<st.length:=(bV.mp h2).1;rw[iS hi] at h1;obtain rfl:=dE h1;rw[d2 hi,h2];exact ae.kR (λk hk=>uR hk) o<|dI.mp b9 o<|c8 h2
theorem W6 (hl:ag.length=st.length)(b9:(ag.all λo=>o.lo st.length)=true):uE (aK st.length) (st++g) ag=some (ag++g):=by
 unfold uE;have hN:(st++g).length+(ag.length-(aK st.length).length)=st.length+g.length:=by simp [hl]
 rw[hN];refine wI (by simp [hl]) λi k o h1 h2=>?_;have hi:i<st.length+g.length:=by have:=(bV.mp h1).1;simpa using this
 rw[iS hi] at h1;obtain rfl:=dE h1;rw[if_pos<|by simpa using hi];by_cases h:i<st.length
 ·rw[uR h];rw[d2<|by exact o1 h hl] at h2;simp only [h2];exact ae.kR (λk hk=>by unfold jT;rw[iS hk]) o<|dI.mp b9 o<|c8 h2
 rw[NH _ _<|by simpa using h];rw[dT<|by(first|exact ah [_,_,_] (.eq .o .i<|.c 1 0 (.no<|.lt .u .i)<|.gl .o .u) rfl hl h|exact o8 h)] at h2 ⊢;rw[hl] at h2;exact h2
theorem bk.wide (h:bk d f args kw st v ag)(hl:ag.length=st.length)(h1:(st.all λo=>o.lo st.length)=true)(h2:(ag.all λo=>o.lo st.length)=true)(h3:f.lo st.length=true)(h4:CV.cV st.length args=true)(h5:(kw.all λp=>p.2.lo st.length)=true)(h6:v.lo st.length=true):bk d f args kw (st++g) v (ag++g):=
 h.at (aK st.length) xF (NI h1) (CV.kR (λk hk=>uR hk) f h3) (CV.FY (λk hk=>uR hk) h4) (CF (λk hk=>uR hk) h5) (W6 hl h2)
  (CV.kR (λk hk=>by unfold jT;rw[iS hk]) v h6)
theorem bM.wide (h:bM d f args kw st v ag)(hl:ag.length=st.length)(h1:(st.all λo=>o.lo st.length)=true)(h2:(ag.all λo=>o.lo st.length)=true)(h3:f.lo st.length=true)(h4:CV.cV st.length args=true)(h5:(kw.all λp=>p.2.lo st.length)=true)(h6:v.lo st.length=true):bM d f args kw (st++g) v (ag++g):=
 h.at (aK st.length) xF (NI h1) (CV.kR (λk hk=>uR hk) f h3) (CV.FY (λk hk=>uR hk) h4) (CF (λk hk=>uR hk) h5) (W6 hl h2)
  (CV.kR (λk hk=>by unfold jT;rw[iS hk]) v h6)
end
section
variable {d:Nat}{c:aY}{st ag g:List ae}
theorem Dt:∀{l:List α} {i} {x},l[i]?=some x->l.set i x=l
 |[],u,o,h=>by exact nS h|y::l,0,x,h=>by obtain rfl:=dE h;rfl|y::l,i+1,x,h=>by rw[abM,Dt<|by simpa using h]
theorem ag9 {y:Str}{pos:Pos}{k:Nat}(C9:st[c.locals]?=some (.frame vars))(hy:ji c st y=some (.ab k))(hyc:(y==("__classdict__":Str))=false)(hyd:(y==("__debug__":Str))=false)(hk:st[k]?=some .iz)(tw:c.scope.names.lookup xk=some .local)(k4:c.scope.names.lookup xv=some .local)(xZ:(mn.endLine==tn.line)=true):dB d c (.For (.Tuple [.Name xk pk,.Name xv pv] x1 pt) (.Call (.Attribute (.Name y py) "items" mn) [] [] tn) body [] pos) st .next st:=λA own s env q S R=>by
 obtain⟨L,hL,m,hm,hv⟩:=S.bD C9;have Hm:env.locals=L:=by have:=R.wc;rw[hL] at this;obtain rfl:=dE this;rfl
 subst Hm;obtain⟨a,ha,⟨n,ho⟩,mu⟩:=S.bD hk;have cz:k≠c.locals:=λe=>by rw[e,C9] at hk;cases hk
 have tx:env.kindOf xk=some .local:=by show env.scope.names.lookup xk=_;rwa[R.scope]
 have uS:env.kindOf xv=some .local:=by show env.scope.names.lookup xv=_;rw[R.scope];exact k4
 refine bC (xG (l7.mpr S.tk) (E:=λu u=>False) (Q:=λf s'=>f=.next∧∃h' tk,s'= {s with heap:=h',toks:=tk}∧h'.Ns env.locals m∧∀b o,b≠env.locals->s.heap.get? b=some o->h'.get? b=some o)
  (wpAny_For_items_locals (knd:=strKind X.prog X.w) (kvs:=[]) q.1 tx uS (by rw[R.hk];rfl) (S.ne ha hL cz) mu ⟨_,#[],ho,⟨rfl,rfl,rfl⟩,rfl,?_,.nil,by simp⟩ hm rfl xZ (λQ' hQ'=>?_) (λu m'=>m'=m) rfl (λi k v key arz s₁ h=>by exact nS h) λh' tk m' mU hJ eV=>⟨rfl,h',tk,rfl,hJ▸mU,eV⟩)) (λf s' hx=>?_) λu u x=>x.2.elim
 ·intro e he;simp at he
 ·exact wpAny_Name (Lm S R hy hyc λy hy'=>by obtain⟨a',b8,rfl⟩:=hy';rw[ha] at b8;obtain rfl:=dE b8;exact hQ') hyd
 obtain⟨ku,rfl,h',tk,rfl,mU,eV⟩:=hx;have hs:=λb o hb e=>eV b o hb e;have lz:tk≠0:=l7.mp ku;have S':=S.set (o':=.frame vars) hL hs<|λg=>⟨m,mU,λz=>(hv z).aM g⟩;rw[Dt C9] at S';exact⟨own,a9.set S hL hs,S',rfl⟩
theorem ahd {y:Str}(hf:∀vs:List an,vs.length=args.length->∃bs:List (Str×an),(∀own h,aF own h args vs->cf own h binds bs)∧sH fd ⟨vs,[]⟩=(alloc {cls:=.type "dict",data:=.dict #[]}>>=λd=>pure (bs++[(y,.ref d)]))):db fd st args [] (binds++[(y,.ab st.length)]) (st++[.iz]):=λown s vs ks S cx di M A E Q hQ=>by
 subst di;obtain⟨bs,h1,h2⟩:=hf vs (aF.length cx).symm;rw[h2];refine aB<|wpAny_alloc<|bH ?_;have eV:∀b o,s.heap.get? b=some o->(s.heap.push {cls:=.type "dict",data:=.dict #[]}).get? b=some o:=λb o e=>fT _ e;have iK:s.heap.get? s.heap.objs.size=none:=iI<|aG _;have ho:=S.ok.k _ _ (by kernel_rfl:X.K.lookup jy=some ((kF P0).lookup jy |>.getD default));have aZ:=sE<|S.bj _ _ ho;have mu:(s.heap.objs.size==sysModules)=false:=by simp only [beq_eq_false_iff_ne];exact ah [_] (.lt (.n 3) .o<|.g 1 0<|.no<|.eq .o .j) rfl aZ
 have E':a9 own s (own++[s.heap.objs.size]) {s with heap:=s.heap.push {cls:=.type "dict",data:=.dict #[]}}:=a9.push eV iK;apply hQ _ _ _ E'<|S.push eV iK λg=>⟨⟨0,iy _ rfl⟩,mu⟩;refine cf.append ((h1 own s.heap cx).aM E'.aM) ⟨_,[],rfl,⟨s.heap.objs.size,?_,rfl⟩,rfl⟩;rw[<-S.len,dT<|aG _,fk];rfl
end
section
section
variable {d:Nat}
structure gu (a:ai)(D:fe)(fd:el):Prop where
 is:CS a fd D.body
 scope:fd.scope=D.scope
 yF:D.scope.isGenerator=false
theorem gu.code {a:ai}{D:fe}{fd:el}(F:gu a D fd){args:List CV}{kw binds:List (Str×CV)}{st aw ag g:List ae}{f:cZ}{v:CV}{tab:Option (ai×ai)} (hb:db fd st args kw binds aw)(hk:Gu D.scope binds=true)(wi:∀q,tab=some q->q∈X.cU∧fd.code=.ref q.1) (h:aI d (da D.scope aw.length tab) D.body (aw++dU D.scope binds) f (ag++g))(hv:f=.ret v∨f=.next∧v=.none) (bJ:st.length<=ag.length)(b9:(ag.all λo=>o.lo ag.length)=true)(uB:v.lo ag.length=true):bM (d+2) (.aH a) args kw st v ag:=by
 have e:=F.scope;have we:Gu fd.scope binds=true:=by rw[e];exact hk
 have h':aI d (da fd.scope aw.length tab) D.body (aw++dU fd.scope binds) f (ag++g):=by rw[e];exact h
 exact aec F.is (by rw[e];exact F.yF) hb we wi h' hv bJ b9 uB
structure NJ (a:ai)(D:fe)(fd:el):Prop where
 is:CS a fd D.body
 scope:fd.scope=D.scope
 yF:D.scope.isGenerator=true
structure pd (C:ai)(name:Str)(a:ai)(D:fe)(fd:el):Prop where
 find:xJ X.K (.ref C) name=some (some (.ref a))
 ty:typeIn X.K (.ref a)=some (.type "function")
 bj:jz X.K (.ref a)=true
 fn:gu a D fd
end
def Du (g:Bool)(sc:d8):Bool:=decide (sc.kind=.function)&&(!sc.isCoroutine&&(sc.isGenerator==g&&(decide (fy sc.names).Nodup&&decide ((je 0 sc.names []).map (·.1)).Nodup)))
theorem W7 {nm:Str}(hl:(kF P0).lookup a=some ⟨oc,od,.func (fP nm qn D df kw md cd),kU⟩)(hc:codeIn (kF P0) cd qn=true)(hs:Du g D.scope=true):CS a (fP nm qn D df kw md cd) D.body∧D.scope.isGenerator=g:=by unfold Du at hs;rw[bz,bz,bz,bz] at hs;obtain⟨h1,h2,h3,h4,h5⟩:=hs;refine⟨⟨⟨_,_,_,by rw[hX];exact hl⟩,rfl,rfl,rfl,rfl,by rw[hX];exact hc,?_,(by simpa using h2:D.scope.isCoroutine=false),of_decide_eq_true h4,of_decide_eq_true h5⟩,eq_of_beq h3⟩;exact of_decide_eq_true h1
theorem ahf {nm:Str}(hl:(kF P0).lookup a=some ⟨oc,od,.func (fP nm qn D df kw md cd),kU⟩)(hc:codeIn (kF P0) cd qn=true)(hs:Du true D.scope=true):NJ a D (fP nm qn D df kw md cd):=
 let h:=W7 hl hc hs
 ⟨h.1,rfl,h.2⟩
theorem NK {k:List (Str×CV)}(hk:cf own hp k kv)(names:List Str):∀cs vs,aF own hp cs vs->cf own hp (names.zip cs++k) (names.zip vs++kv):=by
 induction names with
 |nil=>exact λx x x=>hk|cons n ns ih=>intro cs;cases cs with|nil=>intro vs r;rw[show vs=[] from r];exact hk|cons c cs=>intro vs r;obtain⟨v,r',e,hv,hr⟩:=r;rw[e];exact⟨v,_,rfl,hv,ih cs r' hr⟩
theorem yN {Q:List an->Prop}(h:Q []) vs (e:vs.length=0):Q vs:=by rw[Fj e];exact h
theorem kE {Q:List an->Prop}{n:Nat}(h:∀v vs,vs.length=n->Q (v::vs)) vs (e:vs.length=n+1):Q vs:=by cases vs with|nil=>nomatch e|cons v vs=>exact h v vs<|RK e
section
variable {st:List ae}{fd:el}{x1 x2 x3 x4 x5:Str}{c1 c2 c3 c4 c5:CV}{rest:List (Str×CV)}{i6:List (Str×an)}
theorem Hp (names:List Str)(h:∀vs,vs.length=args.length->∀S,pR (kF P0) S (sH fd ⟨vs,[]⟩)=some (names.zip vs++i6))(hr:∀own hp,cf own hp rest i6):db fd st args [] (names.zip args++rest) st:=
 Vi λown hp vs ks r hk=>⟨_,λS=>by rw[hX,show ks=[] from hk];exact h vs (aF.length r).symm S,λx=>NK (hr _ _) names args vs r⟩
theorem pe (h:∀v1 S,pR (kF P0) S (sH fd ⟨[v1],[]⟩)=some ((x1,v1)::i6))(hr:∀own hp,cf own hp rest i6):db fd st [c1] [] ((x1,c1)::rest) st:=
 Hp (args:=[c1]) [x1] (kE λv1=>yN<|h v1) hr
theorem qA (h:∀v1 v2 S,pR (kF P0) S (sH fd ⟨[v1,v2],[]⟩)=some ((x1,v1)::(x2,v2)::i6))(hr:∀own hp,cf own hp rest i6):db fd st [c1,c2] [] ((x1,c1)::(x2,c2)::rest) st:=
 Hp (args:=[c1,c2]) [x1,x2] (kE λv1=>kE λv2=>yN<|h v1 v2) hr
theorem NL (h:∀v1 v2 v3 S,pR (kF P0) S (sH fd ⟨[v1,v2,v3],[]⟩)=some ((x1,v1)::(x2,v2)::(x3,v3)::i6))(hr:∀own hp,cf own hp rest i6):db fd st [c1,c2,c3] [] ((x1,c1)::(x2,c2)::(x3,c3)::rest) st:=
 Hp (args:=[c1,c2,c3]) [x1,x2,x3] (kE λv1=>kE λv2=>kE λv3=>yN<|h v1 v2 v3) hr
theorem ahg (h:∀v1 v2 v3 v4 S,pR (kF P0) S (sH fd ⟨[v1,v2,v3,v4],[]⟩)=some ((x1,v1)::(x2,v2)::(x3,v3)::(x4,v4)::i6))(hr:∀own hp,cf own hp rest i6):db fd st [c1,c2,c3,c4] [] ((x1,c1)::(x2,c2)::(x3,c3)::(x4,c4)::rest) st:=
 Hp (args:=[c1,c2,c3,c4]) [x1,x2,x3,x4] (kE λv1=>kE λv2=>kE λv3=>kE λv4=>yN<|h v1 v2 v3 v4) hr
theorem W8 {args:List CV}(names:List Str){uT:List (Str×CV)}{qB:List (Str×an)}(h:∀vs,vs.length=args.length->∀v S,pR (kF P0) S (sH fd ⟨vs,[(x5,v)]⟩)=some (names.zip vs++(qB++[(x5,v)])))(hr:∀own hp k kv,cf own hp k kv->cf own hp (uT++k) (qB++kv)):db fd st args [(x5,c5)] (names.zip args++(uT++[(x5,c5)])) st:=
 Vi λown hp vs ks r hk=>by obtain⟨v,k',e,hv,e'⟩:=hk;exact⟨_,λS=>by rw[hX,e,show k'=[] from e'];exact h vs (aF.length r).symm v S,λx=>NK (hr own hp [(x5,c5)] [(x5,v)] ⟨v,[],rfl,hv,rfl⟩) names args vs r⟩
theorem NM {uT:List (Str×CV)}{qB:List (Str×an)}(h:∀v1 v2 v3 S,pR (kF P0) S (sH fd ⟨[v1,v2],[(x3,v3)]⟩)=some ((x1,v1)::(x2,v2)::(qB++[(x3,v3)])))(hr:∀own hp k kv,cf own hp k kv->cf own hp (uT++k) (qB++kv)):db fd st [c1,c2] [(x3,c3)] ((x1,c1)::(x2,c2)::(uT++[(x3,c3)])) st:=
 W8 (args:=[c1,c2]) [x1,x2] (kE λv1=>kE λv2=>yN<|h v1 v2) hr
theorem W9 (h:∀v1 v2 v3 v4 v5 S,pR (kF P0) S (sH fd ⟨[v1,v2,v3,v4],[(x5,v5)]⟩)=some [(x1,v1),(x2,v2),(x3,v3),(x4,v4),(x5,v5)]):db fd st [c1,c2,c3,c4] [(x5,c5)] [(x1,c1),(x2,c2),(x3,c3),(x4,c4),(x5,c5)] st:=
 W8 (args:=[c1,c2,c3,c4]) [x1,x2,x3,x4] (uT:=[]) (qB:=[]) (kE λv1=>kE λv2=>kE λv3=>kE λv4=>yN<|h v1 v2 v3 v4) λx x x x h=>h
end
theorem gF:∀own hp,cf own hp [] []:=λx x=>rfl
theorem tz {x:Str}(h:∀own hp,cf own hp rest i6):∀own hp,cf own hp ((x,.none)::rest) ((x,.none)::i6):=λown hp=>⟨_,_,rfl,rfl,h own hp⟩
theorem W' {x:Str}{i:Int}{t:Tok}(h:∀own hp,cf own hp rest i6):∀own hp,cf own hp ((x,.int i)::rest) ((x,.int i t)::i6):=λown hp=>⟨_,_,rfl,⟨_,rfl⟩,h own hp⟩
theorem ku:(291,287)∈X.cU:=by rw[Cy];exact .head _
end
section
theorem iM {nm:Str}(h:(kF P0).lookup a=some ⟨.type "function",none,.func (fP nm qn D df kw md cd),#[]⟩)(hc:codeIn (kF P0) cd qn=true)(hs:Du false D.scope=true):gu a D (fP nm qn D df kw md cd):=let h:=W7 h hc hs
 ⟨h.1,rfl,h.2⟩
theorem ahn:gu 306 kh La:=iM (by kernel_rfl) (by kernel_rfl) (by decide +kernel)
theorem aho:gu 299 Cq K9:=iM (by kernel_rfl) (by kernel_rfl) (by decide +kernel)
theorem ahp:gu 292 ef FQ:=iM (by kernel_rfl) (by kernel_rfl) (by decide +kernel)
theorem ahA:gu 89 Ac K5:=iM (by kernel_rfl) (by kernel_rfl) (by decide +kernel)
theorem ahB:gu 107 Ad K6:=iM (by kernel_rfl) (by kernel_rfl) (by decide +kernel)
theorem NN:gu 98 f9 xR:=iM (by kernel_rfl) (by kernel_rfl) (by decide +kernel)
theorem Xa:gu 116 gL Ae:=iM (by kernel_rfl) (by kernel_rfl) (by decide +kernel)
theorem ahC:gu 130 mQ Cw:=iM (by kernel_rfl) (by kernel_rfl) (by decide +kernel)
theorem ahD:gu 137 qc K8:=iM (by kernel_rfl) (by kernel_rfl) (by decide +kernel)
theorem Xb:NJ 123 oL K7:=ahf (oc:=.type "function") (od:=none) (kU:=#[]) (by kernel_rfl) (by kernel_rfl) (by decide +kernel)
theorem iG (h:jz (kF P0) v=true):jz X.K v=true:=by rw[hX];exact h
theorem tA {C a:ai}{name:Str}{D:fe}{fd:el}(h1:xJ (kF P0) (.ref C) name=some (some (.ref a)))(h2:typeIn (kF P0) (.ref a)=some (.type "function"))(h3:jz (kF P0) (.ref a)=true)(F:gu a D fd):pd C name a D fd:=⟨by rw[hX];exact h1,by rw[hX];exact h2,by rw[hX];exact h3,F⟩
theorem NO:pd 76 "get_token" 66 qd FO:=tA (by kernel_rfl) (by kernel_rfl) (by kernel_rfl) (iM (by kernel_rfl) (by kernel_rfl)<|by decide +kernel)
theorem Xc:pd 76 "_read_char" 59 xP Ag:=tA (by kernel_rfl) (by kernel_rfl) (by kernel_rfl) (iM (by kernel_rfl) (by kernel_rfl)<|by decide +kernel)
theorem NP:pd 76 "push_token" 73 Co FP:=tA (by kernel_rfl) (by kernel_rfl) (by kernel_rfl) (iM (by kernel_rfl) (by kernel_rfl)<|by decide +kernel)
theorem NQ:pd 76 "__init__" 52 Cp Af:=tA (by kernel_rfl) (by kernel_rfl) (by kernel_rfl) (iM (by kernel_rfl) (by kernel_rfl)<|by decide +kernel)
theorem A8:pd 281 "__init__" 175 uk Cs:=tA (by kernel_rfl) (by kernel_rfl) (by kernel_rfl) (iM (by kernel_rfl) (by kernel_rfl)<|by decide +kernel)
theorem NR:pd 281 "items" 245 Cn FM:=tA (by kernel_rfl) (by kernel_rfl) (by kernel_rfl) (iM (by kernel_rfl) (by kernel_rfl)<|by decide +kernel)
theorem NS:pd 281 "add_header" 278 xQ Cv:=tA (by kernel_rfl) (by kernel_rfl) (by kernel_rfl) (iM (by kernel_rfl) (by kernel_rfl)<|by decide +kernel)
theorem Hr:wC 76:=⟨by kernel_rfl,by kernel_rfl,by kernel_rfl,by kernel_rfl⟩
theorem Dv:wC 281:=⟨by kernel_rfl,by kernel_rfl,by kernel_rfl,by kernel_rfl⟩
end
section
variable {d:Nat}
noncomputable def cM (right:α->Bool)(xs:List α):Nat->Nat->Nat->Nat
 |0,lo,x=>lo|n+1,lo,hi=>if lo<hi then(match xs[(lo+hi)/2]? with
  |some v=>if right v then cM right xs n ((lo+hi)/2+1) hi else cM right xs n lo ((lo+hi)/2)|none=>lo) else lo
theorem rR {α:Type}{right:α->Bool}{xs:List α}{n lo hi:Nat}:cM right xs (n+1) lo hi=if lo<hi then(match xs[(lo+hi)/2]? with|some v=>if right v then cM right xs n ((lo+hi)/2+1) hi else cM right xs n lo ((lo+hi)/2)|none=>lo) else lo:=rfl
noncomputable def qB (m:Option Int):List (Str×CV):=match m with
 |some m=>[("mid",CV.int m)]|none=>[]
def im (x:CV)(lo hi:Int)(m:Option Int):ae:=.frame (("key",.none)::("hi",.int hi)::("lo",.int lo)::("x",x)::("a",.ab 0)::qB m)
theorem Hs (lo hi:Nat):((lo:Int)+(hi:Int)).fdiv 2=(((lo+hi)/2:Nat):Int):=by rw[abN _<|by decide];rfl
theorem Ht {i:Int}(h0:0<=i)(h1:i<2^60):Re i 2=false:=RL (by lia)
theorem ahF {st:List ae}{e:aq}{k:Nat}{ns:List Int}{i:Int}{j:Nat}{v:Int}(hk:st[k]?=some (.list (ns.map CV.int)))(hi:i=(j:Int))(hv:ns[j]?=some v)(hb:ns.length<2^40):fF d e (.ab k) (.int i) st (.int v) st:=by have aZ:=(bV.mp hv).1;subst hi;exact uI hk (Tx hb aZ) (by rw[aV];exact rM aZ) (by rw[dN,hv];rfl)
theorem e8 {st:List ae}{e:aq}{k:Nat}{ns:List Str}{i:Int}{j:Nat}{v:Str}(hk:st[k]?=some (.list (ns.map CV.str)))(hi:i=(j:Int))(hv:ns[j]?=some v)(hb:ns.length<2^40):fF d e (.ab k) (.int i) st (.str v) st:=by have aZ:=(bV.mp hv).1;subst hi;exact uI hk (Tx hb aZ) (by rw[aV];exact rM aZ) (by rw[dN,hv];rfl)
noncomputable def nZ (x:CV)(lo:Int)(hi:CV):List (Str×CV):=[("a",.ab 0),("x",x),("lo",.int lo),("hi",hi),("key",.none)]
theorem NT:∀(ns:List Int),CV.cV n (ns.map CV.int)=true
 |[]=>rfl|x::ns=>by rw[eC,CV.uu,NT ns];rfl
theorem cJ:∀(ns:List Str),CV.cV n (ns.map CV.str)=true
 |[]=>rfl|x::ns=>by rw[eC,CV.uu,cJ ns];rfl
def b02 (r:Bool):fe:=cond r f9 gL
theorem b08 (r):gu (cond r 98 116) (b02 r) (cond r xR Ae):=by cases r;exact Xa;exact NN
end
section
open Builtin Builtin.Str
variable {d:Nat}
noncomputable def wJ:Nat->Str->Str
 |0,s=>s|n+1,s=>wJ n (sN s "()" "")
noncomputable def mz (s:Str)(c:Option Str):ae:=.frame (("signs",.str s)::match c with
 |some c=>[("sign",CV.str c)]|none=>[])
theorem ahO (hs:s.length<=1048576):aI d (da kh.scope 0 none) (dc kh.body).2.2 [mz s c] .next [mz (sN s "()" "") c]:=by
 have hw:kn (da kh.scope 0 none) [mz s c] "signs" (.str<|sN s "()" "")=some [mz (sN s "()" "") c]:=by cases c<;>rfl'
 have hr:ji (da kh.scope 0 none) [mz s c] "signs"=some (.str s):=by cases c<;>rfl'
 exact U7 (Vc rfl rfl (afA rfl (eu rfl rfl hr) rfl rfl hs (by decide)) rfl (wg hw)) (λx=>U4)<|λh=>absurd rfl h
theorem Xe:∀(cs:List Nat) s c,s.length<=1048576->∃c',fG d (da kh.scope 0 none) (dc kh.body).1 (dc kh.body).2.2 (λx=>True) (cs.map jR) [mz s c] .next [mz (wJ cs.length s) c']
 |[],s,c,hs=>⟨c,.nil trivial⟩|k::cs,s,c,hs=>by
  obtain⟨c',h⟩:=Xe cs (sN s "()" "") (some ⟨#[k]⟩) (fC ((by
   unfold sN;split
   ·exact aG _
   have hy:(glued "()"<|partsBetween s (occurrences s "()" 0 s.length<|s.length+1) ("()":Str).length).length=s.length:=by rw[StrLaws.glued_between_self]
   rw[size_glued] at hy ⊢;have h0:("":Str).length=0:=by decide
   rw[h0,Nat.mul_zero,aaL];exact ah [_,_,_] (.eq (.a .o .i) .u<|.gl .o .u) rfl hy)) hs)
  have hw:kn (da kh.scope 0 none) [mz s c] "sign" (jR k)=some [mz s<|some ⟨#[k]⟩]:=by cases c<;>rfl'
  have ha:dj d (da kh.scope 0 none) (dc kh.body).1 (jR k) [mz s c] [mz s<|some ⟨#[k]⟩]:=by exact wg hw
  exact⟨c',.cons trivial ha (ahO hs) (.inl rfl) h⟩
def n7 (s:Str):Bool:=d4 (wJ s.cps.toList.length s) ""
theorem ahP (hs:s.length<=1048576):∃c',aI d (da kh.scope 0 none) kh.body ([]++dU kh.scope [("signs",.str s)]) (.ret (.bool (n7 s))) [mz (wJ s.cps.toList.length s) c']:=by
 obtain⟨c',L⟩:=Xe s.cps.toList s none hs;have F:∀{t i:aq} {b:List bl} {p:Pos},t=(dc kh.body).1->b=(dc kh.body).2.2->(∃q,i=.Name "signs" q)->dB d (da kh.scope 0 none) (.For t i b [] p) [mz s none] .next [mz (wJ s.cps.toList.length s) c']:=by intro t i b p h1 h2 ⟨q,h3⟩;subst h1;subst h2;subst h3;exact mq (Gw s) rfl (eu rfl rfl (by rfl')) trivial L
 unfold n7;generalize wJ s.cps.toList.length s=r at *;exact⟨c',aW (sc:=[.iX .next [mz r c']]) rfl (am (by exact F rfl rfl ⟨_,rfl⟩) aX)⟩
end
section
open Builtin Builtin.Str
variable {d:Nat}
noncomputable def yP (name:Str):Str:="\\"++name
def m6 (name:Str)(aC:Int):Str:="\""++(if(aC==2&&!ko name "\"\\") then name else yP name)++"\""
def jE (name:Str)(aC:Int):Str:=if aC=0 then yP name else if aC=1∨aC=2 then m6 name aC else if ko name "\t \"\\" then yP name else name
theorem jF (a b:Str):(a++b).length=a.length+b.length:=by simp [Fi,vR]
def rS (name:Str)(aC:Int):List CV:=[.str (yP name),.str (m6 name aC),.str (m6 name aC),.str (if ko name "\t \"\\" then yP name else name)]
theorem tB {st:List ae}{e:aq}{name:Str}{k:Nat}{aC:Nat}(hw:aC<4)(hk:st[k]?=some (.list (rS name aC))):fF d e (.ab k) (.int aC) st (.str (jE name aC)) st:=by have:aC=0∨aC=1∨aC=2∨aC=3:=Ts hw;rcases this with rfl|rfl|rfl|rfl<;>exact uI hk (by decide) rfl rfl
theorem ahR {name:Str}{aC:Nat}(hw:aC<4)(hn:name.length<=100):∃g,aI d (da Cq.scope 0 none) Cq.body ([]++dU Cq.scope [("name",.str name),("way",.int aC)]) (.ret (.str (jE name aC))) g:=by
 have NX:("\\":Str).length=1:=by decide
 have yQ:("\"":Str).length=1:=by decide
 have bn:(1000:Nat)<=cX:=by decide
 have tC:("\\"++name:Str).length<=cX:=by rw[jF,NX];exact Tt bn hn
 have Xf:("\""++name:Str).length<=cX:=by rw[jF,yQ];exact Tt bn hn
 have wK:("\""++("\\"++name):Str).length<=cX:=by rw[jF,jF,NX,yQ];exact ah [_,_] (.le (.n 1000) .o<|.le .i (.n 100)<|.gl (.a .j<|.a .j .i) .o) rfl bn hn
 have Xg:("\""++name++"\"":Str).length<=cX:=by rw[jF,jF,yQ];exact ah [_,_] (.le (.n 1000) .o<|.le .i (.n 100)<|.gl (.a (.a .j .i) .j) .o) rfl bn hn
 have wL:("\""++("\\"++name)++"\"":Str).length<=cX:=by rw[jF,jF,jF,NX,yQ];exact ah [_,_] (.le (.n 1000) .o<|.le .i (.n 100)<|.gl (.a (.a .j<|.a .j .i) .j) .o) rfl bn hn
 have tD:(4:Nat)<=cX:=by decide
 have Hv:∀b,ko name "\"\\"=b->(!ko name "\"\\")= !b:=λb h=>by rw[h]
 have Xh:∀b,ko name "\t \"\\"=b->(!ko name "\t \"\\")= !b:=λb h=>by rw[h]
 have hc:aC=0∨aC=1∨aC=2∨aC=3:=by exact Ts hw
 cases ht:ko name "\t \"\\" with
 |true=>
  have oY:=Xh _ ht;rcases hc with rfl|rfl|rfl|rfl
  ·refine⟨_,aW (sc:=[.cw,.cw,.no,.val<|.str<|jE name (0:Nat)]) (by rfl) ?_⟩;refine am (tB hw ?_)<|am tD<|am oY<|am wL<|am wK<|am tC aX;simp only [rS,ht];rfl'
  ·refine⟨_,aW (sc:=[.cw,.cw,.no,.val<|.str<|jE name (1:Nat)]) rfl ?_⟩;refine am (tB hw ?_)<|am tD<|am oY<|am wL<|am wK<|am tC aX;simp only [rS,ht];rfl'
  ·cases hi:ko name "\"\\" with|true=>have jl:=Hv _ hi;refine⟨_,aW (sc:=[.cw,.no,.cw,.no,.val<|.str<|jE name (2:Nat)]) rfl ?_⟩;refine am (tB hw ?_)<|am tD<|am oY<|am wL<|am wK<|am jl<|am tC aX;simp only [rS,m6,hi,ht];rfl'|false=>have jl:=Hv _ hi;refine⟨_,aW (sc:=[.cw,.yes,.cw,.no,.val<|.str<|jE name (2:Nat)]) rfl ?_⟩;refine am (tB hw ?_)<|am tD<|am oY<|am Xg<|am Xf<|am jl<|am tC aX;simp only [rS,m6,hi,ht];rfl'
  refine⟨_,aW (sc:=[.cw,.cw,.no,.val<|.str<|jE name (3:Nat)]) rfl ?_⟩;refine am (tB hw ?_)<|am tD<|am oY<|am wL<|am wK<|am tC aX;simp only [rS,ht];rfl'
 |false=>
  have oY:=Xh _ ht;rcases hc with rfl|rfl|rfl|rfl
  ·refine⟨_,aW (sc:=[.cw,.cw,.yes,.val<|.str<|jE name (0:Nat)]) rfl ?_⟩;refine am (tB hw ?_)<|am tD<|am oY<|am wL<|am wK<|am tC aX;simp only [rS,ht];rfl'
  ·refine⟨_,aW (sc:=[.cw,.cw,.yes,.val<|.str<|jE name (1:Nat)]) rfl ?_⟩;refine am (tB hw ?_)<|am tD<|am oY<|am wL<|am wK<|am tC aX;simp only [rS,ht];rfl'
  ·cases hi:ko name "\"\\" with|true=>have jl:=Hv _ hi;refine⟨_,aW (sc:=[.cw,.no,.cw,.yes,.val<|.str<|jE name (2:Nat)]) rfl ?_⟩;refine am (tB hw ?_)<|am tD<|am oY<|am wL<|am wK<|am jl<|am tC aX;simp only [rS,m6,hi,ht];rfl'|false=>have jl:=Hv _ hi;refine⟨_,aW (sc:=[.cw,.yes,.cw,.yes,.val<|.str<|jE name (2:Nat)]) rfl ?_⟩;refine am (tB hw ?_)<|am tD<|am oY<|am Xg<|am Xf<|am jl<|am tC aX;simp only [rS,m6,hi,ht];rfl'
  refine⟨_,aW (sc:=[.cw,.cw,.yes,.val<|.str<|jE name (3:Nat)]) rfl ?_⟩;refine am (tB hw ?_)<|am tD<|am oY<|am wL<|am wK<|am tC aX;simp only [rS,m6,ht];rfl'
end
section
variable {d:Nat}
theorem Hw {c:aY}{x:bl}{st ag:List ae}{sc mm:List iB}{f:cZ}{ob:List Prop}(h:RZ.out (Vg d 99 c x ⟨st,sc,[]⟩)=some (f,⟨ag,mm,ob⟩))(k:Z.ok ⟨ag,mm,ob⟩):dB d c x st f ag:=
 EZ.run h k
theorem ahT {c:aY}{e:aq}{st ag:List ae}{b b':Bool}(h:b=b')(t:fx d c e st b ag):fx d c e st b' ag:=h▸t
theorem wM:2<=cX:=by decide
noncomputable def m7:Str:=⟨#[92]⟩
noncomputable def gR (x:Str)(pos:Int)(fY:Bool)(ch:Option Str):ae:=.frame (("addr",.str x)::("pos",.int pos)::("escape",.bool fY)::match ch with
 |some c=>[("ch",CV.str c)]|none=>[])
def gS:Nat->Bool->List Nat->List (Nat×Str)
 |x,u,[]=>[]|i,true,k::r=>(i,m7++⟨#[k]⟩)::gS (i+1) false r|i,false,k::r=>if k=92 then gS (i+1) true r else(i,⟨#[k]⟩)::gS (i+1) false r
noncomputable def pf:Bool->List Nat->Bool
 |e,[]=>e|true,k::r=>pf false r|false,k::r=>pf (k==92) r
theorem NY {i k:Nat}:gS i false (k::r)=if k=92 then gS (i+1) true r else(i,⟨#[k]⟩)::gS (i+1) false r:=rfl
def kG (x:Str):List (Nat×Str):=gS 0 false x.cps.toList++if pf false x.cps.toList then [(x.cps.toList.length-1,m7)] else []
noncomputable def m8 (p:Nat×Str):CV:=.cB [.int p.1,.str p.2]
abbrev yR:aY:=da oL.scope 0 none
theorem ahV k:d4 ⟨#[k]⟩ m7=(k==92):=by simp [d4,m7]
theorem ahW {x:Str}{i k:Nat}:lD d yR (dc oL.body).2.2 [gR x i fY (some ⟨#[k]⟩),a,b] (match fY with|true=>[m8 (i,m7++⟨#[k]⟩)]|false=>if k=92 then [] else [m8 (i,⟨#[k]⟩)]) [gR x i (match fY with|true=>false|false=>k==92) (some ⟨#[k]⟩),a,b]:=by
 cases fY with
 |true=>
  have hl:(m7++⟨#[k]⟩).length<=cX:=by show 2<=cX;decide
  refine yC (aw:=[gR x i true<|some ⟨#[k]⟩,a,b]) true ?_ (Nn (aw:=[gR x i true<|some ⟨#[k]⟩,a,b]) ?_ ?_<|G9 ?_ qy) qy
  ·exact nX (sc:=[]) (by rfl) aX
  ·rfl
  ·exact dk (sc:=[]) (by rfl)<|am wM<|am hl aX
  exact Hw (sc:=[]) (by rfl) aX
 |false=>
  by_cases hk:k=92
  ·subst hk;show lD d yR (dc oL.body).2.2 [gR x i false<|some m7,a,b] [] [gR x i true<|some m7,a,b];refine yC (ys:=[]) (aw:=[gR x i false<|some m7,a,b]) false ?_ (yC (aw:=[gR x i false<|some m7,a,b]) true ?_ (G9 ?_ qy) qy) qy
   ·exact nX (sc:=[]) (by rfl) aX
   ·exact nX (sc:=[]) (by rfl) aX
   exact Hw (sc:=[]) (by rfl) aX
  have we:d4 ⟨#[k]⟩ m7=false:=by rw[ahV];simpa using hk
  have hb:(k==92)=false:=by simpa using hk
  rw[if_neg hk];show lD d yR (dc oL.body).2.2 [gR x i false<|some ⟨#[k]⟩,a,b] _ [gR x i (k==92)<|some ⟨#[k]⟩,a,b];rw[hb];refine yC (ys:=[m8 (i,⟨#[k]⟩)]) (aw:=[gR x i false<|some ⟨#[k]⟩,a,b]) false ?_ (yC (aw:=[gR x i false<|some ⟨#[k]⟩,a,b]) false ?_ (Nn ?_ ?_ qy) qy) qy
  ·exact nX (sc:=[]) (by rfl) aX
  ·exact ahT we<|nX (sc:=[]) (by rfl) aX
  ·rfl
  exact dk (sc:=[]) (by rfl)<|am wM aX
noncomputable def yS (x:Str):Nat:=x.cps.toList.length-1
theorem Xi {x:Str}:∀cs i pos fY ch,x.cps.toList.drop i=cs->i<=x.cps.toList.length->pos=i-1->∃em,yD d yR (dc oL.body).1 (dc oL.body).2.2 2 [gR x pos fY ch,.ki x i,.gc 1 i] ((gS i fY cs).map m8) [gR x (yS x) (pf fY cs) em,.qg,.gc 1 x.cps.toList.length]
 |[],i,pos,fY,ch,hd,hi,hp=>by
  have he:=abh hi<|ap'.mp hd;subst he;subst hp;refine⟨ch,?_⟩;have e:gS x.cps.toList.length fY []=[]:=by cases fY<;>rfl
  have e':pf fY []=fY:=by cases fY<;>rfl
  rw[e,e'];exact .jk<|agc (st:=[gR x (yS x) fY ch,.ki x _,.gc 1 _]) (n:=1) rfl rfl (by simp)
 |k::cs,i,pos,fY,ch,hd,hi,hp=>by
  have aZ:i<x.cps.toList.length:=by
   rcases Nat.lt_or_ge i x.cps.toList.length with h|h
   ·exact h
   rw[abp h] at hd;cases hd
  have hx:x.cps[i]?=some k:=by have:=sL (xs:=x.cps.toList) (i:=i) (j:=0);rw[hd] at this;simpa using this.symm
  have hxs:x.cps.toList.drop (i+1)=cs:=by rw[<-Ki,hd];rfl
  obtain⟨em,h⟩:=Xi cs (i+1) i (match fY with|true=>false|false=>k==92) (some ⟨#[k]⟩) hxs aZ (by lia);refine⟨em,?_⟩;have st:=yD.step (k:=2) (t:=(dc oL.body).1) (b:=(dc oL.body).2.2) (agb (st:=[gR x pos fY ch,.ki x i,.gc 1 i]) rfl rfl hx) ((by cases ch<;>exact i4 (sc:=[]) rfl aX)) (ahW (d:=d) (x:=x) (i:=i) (k:=k) (fY:=fY) (a:=.ki x<|i+1) (b:=.gc 1<|i+1)) h;cases fY with
  |true=>exact st|false=>
   by_cases hk:k=92
   ·subst hk;exact st
   have hb:(k==92)=false:=by simpa using hk
   rw[if_neg hk,hb] at st;have e1:gS i false (k::cs)=(i,⟨#[k]⟩)::gS (i+1) false cs:=by rw[NY,if_neg hk]
   have e2:pf false (k::cs)=pf false cs:=by show pf (k==92) cs=_;rw[hb]
   rwa[e1,e2]
theorem ahY x:∃Hb,lD d yR oL.body [.frame [("addr",.str x)]] ((kG x).map m8) Hb:=by
 obtain⟨ch,L⟩:=Xi x.cps.toList 0 0 false none rfl (dQ _) rfl;unfold kG;rw[fU];have it:∀{p q r:Pos},a8 d yR (.Call (.Name "enumerate" p) [.Name "addr" q] [] r) [gR x 0 false none] (.ab 2) [gR x 0 false none,.ki x 0,.gc 1 0]:=λ{p q r}=>by exact dk (sc:=[.aE (.ab 2) [gR x 0 false none,.ki x 0,.gc 1 0]]) rfl (am (af')<|am yn aX)
 refine⟨[gR x (yS x) (pf false x.cps.toList) ch,.qg,.gc 1 x.cps.toList.length],?_⟩;generalize hE:pf false x.cps.toList=e at L ⊢;refine G9 (aw:=[.frame [("addr",.str x),("pos",.int 0)]]) ?_<|G9 (aw:=[gR x 0 false none]) ?_<|agi ?_ ?_ ?_ L ?_
 ·exact Hw (sc:=[]) (by rfl) aX
 ·exact Hw (sc:=[]) (by rfl) aX
 ·rfl
 ·exact it
 ·exact aga rfl
 cases e with
 |true=>
  refine yC (aw:=[gR x (yS x) true ch,.qg,.gc 1 x.cps.toList.length]) true ?_ (Nn ?_ ?_ qy) qy
  ·exact nX (sc:=[]) (by rfl) aX
  ·rfl
  exact dk (sc:=[]) (by rfl)<|am wM aX
 |false=>refine yC false ?_ qy qy;exact nX (sc:=[]) (by rfl) aX
theorem Xj {a:ai}{fd:el}(F:NJ a oL fd){c:aY}{target:aq}{body:List bl}{f arg:aq}{tn pos:Pos}{x:Str}{st ag:List ae}{fl:cZ}(hp:Av f=false)(hs:lu arg=false)(hf:a8 (d+4) c f st (.aH a) st)(hv:a8 (d+4) c arg st (.str x) st)(uy:oM (.aH a) st)(hb:db fd st [.str x] [] [("addr",.str x)] st)(h:fG (d+4) c target body (λu=>True) ((kG x).map m8) st fl ag):dB (d+4) c (.For target (.Call f [arg] [] tn) body [] pos) st fl ag:=by
 obtain⟨Hb,G⟩:=ahY x;have e:=F.scope;have hl:CQ fd.scope [("addr",CV.str x)]=([("addr",CV.str x)]:List (Str×CV)):=by rw[e];rfl'
 exact agw hp hf (oO hs hv sW) F8 uy F.is (e▸F.yF) hb (by rw[e];rfl') (λn=>by rw[e];rfl') rfl (by rwa[hl,e]) ((λy hy=>by obtain⟨p,_,e⟩:=cu.mp hy;rw[<-e];rfl)) h
end
section
variable {d:Nat}
abbrev yT:aY:=da mQ.scope 0 none
noncomputable def dq:Str:="\""
noncomputable def ah0:Option Nat->CV
 |none=>.none|some p=>.int p
noncomputable def Xk:Option (Nat×Str)->List (Str×CV)
 |none=>[]|some (p,c)=>[("pos",.int p),("ch",.str c)]
def jZ (x:Str)(dG:Nat)(op:Option Nat)(pc:Option (Nat×Str)):ae:=.frame (("addr",.str x)::("start",.int dG)::("open_pos",ah0 op)::("result",.ab 1)::Xk pc)
structure rT where
 dG:Nat
 op:Option Nat
 aE:List Str
def eK (x:Str)(z:rT)(p:Nat×Str):rT:=if d4 p.2 dq then(match z.op with
 |none=>⟨z.dG,some p.1,z.aE⟩|some o=>⟨p.1+1,none,if z.dG=o then z.aE else z.aE++[gD x (some (z.dG:Int)) (some (o:Int))]⟩) else z
noncomputable def kH (aE:List Str):ae:=.list (aE.map CV.str)
theorem NZ aE  s:ae.list (aE.map CV.str++[.str s])=kH (aE++[s]):=by rw[kH,fU];rfl
theorem ah1 {x:Str}{p:Nat×Str}(hx:x.length<=1000000)(hr:z.aE.length<1000000):aI d yT (dc mQ.body).2.2 [jZ x z.dG z.op (some p),kH z.aE] .next [jZ x (eK x z p).dG (eK x z p).op (some p),kH (eK x z p).aE]:=by
 obtain⟨dG,op,aE⟩:=z;obtain⟨p,c⟩:=p;unfold eK;cases hc:d4 c dq with
 |false=>simp [if_false];cases op<;>exact aW (sc:=[.no]) rfl (am hc aX)|true=>
  simp [if_true];cases op with
  |none=>exact aW (sc:=[.yes,.val<|.bool true,.cw]) rfl (am (ky rfl)<|am hc aX)|some o=>
   dsimp only;by_cases ho:dG=o
   ·have gO:(dG != (o:Int))=false:=by subst ho;simp
    rw[if_pos ho];exact aW (sc:=[.yes,.val<|.bool false,.cw,.no]) rfl (am gO<|am (ky rfl)<|am hc aX)
   have gO:(dG != (o:Int))=true:=by simp;lia
   rw[if_neg ho,<-NZ];have g9:=yJ x (some (dG:Int))<|some o;apply aW (sc:=[.yes,.val<|.bool false,.cw,.yes,.bg (.bi "list.append") [.ab 1],.val<|.str<|gD x (some dG)<|some o,.aE .none [jZ x dG (some o)<|some (p,c),.list<|aE.map CV.str++[.str<|gD x (some dG)<|some o]]]) rfl;refine am ?_<|am gP<|am ?_<|am ?_<|am gO<|am (ky rfl)<|am hc aX
   ·exact mX rfl (by rw[aV];show _<2^24;exact ah [_] (.lt .o (.n 1000000)<|.gt .o<|.n<|2^24) rfl hr)
   ·exact yu rfl rfl (by exact ah [_,_] (.le .o (.n 1000000)<|.le .i .o<|.gl .i<|.n<|2^24) rfl hx g9)
   exact jX rfl
theorem Xl x  z  p:(eK x z p).aE.length<=z.aE.length+1:=by
 unfold eK;split
 ·split
  ·exact ke _
  dsimp only;split
  ·exact ke _
  simp
 exact ke _
theorem Xm {x:Str}(hx:x.length<=1000000):∀(ps:List (Nat×Str)) z pc,z.aE.length+ps.length<=1000000->∃lF,fG d yT (dc mQ.body).1 (dc mQ.body).2.2 (λv=>True) (ps.map m8) [jZ x z.dG z.op pc,kH z.aE] .next [jZ x (ps.foldl (eK x) z).dG (ps.foldl (eK x) z).op lF,kH (ps.foldl (eK x) z).aE]
 |[],z,pc,h=>⟨pc,.nil trivial⟩|p::ps,z,pc,h=>by
  rw[dO] at h;obtain⟨lF,L⟩:=Xm hx ps (eK x z p) (some p)<|ah [_,_,_,_,_] (.le (.a .o<|.a .i .u) .w<|.le .x (.a .o .u)<|.gl (.a .x .i) .w) rfl h (Xl x z p);exact⟨lF,.cons trivial ((by
   obtain⟨i,c⟩:=p;cases pc with
   |none=>exact i4 (sc:=[]) rfl aX|some q=>obtain⟨j,c'⟩:=q;exact i4 (sc:=[]) rfl aX)) (ah1 hx<|SV h) (.inl rfl) L⟩
theorem Hx:∀cs i e,(gS i e cs).length<=cs.length
 |[],i,e=>by cases e<;>exact aG 0|k::cs,i,true=>z4 (Hx cs (i+1) false)|k::cs,i,false=>by
  by_cases hk:k=92
  ·rw[NY,if_pos hk];exact Fa<|Hx cs (i+1) true
  rw[NY,if_neg hk];exact z4<|Hx cs (i+1) false
theorem N0 x:(kG x).length<=x.length+1:=by
 have h:=Hx x.cps.toList 0 false;have hn:x.cps.toList.length=x.length:=by simp [Fi]
 unfold kG;split<;>simp only [dJ,zT]<;>(first|exact ah [_,_,_] (.eq .o .i<|.le .u .o<|.gl (.a .u<|.a .k .j)<|.a .i .j) rfl hn h|exact ah [_,_,_] (.eq .o .i<|.le .u .o<|.gl (.a .u .k)<|.a .i .j) rfl hn h)
def pg (x:Str):rT:=(kG x).foldl (eK x) ⟨0,none,[]⟩
def tE (x:Str):List Str:=if(pg x).dG<x.length then(pg x).aE++[gD x (some ((pg x).dG:Int)) none] else(pg x).aE
def j0 (x:Str):Str:=if ko dq x then gY "" (tE x) else x
theorem Xn:∀(ss:List Str) acc,(∀s∈ss,s.length<=B)->ss.foldl (λn s=>n+s.length+0) acc<=acc+ss.length*B
 |[],acc,h=>by simp|s::ss,acc,h=>by simp only [dO,Nat.succ_mul];exact ah [_,_,_,_,_] (.le .o (.a (.a (.a .i .u) .k) .w)<|.le .u .x<|.gl .o<|.a .i<|.a .w .x) rfl (Xn ss (acc+s.length+0) λt ht=>h t<|.tail _ ht) (h s<|.head _)
theorem Hz {ss:List Str}(h:∀s∈ss,s.length<=B)(hb:ss.length*B<=2^24):zU "" ss=true:=by
 unfold zU pU;have e:ss.toArray.foldl (λn s=>n+s.length+("":Str).length) 0=ss.foldl (λn s=>n+s.length+0) 0:=by rw[List.foldl_toArray];rfl
 rw[e];simp only [E0,decide_eq_false_iff_not,Rw];exact ah [_,_] (.le .o (.a .k .i)<|.le .i (.n<|2^24)<|.gl .o<|.n<|2^24) rfl (Xn ss 0 h) hb
theorem Oa x:∀(ps:List (Nat×Str)) z,(∀s∈z.aE,s.length<=x.length)->(∀s∈(ps.foldl (eK x) z).aE,s.length<=x.length)∧(ps.foldl (eK x) z).aE.length<=z.aE.length+ps.length
 |[],z,h=>⟨h,aG _⟩|p::ps,z,h=>by
  obtain⟨h1,h2⟩:=Oa x ps (eK x z p) ((by
   unfold eK;split
   ·split
    ·exact h
    dsimp only;split
    ·exact h
    intro s hs;rcases f7.mp hs with h'|h'
    ·exact h s h'
    rw[gV.mp h'];exact yJ _ _ _
   exact h))
  exact⟨h1,by rw[fu,dO];exact ah [_,_,_,_,_] (.le .o (.a .i .u)<|.le .i (.a .w .x)<|.gl .o<|.a .w<|.a .u .x) rfl h2 (Xl x z p)⟩
theorem ah4 x (hx:x.length<=1000):zU "" (tE x)=true:=by
 obtain⟨h1,h2⟩:=Oa x (kG x) ⟨0,none,[]⟩ nofun;have h3:=N0 x;have h4:∀s∈tE x,s.length<=x.length:=by
  unfold tE;split
  ·intro s hs;rcases f7.mp hs with h'|h'
   ·exact h1 s h'
   exact gV.mp h'▸yJ _ _ _
  exact h1
 have h5:(tE x).length<=x.length+2:=by
  unfold tE;split
  ·rw[dJ];exact ah [_,_,_] (.le .o (.a .k .i)<|.le .i (.a .u .j)<|.gl (.a .o .j)<|.a .u<|.n 2) rfl h2 h3
  exact ah [_,_,_] (.le .o (.a .k .i)<|.le .i (.a .u .j)<|.gl .o<|.a .u<|.n 2) rfl h2 h3
 apply Hz<|λs hs=>fC (h4 s hs) hx;have:(tE x).length<=1002:=ah [_,_] (.le .o (.n 1000)<|.le .i (.a .o<|.n 2)<|.gl .i<|.n 1002) rfl hx h5;lia
theorem Xo {st:List ae}{x:Str}:db K7 st [.str x] [] [("addr",.str x)] st:=pe (λv1 S=>by kernel_rfl) gF
theorem Xp {st:List ae}:oM (.aH 123) st:=cK (iG<|by kernel_rfl)
theorem ah5 {x:Str}(hx:x.length<=1000):∃g,aI (d+4) yT mQ.body ([]++dU mQ.scope [("addr",.str x)]) (.ret (.str (j0 x))) g:=by
 unfold j0;cases hq:ko dq x with
 |false=>
  have uQ:(!ko dq x)=true:=by rw[hq];rfl
  exact⟨_,aW (sc:=[.yes]) rfl (am uQ aX)⟩
 |true=>
  have uQ:(!ko dq x)=false:=by rw[hq];rfl
  obtain⟨pc,L⟩:=Xm (sS hx) (kG x) ⟨0,none,[]⟩ none (by have:=N0 x;simp only [zT];exact ah [_,_] (.le .o (.n 1000)<|.le .i (.a .o .j)<|.gl (.a .k .i)<|.n 1000000) rfl hx this);have jo:=ah4 x hx;have jn:(pg x).aE.length<2^24:=by have:=(Oa x (kG x) ⟨0,none,[]⟩ nofun).2;have:=N0 x;unfold pg;simp only [zT] at *;exact ah [_,_,_] (.le .o (.a .k .i)<|.le .i (.a .u .j)<|.le .u (.n 1000)<|.gt .o<|.n<|2^24) rfl (by assumption) this hx
  change fG (d+4) yT (dc mQ.body).1 (dc mQ.body).2.2 (λw=>True) ((kG x).map m8) [jZ x 0 none none,kH []] .next [jZ x (pg x).dG (pg x).op pc,kH (pg x).aE] at L;unfold tE at jo ⊢;generalize pg x=z at *;obtain⟨dG,op,aE⟩:=z;have F:∀{t i:aq} {b:List bl} {p:Pos},t=(dc mQ.body).1->b=(dc mQ.body).2.2->(∃q r s,i=.Call (.Name "_iter_escaped_chars" q) [.Name "addr" r] [] s)->dB (d+4) yT (.For t i b [] p) [jZ x 0 none none,kH []] .next [jZ x dG op pc,kH aE]:=by intro t i b p h1 h2 ⟨q,r,s,h3⟩;subst h1;subst h2;subst h3;exact Xj Xb rfl rfl (dk (sc:=[]) rfl aX) (dk (sc:=[]) rfl aX) Xp Xo L
  have bJ:bk (d+4) (.bi "len") [.str x] [] [jZ x dG op pc,kH aE] (.int x.length) [jZ x dG op pc,kH aE]:=afn (by exact ah [_] (.le .o (.n 1000)<|.g 1 0<|.it (.c .o)<|.n<|2^63) rfl hx);have H1:aI (d+4) yT (mQ.body.take 5) ([]++dU mQ.scope [("addr",.str x)]) .next [jZ x dG op pc,kH aE]:=
   aW (sc:=[.no,.iX .next [jZ x dG op pc,kH aE]]) rfl (am (by exact F rfl rfl ⟨_,_,_,rfl⟩)<|am (dQ _)<|am uQ aX)
  by_cases hs:dG<x.length
  ·have iD:decide ((dG:Int)<(x.length:Int))=true:=by simp;omega
   rw[if_pos hs] at jo ⊢;refine⟨[jZ x dG op pc,kH<|aE++[gD x (some (dG:Int)) none]],jY 5 H1<|jY 1 (aW (sc:=[.val<|.int x.length,.yes,.bg (.bi "list.append") [.ab 1],.val<|.str<|gD x (some (dG:Int)) none,.aE .none [jZ x dG op pc,.list<|aE.map CV.str++[.str<|gD x (some (dG:Int)) none]]]) rfl ?_) ?_⟩
   ·exact am (mX rfl (by rw[aV];show _<2^24;omega))<|am gP<|am (yu rfl rfl (by exact ah [_,_] (.le .o (.n 1000)<|.le .i .o<|.gl .i<|.n<|2^24) rfl hx (yJ x (some (dG:Int)) none)))<|am (jX rfl)<|am iD<|am bJ<|am gP aX
   rw[NZ];exact aW (sc:=[.bg (.bi "str.join") [.str ""],.val<|.str<|gY ""<|aE++[gD x (some (dG:Int)) none]]) rfl (am (AR rfl jo)<|am gP<|am yx aX)
  have iD:decide ((dG:Int)<(x.length:Int))=false:=by simp;exact o8 hs
  rw[if_neg hs] at jo ⊢;refine⟨[jZ x dG op pc,kH aE],jY 5 H1<|jY 1 (aW (sc:=[.val<|.int x.length,.no]) rfl (am iD<|am bJ<|am gP aX)) ?_⟩;exact aW (sc:=[.bg (.bi "str.join") [.str ""],.val<|.str<|gY "" aE]) rfl (am (AR rfl jo)<|am gP<|am yx aX)
theorem ah6 {x:Str}(hx:x.length<=1000)(hb:db Cw [] args kw [("addr",.str x)] []):bM (d+6) (.aH 130) args kw [] (.str (j0 x)) []:=by obtain⟨g,B⟩:=ah5 hx;exact ahC.code hb (by kernel_rfl) (λq h=>by exact nS h) B (.inl rfl) (aG _) rfl rfl
end
section
variable {d:Nat}
abbrev Dw:aY:=da qc.scope 0 none
def rU (x:Str)(o:Int)(pc:Option (Nat×Str)):ae:=.frame (("addr",.str x)::("opens",.int o)::Xk pc)
noncomputable def mA:Str:="("
noncomputable def cls:Str:=")"
def j1:List (Nat×Str)->Int->Option Int
 |[],o=>some o|(x,c)::r,o=>if d4 c mA then j1 r (o+1) else if d4 c cls then(if o-1<0 then none else j1 r (o-1)) else j1 r o
theorem Dx {p:Nat}{o:Int}:j1 ((p,c)::r) o=if d4 c mA then j1 r (o+1) else if d4 c cls then(if o-1<0 then none else j1 r (o-1)) else j1 r o:=rfl
def m9 (x:Str):Bool:=match j1 (kG (j0 x)) 0 with
 |none=>false|some o=>o==0
theorem ah7 {x:Str}{o:Int}{pc:Option (Nat×Str)}{p:Nat×Str}:dj d Dw (dc qc.body).1 (m8 p) [rU x o pc] [rU x o (some p)]:=by obtain⟨i,c⟩:=p;cases pc with|none=>exact i4 (sc:=[]) (by rfl) aX|some q=>obtain⟨j,c'⟩:=q;exact i4 (sc:=[]) (by rfl) aX
theorem HA {x:Str}:∀(ps:List (Nat×Str)) o (pc:Option (Nat×Str)),∃o' lF,fG d Dw (dc qc.body).1 (dc qc.body).2.2 (λu=>True) (ps.map m8) [rU x o pc] (match j1 ps o with|none=>.ret (.bool false)|some z=>.next) [rU x o' lF]∧∀q,j1 ps o=some q->o'=q
 |[],o,pc=>⟨o,pc,.nil trivial,λq h=>by obtain rfl:=dE h;rfl⟩|(i,c)::ps,o,pc=>by
  have A:=ah7 (d:=d) (x:=x) (o:=o) (pc:=pc) (p:=(i,c));rw[Dx];cases h1:d4 c mA with
  |true=>obtain⟨o',lF,L,e⟩:=HA ps (o+1)<|some (i,c);exact⟨o',lF,.cons trivial A (aW (sc:=[.yes]) (by rfl)<|am h1 aX) (.inl rfl) L,e⟩|false=>
   cases h2:d4 c cls with
   |false=>obtain⟨o',lF,L,e⟩:=HA ps o<|some (i,c);exact⟨o',lF,.cons trivial A (aW (sc:=[.no,.no]) (by rfl)<|am h2<|am h1 aX) (.inl rfl) L,e⟩|true=>
    by_cases h3:o-1<0
    ·have Ob:decide (o-1<0)=true:=by simpa using h3
     rw[if_pos h3];exact⟨o-1,some (i,c),.ret trivial A (aW (sc:=[.no,.yes,.yes]) (by rfl)<|am Ob<|am h2<|am h1 aX),λq h=>nomatch h⟩
    obtain⟨o',lF,L,e⟩:=HA ps (o-1)<|some (i,c);rw[if_neg h3];exact⟨o',lF,.cons trivial A (aW (sc:=[.no,.yes,.no]) (by rfl')<|am (by simpa using h3)<|am h2<|am h1 aX) (.inl rfl) L,e⟩
theorem ah8 (Oc:∀st x,db Cw st [.str x] [] [("addr",.str x)] st){x:Str}(hx:x.length<=1000):∃g,aI (d+6) Dw qc.body ([]++dU qc.scope [("addr",.str x)]) (.ret (.bool (m9 x))) g:=by
 have C:bk (d+6) (.aH 130) [.str x] [] [.frame [("addr",.str x)]] (.str<|j0 x) [.frame [("addr",.str x)]]:=
  (ah6 hx<|Oc [] x).call.at [] EX rfl rfl rfl rfl rfl rfl
 have H1:aI (d+6) Dw (qc.body.take 2) ([]++dU qc.scope [("addr",.str x)]) .next [rU (j0 x) 0 none]:=
  aW (sc:=[.val<|.str<|j0 x]) rfl (am C<|am (cK<|iG<|by kernel_rfl) aX)
 obtain⟨o',lF,L,e⟩:=HA (d:=d+6) (kG<|j0 x) 0 none;have F:∀{t i:aq} {b:List bl} {p:Pos} {f:cZ},t=(dc qc.body).1->b=(dc qc.body).2.2->(∃q r s,i=.Call (.Name "_iter_escaped_chars" q) [.Name "addr" r] [] s)->f=(match j1 (kG<|j0 x) 0 with|none=>.ret (.bool false)|some u=>.next)->
  dB (d+6) Dw (.For t i b [] p) [rU (j0 x) 0 none] f [rU (j0 x) o' lF]:=by
  intro t i b p f h1 h2 ⟨q,r,s,h3⟩ h4;subst h1;subst h2;subst h3;subst h4;exact Xj Xb rfl rfl (dk (sc:=[]) rfl aX) (dk (sc:=[]) rfl aX) Xp Xo L
 unfold m9;cases hc:j1 (kG<|j0 x) 0 with|none=>refine⟨[rU (j0 x) o' lF],jY 2 H1<|aW (sc:=[.iX (.ret<|.bool false) [rU (j0 x) o' lF]]) rfl (am ?_ aX)⟩;exact F rfl rfl ⟨_,_,_,rfl⟩ (by rw[hc])|some o=>have:=e o hc;subst this;refine⟨[rU (j0 x) o' lF],jY 2 H1<|aW (sc:=[.iX .next [rU (j0 x) o' lF]]) rfl (am ?_ aX)⟩;exact F rfl rfl ⟨_,_,_,rfl⟩ (by rw[hc])
end
section
variable {d:Nat}
noncomputable def k5:Str:="\n\t\r "
def HB (ln:Int):List (Str×CV):=[("lineno",.int ln),("instream",.ab 2),("whitespace",.str k5),("pushback",.ab 7)]
def dR (cs:List Nat)(ln:Int)(pb:List Str):List ae:=[.cell (some (.ab 1)),.list (cs.map jR),.d3 (eY ef.body 0).args (eY ef.body 0).body (eY ef.body 0).scope [] (some 4),.d3 (eY ef.body 1).args (eY ef.body 1).body (eY ef.body 1).scope [("signs",0)] none,.bt [("read",.ab 3)],.bt (HB ln),.bE 76 5,kH pb]
noncomputable def fZ:List Nat->Str
 |[]=>""|k::x=>⟨#[k]⟩
noncomputable def n8 (cs:List Nat)(ln:Int):Int:=match cs with
 |[]=>ln|k::x=>if k=10 then ln+1 else ln
theorem Dz:∀(cs:List Nat),CV.cV n (cs.map jR)=true
 |[]=>rfl|x::cs=>by rw[eC,CV.uu,Dz cs];rfl
theorem rV {cs:List Nat}{ln:Int}:((dR cs ln pb).all λo=>o.lo 8)=true:=by have h1:=Dz (n:=8) cs;simp only [dR,kH,bU,cG,ae.lo,h1,cJ (n:=8) pb];rfl
theorem ah' {cs:List Nat}{ln:Int}{pb:List Str}(hb:∀nm qu cl pm cv ct,db (vJ nm qu (eY ef.body 1).args (eY ef.body 1).body (eY ef.body 1).scope cl pm cv ct) (dR cs ln pb) [.int 1] [] [("size",.int 1)] (dR cs ln pb))(bJ:cs.length<=1000000):bM (d+2) (.ab 3) [.int 1] [] (dR cs ln pb) (.str (fZ cs)) (dR cs.tail ln pb):=by
 cases cs with
 |nil=>refine Hj (g:=[.frame [("size",.int 1)]]) rfl hb (by kernel_rfl) (by kernel_rfl) (by kernel_rfl) (by kernel_rfl) (by kernel_rfl) ?_ (aG _) rV rfl;exact dk (sc:=[.cw]) rfl (am (by decide) aX)|cons k r=>
  refine Hj (g:=[.frame [("size",.int 1)]]) rfl hb (by kernel_rfl) (by kernel_rfl) (by kernel_rfl) (by kernel_rfl) (by kernel_rfl) ?_ (aG _) rV rfl;apply dk (sc:=[.cw,.bg (.bi "list.pop") [.ab 1],.aE (.str ⟨#[k]⟩)<|dR r ln pb++[.frame [("size",.int 1)]]]) rfl;refine am ?_<|am gP<|am (A4 rfl)<|am ?_ aX
  ·have hl:((k::r).map jR).length=r.length+1:=by simp
   exact GP (st:=dR (k::r) ln pb++[.frame [("size",.int 1)]]) (k:=1) (i:=0) (j:=0) rfl (by decide) (hl▸rM (i:=0) (vI _)) rfl (by rw[hl];exact FH bJ)
  simp only [aV,dO];exact Tw bJ
theorem Xq {st:List ae}{k:Nat}{ps:pL}{b:aq}{sc:d8}{cells:List (Str×Nat)}{dd:Option Nat}(hk:st[k]?=some (.d3 ps b sc cells dd)):oM (.ab k) st:=λown s x S r=>by obtain⟨a,ha,rfl⟩:=r;obtain⟨a',b8,_,_,_,_,_,_,_,ho,_⟩:=S.bD hk;rw[ha] at b8;obtain rfl:=dE b8;obtain⟨k,_,h⟩:=keeps_F s.heap ⟨_,_,_,_,ho⟩;exact⟨k,h⟩
structure Xr:Prop where
 cls:wC 76
 yz:∀x∈(["lineno","instream","whitespace","pushback"]:List Str),xJ X.K (.ref 76) x=some none∧takerIn X.K 76 x=some none
 aia:∀st nm qu cl pm cv ct,db (vJ nm qu (eY ef.body 1).args (eY ef.body 1).body (eY ef.body 1).scope cl pm cv ct) st [.int 1] [] [("size",.int 1)] st
theorem uU:Xr:=⟨Hr,λx hx=>by
 rw[hX];revert x;exact zK.mpr ⟨⟨by kernel_rfl,by kernel_rfl⟩,zK.mpr ⟨⟨by kernel_rfl,by kernel_rfl⟩,zK.mpr ⟨⟨by kernel_rfl,by kernel_rfl⟩,zK.mpr ⟨⟨by kernel_rfl,by kernel_rfl⟩,λu h=>nomatch h⟩⟩⟩⟩,
 λst nm qu cl pm cv ct=>pe (λv1 S=>by kernel_rfl) gF⟩
abbrev Xs:aY:=da xP.scope 8 none
theorem HC {name:Str}(hn:name∈(["lineno","instream","whitespace","pushback"]:List Str)){st:List ae}{es:List (Str×CV)}{v:CV}(hk:st[6]?=some (.bE 76 5))(hd:st[5]?=some (.bt es))(hv:es.lookup name=some v)(hb:GX v=true):rG d name (.ab 6) st v st:=MR uU.cls hk hd hv (uU.yz name hn).1 rfl hb
theorem aib {name:Str}(hn:name∈(["lineno","instream","whitespace","pushback"]:List Str)){st:List ae}{es:List (Str×CV)}{v:CV}(hk:st[6]?=some (.bE 76 5))(hd:st[5]?=some (.bt es))(bn:es.length<=999):uA d name (.ab 6) v st (st.set 5 (.bt (mj es name v))):=GZ uU.cls hk hd (uU.yz name hn).2 bn
theorem Xt (hb:∀st k,db Ag st [.ab k] [] [("self",.ab k)] st){cs:List Nat}{ln:Int}(bJ:cs.length<=1000000):bM (d+4) (.aH 59) [.ab 6] [] (dR cs ln pb) (.str (fZ cs)) (dR cs.tail (n8 cs ln) pb):=by
 obtain⟨fr,B⟩:=(show ∃fr,aI (d+2) Xs xP.body (dR cs ln pb++[.frame [("self",.ab 6)]]) (.ret<|.str<|fZ cs) (dR cs.tail (n8 cs ln) pb++[fr]) from by
  have R:bk (d+2) (.ab 3) [.int 1] [] (dR cs ln pb++[.frame [("self",.ab 6)]]) (.str<|fZ cs) (dR cs.tail ln pb++[.frame [("self",.ab 6)]]):=
   (ah' (uU.aia _) bJ).call.wide rfl rV rV rfl rfl rfl rfl
  have H1:aI (d+2) Xs (xP.body.take 1) (dR cs ln pb++[.frame [("self",.ab 6)]]) .next (dR cs.tail ln pb++[.frame [("self",.ab 6),("ch",.str<|fZ cs)]]):=
   aW (sc:=[.val<|.ab 2,.bg (.ab 3) [],.aE (.str<|fZ cs)<|dR cs.tail ln pb++[.frame [("self",.ab 6)]]]) rfl
    (am R<|am (Xq rfl)<|am (ag8 rfl rfl rfl rfl W3)<|am (HC (by decide) rfl rfl rfl rfl) aX)
  have e:n8 cs ln=if d4 (fZ cs) "\n" then ln+1 else ln:=by
   cases cs with
   |nil=>rfl|cons k r=>
    have hn:("\n":Str)=⟨#[10]⟩:=by rfl'
    have:d4 ⟨#[k]⟩ "\n"=(k==10):=by rw[hn];simp [d4]
    show(if k=10 then ln+1 else ln)=if d4 ⟨#[k]⟩ "\n"=true then ln+1 else ln
    rw[this];by_cases h:k=10<;>simp [h]
  refine⟨.frame [("self",.ab 6),("ch",.str<|fZ cs)],?_⟩;rw[e];cases hh:d4 (fZ cs) "\n" with
  |true=>exact jY 1 H1 (aW (sc:=[.yes,.val<|.int ln,.aE .none<|dR cs.tail (ln+1) pb++[.frame [("self",.ab 6),("ch",.str<|fZ cs)]]]) (by rfl)<|am (aib (name:="lineno") (es:=HB ln) (by decide) rfl rfl (show 4<=999 by decide))<|am (HC (name:="lineno") (by decide) rfl rfl rfl rfl)<|am hh aX)|false=>exact jY 1 H1<|aW (sc:=[.no]) (by rfl)<|am hh aX)
 exact Xc.fn.code (hb _ 6) (by kernel_rfl) (λq h=>by exact nS h) B (.inl rfl) (aG _) rV rfl
abbrev i7:aY:=da qd.scope 8 none
noncomputable def HD (tok:Str)(ch:Option Str):ae:=.frame (("self",.ab 6)::("token",.str tok)::("fiter",.ab 10)::match ch with
 |some c=>[("ch",CV.str c)]|none=>[])
def cT (cs:List Nat)(ln:Int)(pb:List Str)(tok:Str)(ch:Option Str)(it:ae):List ae:=dR cs ln pb++[HD tok ch,.bg 59 6,it]
noncomputable def io:ae:=.jf 9 ""
noncomputable def bO (k:Nat)(ln:Int):Int:=if k=10 then ln+1 else ln
def iN:List Nat->Bool->Str->Int->Str×List Nat×Int×Bool
 |[],x,tok,ln=>(tok,[],ln,false)|k::r,true,tok,ln=>iN r false (tok++⟨#[k]⟩) (bO k ln)|k::r,false,tok,ln=>if k=34 then(tok,r,bO k ln,true) else if k=92 then iN r true tok (bO k ln) else iN r false (tok++⟨#[k]⟩) (bO k ln)
def eQ (k:Nat):Bool:=ko ⟨#[k]⟩ k5
def e9:List Nat->Bool->Str->Int->Str×List Nat×Int×Bool
 |[],x,tok,ln=>(tok,[],ln,false)|k::r,true,tok,ln=>e9 r false (tok++⟨#[k]⟩) (bO k ln)|k::r,false,tok,ln=>if eQ k then(tok,r,bO k ln,true) else if k=92 then e9 r true tok (bO k ln) else e9 r false (tok++⟨#[k]⟩) (bO k ln)
structure aid:Prop where
 Xu:Xr
 rd:pd 76 "_read_char" 59 xP Ag
 rb:∀st k,db Ag st [.ab k] [] [("self",.ab k)] st
 get:specialIn X.K (.ref 59) "__get__" = some (some (.builtin "function.__get__"))
 aie:takesIn X.K (.ref 59)=some false
theorem mB:aid:=⟨uU,Xc,λst k=>pe (λv1 S=>by kernel_rfl) gF,by kernel_rfl,by kernel_rfl⟩
section
variable {cs:List Nat}{ln:Int}{pb:List Str}{tok:Str}{ch:Option Str}{target:aq}
theorem Od (bJ:cs.length<=1000000):bk (d+4) (.aH 59) [.ab 6] [] (dR cs ln pb++g) (.str (fZ cs)) (dR cs.tail (n8 cs ln) pb++g):=
 (Xt mB.rb bJ).call.wide rfl rV rV rfl rfl rfl rfl
theorem Xv (bJ:cs.length<=1000000):bM (d+4) (.aH 59) [.ab 6] [] (dR cs ln pb++g) (.str (fZ cs)) (dR cs.tail (n8 cs ln) pb++g):=
 (Xt mB.rb bJ).wide rfl rV rV rfl rfl rfl rfl
theorem Oe {k:Nat}(bJ:(k::r).length<=1000000):nY (d+5) target 10 (cT (k::r) ln pb tok ch io) (some (.str ⟨#[k]⟩)) (cT r (bO k ln) pb tok ch io):=by obtain⟨oc,od,kU,hf⟩:=mB.rd.fn.is.bD;exact afV rfl rfl hf (WB (m:=9) rfl (Xv (d:=d) (ln:=ln) (pb:=pb) bJ (g:=[HD tok ch,.bg 59 6,io]))) rfl rfl (λe=>by exact absurd (show(1:Nat)=0 from (congrArg (λs=>s.cps.size) e))<|by decide)
theorem DA:nY (d+5) target 10 (cT [] ln pb tok ch io) none (cT [] ln pb tok ch .mR):=by
 obtain⟨oc,od,kU,hf⟩:=mB.rd.fn.is.bD;exact λA own s a R q S ha hR=>
  WD (target:=target) rfl rfl hf (WB (m:=9) rfl (Xv (d:=d) (cs:=[]) (ln:=ln) (pb:=pb) (by simp) (g:=[HD tok ch,.bg 59 6,io]))) rfl rfl q S ha (λhn=>absurd rfl hn) λu av s' E' S'=>hR av none s' E' S' rfl
def DB:List bl:=(dc qd.body).2.2
def uV:aq×aq×List bl:=dc (rO DB 1)
def uW:aq×aq×List bl:=dc (rP DB 1)
theorem aif {k:Nat}:dj d i7 uV.1 (.str ⟨#[k]⟩) (cT cs ln pb tok ch it) (cT cs ln pb tok (some ⟨#[k]⟩) it):=by
 have hw:kn i7 (cT cs ln pb tok ch it) "ch" (.str ⟨#[k]⟩)=some (cT cs ln pb tok (some ⟨#[k]⟩) it):=by cases ch<;>rfl
 exact wg hw
theorem n9 k j:d4 ⟨#[k]⟩ ⟨#[j]⟩=(k==j):=by simp [d4]
theorem HE:gM d "_read_char" (.ab 6) (cT cs ln pb tok ch it) (.aH 59) [.ab 6]:=
 ta mB.Xu.cls rfl rfl rfl mB.rd.find mB.rd.ty
theorem aii (hc:cs.length<=1000000)(hl:tok.length<=1000000):aI (d+4) i7 uV.2.2 (cT cs ln pb tok (some ⟨#[92]⟩) it) .next (cT cs.tail (n8 cs ln) pb (tok++fZ cs) (some (fZ cs)) it):=by
 have hh:(fZ cs).length<=1:=by cases cs with|nil=>exact dQ _|cons k r=>exact aG _
 apply aW (sc:=[.no,.yes,.bg (.aH 59) [.ab 6],.aE (.str<|fZ cs)<|cT cs.tail (n8 cs ln) pb tok (some ⟨#[92]⟩) it]) rfl;exact am (by rw[uf];exact TC hh hl)<|am (Od hc)<|am (cK mB.rd.bj)<|am (HE)<|am (n9 92 92)<|am (n9 92 34) aX
theorem Of s:s++("":Str)=s:=xC (by rw[vR];exact abl)
noncomputable def yU (z:Str×List Nat×Int×Bool):cZ:=if z.2.2.2 then .ret (.str z.1) else .next
def yV (z:Str×List Nat×Int×Bool):ae:=if z.2.2.2 then io else .mR
theorem Og:∀n cs ln tok ch,cs.length<=n->tok.length+cs.length<=1000000->∃em,te (d+5) i7 uV.1 uV.2.2 10 (cT cs ln pb tok ch io) (yU (iN cs false tok ln)) (cT (iN cs false tok ln).2.1 (iN cs false tok ln).2.2.1 pb (iN cs false tok ln).1 em (yV (iN cs false tok ln)))
 |n,[],ln,tok,ch,x,u=>⟨ch,.jk<|DA⟩|0,k::r,ln,tok,ch,hn,x=>by simp at hn|n+1,k::r,ln,tok,ch,hn,hl=>by
  simp only [dO] at hn hl;have N:=Oe (d:=d) (target:=uV.1) (tok:=tok) (ch:=ch) (ln:=ln) (pb:=pb) (k:=k) (r:=r) (by exact TD hl);have A:=aif (d:=d+5) (cs:=r) (ln:=bO k ln) (pb:=pb) (tok:=tok) (ch:=ch) (k:=k) (it:=io);have Oh:(tok++⟨#[k]⟩:Str).length=tok.length+1:=by rw[uf];rfl
  by_cases h1:k=34
  ·subst h1;exact⟨some ⟨#[34]⟩,.ret N A<|(aW (sc:=[.yes]) rfl (am (n9 34 34) aX))⟩
  by_cases h2:k=92
  ·subst h2;have B:=aii (d:=d+1) (ln:=bO 92 ln) (pb:=pb) (it:=io) (by exact TE hl) (by exact ug hl);cases r with
   |nil=>rw[show tok++fZ []=tok from Of tok] at B;exact⟨some "",.cons N A B (.inl rfl)<|.jk<|DA⟩|cons k' r'=>
    have Oi:(tok++⟨#[k']⟩:Str).length=tok.length+1:=by rw[uf];rfl
    obtain⟨em,L⟩:=Og n r' (bO k'<|bO 92 ln) (tok++⟨#[k']⟩) (some ⟨#[k']⟩) (by exact TF hn) (by simp [dO] at hl;exact TG hl Oi);exact⟨em,.cons N A B (.inl rfl) L⟩
  obtain⟨em,L⟩:=Og n r (bO k ln) (tok++⟨#[k]⟩) (some ⟨#[k]⟩) (by exact TH hn) (by exact TI hl Oh);have e:iN (k::r) false tok ln=iN r false (tok++⟨#[k]⟩) (bO k ln):=by simp [iN];rw[if_neg h1,if_neg h2]
  exact e▸⟨em,.cons N A ((aW (sc:=[.no,.no]) (by rfl)<|am (by rw[uf];exact TB<|by exact ug hl)<|am ((n9 k 92).trans<|by simpa using h2)<|am ((n9 k 34).trans<|by simpa using h1) aX)) (.inl rfl) L⟩
theorem tF:rG d "whitespace" (.ab 6) (cT cs ln pb tok ch it) (.str k5) (cT cs ln pb tok ch it):=HC (by decide) rfl rfl rfl rfl
theorem aij {k:Nat}:dj d i7 uW.1 (.str ⟨#[k]⟩) (cT cs ln pb tok ch it) (cT cs ln pb tok (some ⟨#[k]⟩) it):=by
 have hw:kn i7 (cT cs ln pb tok ch it) "ch" (.str ⟨#[k]⟩)=some (cT cs ln pb tok (some ⟨#[k]⟩) it):=by cases ch<;>rfl
 exact wg hw
theorem Oj:eQ 92=false:=by decide +kernel
theorem aim (hc:cs.length<=1000000)(hl:tok.length<=1000000):aI (d+4) i7 uW.2.2 (cT cs ln pb tok (some ⟨#[92]⟩) it) .next (cT cs.tail (n8 cs ln) pb (tok++fZ cs) (some (fZ cs)) it):=by
 have hh:(fZ cs).length<=1:=by cases cs with|nil=>exact dQ _|cons k r=>exact aG _
 apply aW (sc:=[.val<|.str k5,.no,.yes,.bg (.aH 59) [.ab 6],.aE (.str<|fZ cs)<|cT cs.tail (n8 cs ln) pb tok (some ⟨#[92]⟩) it]) rfl;exact am (by rw[uf];exact TC hh hl)<|am (Od hc)<|am (cK mB.rd.bj)<|am (HE)<|am (n9 92 92)<|am Oj<|am (tF) aX
theorem Ol:∀n cs ln tok ch,cs.length<=n->tok.length+cs.length<=1000000->∃em,te (d+5) i7 uW.1 uW.2.2 10 (cT cs ln pb tok ch io) (yU (e9 cs false tok ln)) (cT (e9 cs false tok ln).2.1 (e9 cs false tok ln).2.2.1 pb (e9 cs false tok ln).1 em (yV (e9 cs false tok ln)))
 |n,[],ln,tok,ch,x,u=>⟨ch,.jk<|DA⟩|0,k::r,ln,tok,ch,hn,x=>by simp at hn|n+1,k::r,ln,tok,ch,hn,hl=>by
  simp only [dO] at hn hl;have N:=Oe (d:=d) (target:=uW.1) (tok:=tok) (ch:=ch) (ln:=ln) (pb:=pb) (k:=k) (by simp only [dO];exact TD hl);have A:=aij (d:=d+5) (cs:=r) (ln:=bO k ln) (pb:=pb) (tok:=tok) (ch:=ch) (k:=k) (it:=io);have Oh:(tok++⟨#[k]⟩).length=tok.length+1:=by rw[uf];rfl
  cases h1:eQ k with
  |true=>
   have e:e9 (k::r) false tok ln=(tok,r,bO k ln,true):=by simp only [e9];rw[if_pos h1]
   exact e▸⟨some ⟨#[k]⟩,.ret N A<|(aW (sc:=[.val<|.str k5,.yes]) (by rfl)<|am h1<|am (tF) aX)⟩
  |false=>
   by_cases h2:k=92
   ·subst h2;have B:=aim (d:=d+1) (ln:=bO 92 ln) (pb:=pb) (it:=io) (TE hl)<|ug hl;have e:e9 (92::r) false tok ln=e9 r true tok (bO 92 ln):=by simp only [e9];rw[if_neg<|h1▸fL,if_pos trivial]
    rw[e];cases r with
    |nil=>rw[show tok++fZ []=tok from Of tok] at B;exact⟨some "",.cons N A B (.inl rfl)<|.jk<|DA⟩|cons k' r'=>
     have Oi:(tok++⟨#[k']⟩).length=tok.length+1:=by rw[uf];rfl
     obtain⟨em,L⟩:=Ol n r' (bO k'<|bO 92 ln) (tok++⟨#[k']⟩) (some ⟨#[k']⟩) (by simp only [dO] at hn;exact TF hn) (by simp [dO] at hl;exact TG hl Oi);exact⟨em,.cons N A B (.inl rfl) L⟩
   obtain⟨em,L⟩:=Ol n r (bO k ln) (tok++⟨#[k]⟩) (some ⟨#[k]⟩) (by exact TH hn) (by exact TI hl Oh);have e:e9 (k::r) false tok ln=e9 r false (tok++⟨#[k]⟩) (bO k ln):=by simp [e9];rw[if_neg<|h1▸fL,if_neg h2]
   exact e▸⟨em,.cons N A ((aW (sc:=[.val<|.str k5,.no,.no]) (by rfl)<|am (by rw[uf];exact TB<|by exact ug hl)<|am ((n9 k 92).trans<|by simpa using h2)<|am h1<|am (tF) aX)) (.inl rfl) L⟩
def bG:List Nat->Int->Str×List Nat×Int×Bool
 |[],ln=>("",[],ln,false)|k::r,ln=>if eQ k then bG r (bO k ln) else if k=34 then iN r false "" (bO k ln) else if k=92 then e9 r true "" (bO k ln) else e9 r false (""++⟨#[k]⟩) (bO k ln)
theorem Om {p:Pos}:a8 d i7 (.Name "fiter" p) (cT cs ln pb tok ch it) (.ab 10) (cT cs ln pb tok ch it):=
 dk (sc:=[]) rfl aX
theorem aio (hl:tok.length+cs.length<=1000000):∃em,∀{t i} {b} {p},t=uV.1->b=uV.2.2->(∃q,i=.Name "fiter" q)->dB (d+5) i7 (.For t i b [] p) (cT cs ln pb tok ch io) (yU (iN cs false tok ln)) (cT (iN cs false tok ln).2.1 (iN cs false tok ln).2.2.1 pb (iN cs false tok ln).1 em (yV (iN cs false tok ln))):=by obtain⟨em,L⟩:=Og cs.length cs ln tok ch (aG _) hl;refine⟨em,λh1 h2 ⟨q,h3⟩=>?_⟩;subst h1;subst h2;subst h3;exact MU rfl (Om) (MV rfl) L
theorem Xw (hl:tok.length+cs.length<=1000000):∃em,∀{t i} {b} {p},t=uW.1->b=uW.2.2->(∃q,i=.Name "fiter" q)->dB (d+5) i7 (.For t i b [] p) (cT cs ln pb tok ch io) (yU (e9 cs false tok ln)) (cT (e9 cs false tok ln).2.1 (e9 cs false tok ln).2.2.1 pb (e9 cs false tok ln).1 em (yV (e9 cs false tok ln))):=by obtain⟨em,L⟩:=Ol cs.length cs ln tok ch (aG _) hl;refine⟨em,λh1 h2 ⟨q,h3⟩=>?_⟩;subst h1;subst h2;subst h3;exact MU rfl (Om) (MV rfl) L
theorem aip {k:Nat}(hl:r.length+1<=1000000)(h0:eQ k=false):∃em,aI (d+5) i7 DB (cT r (bO k ln) pb "" (some ⟨#[k]⟩) io) (yU (bG (k::r) ln)) (cT (bG (k::r) ln).2.1 (bG (k::r) ln).2.2.1 pb (bG (k::r) ln).1 em (yV (bG (k::r) ln))):=by
 have e0:("":Str).length=0:=by decide +kernel
 have On:¬(eQ k=true):=by rw[h0];exact fL
 by_cases h1:k=34
 ·subst h1;obtain⟨em,F⟩:=aio<|ah [_,_,_,_] (.le (.a .o .i) .u<|.eq .w .k<|.gl (.a .w .o) .u) rfl hl e0;have e:bG (34::r) ln=iN r false "" (bO 34 ln):=by simp only [bG];rw[if_neg On,if_pos trivial]
  rw[e];generalize iN r false "" (bO 34 ln)=z at F ⊢;obtain⟨t',c',l',b'⟩:=z;refine⟨em,?_⟩;cases b' with|true=>exact aW (sc:=[.val<|.str k5,.no,.yes,.iX (.ret<|.str t')<|cT c' l' pb t' em io]) rfl (am (by exact F rfl rfl ⟨_,rfl⟩)<|am (n9 34 34)<|am h0<|am (tF) aX)|false=>exact aW (sc:=[.val<|.str k5,.no,.yes,.iX .next (cT c' l' pb t' em .mR)]) rfl (am (by exact F rfl rfl ⟨_,rfl⟩)<|am (n9 34 34)<|am h0<|am (tF) aX)
 have hq:d4 (⟨#[k]⟩:Str) ⟨#[34]⟩=false:=(n9 k 34).trans (by simpa using h1);by_cases h2:k=92
 ·subst h2;have e:bG (92::r) ln=e9 r true "" (bO 92 ln):=by simp only [bG];rw[if_neg On,if_neg h1,if_pos trivial]
  rw[e];have RC:=Od (d:=d+1) (ln:=bO 92 ln) (pb:=pb) (by exact ug hl) (g:=[HD ""<|some ⟨#[92]⟩,.bg 59 6,io]);have hh:(fZ r).length<=1:=by cases r with|nil=>exact dQ _|cons k r=>exact aG _
  have d6:(""++fZ r:Str).length<=cX:=by rw[uf,e0];show _<=2^24;exact ah [_] (.le .o .j<|.gl (.a .k .o)<|.n<|2^24) rfl hh
  have HF:(""++fZ r:Str).length<=1:=by rw[uf,e0];exact ah [_,_] (.le .o .i<|.gl (.a .k .o) .i) rfl hh
  obtain⟨em,F⟩:=Xw (ch:=some<|fZ r) (by rw[List.length_tail];exact act hl HF);have ez:e9 r true "" (bO 92 ln)=e9 r.tail false (""++fZ r) (n8 r<|bO 92 ln):=by cases r with|nil=>rw[show(""++fZ []:Str)="" from Of ""];rfl|cons k' r'=>rfl
  rw[ez];generalize e9 r.tail false (""++fZ r) (n8 r<|bO 92 ln)=z at F ⊢;obtain⟨t',c',l',b'⟩:=z;refine⟨em,?_⟩;cases b' with|true=>refine aW (sc:=[.val<|.str k5,.no,.no,.yes,.bg (.aH 59) [.ab 6],.aE (.str<|fZ r)<|cT r.tail (n8 r<|bO 92 ln) pb "" (some ⟨#[92]⟩) io,.iX (.ret<|.str t')<|cT c' l' pb t' em io]) rfl ?_;exact am (by exact F rfl rfl ⟨_,rfl⟩) (am d6<|am RC<|am (cK mB.rd.bj)<|am (HE)<|am (n9 92 92)<|am hq<|am h0<|am (tF) aX)|false=>refine aW (sc:=[.val<|.str k5,.no,.no,.yes,.bg (.aH 59) [.ab 6],.aE (.str<|fZ r)<|cT r.tail (n8 r<|bO 92 ln) pb "" (some ⟨#[92]⟩) io,.iX .next (cT c' l' pb t' em .mR)]) rfl ?_;exact am (by exact F rfl rfl ⟨_,rfl⟩)<|am d6<|am RC<|am (cK mB.rd.bj)<|am (HE)<|am (n9 92 92)<|am hq<|am h0<|am (tF) aX
 have hb:d4 (⟨#[k]⟩:Str) ⟨#[92]⟩=false:=(n9 k 92).trans (by simpa using h2);have e:bG (k::r) ln=e9 r false (""++⟨#[k]⟩) (bO k ln):=by simp [bG];rw[if_neg On,if_neg h1,if_neg h2]
 rw[e];have HF:(""++⟨#[k]⟩:Str).length=1:=by rw[uf,e0];rfl
 have d6:(""++⟨#[k]⟩:Str).length<=cX:=by rw[HF];show _<=2^24;exact ah [] (.gl .j<|.n<|2^24) rfl
 obtain⟨em,F⟩:=Xw (ch:=some ⟨#[k]⟩) (by exact ah [_,_,_,_] (.le (.a .o .i) .u<|.eq .w .i<|.gl (.a .w .o) .u) rfl hl HF);generalize e9 r false (""++⟨#[k]⟩) (bO k ln)=z at F ⊢;obtain⟨t',c',l',b'⟩:=z;refine⟨em,?_⟩;cases b' with|true=>exact aW (sc:=[.val<|.str k5,.no,.no,.no,.iX (.ret<|.str t')<|cT c' l' pb t' em io]) rfl (am (by exact F rfl rfl ⟨_,rfl⟩)<|am d6<|am hb<|am hq<|am h0<|am (tF) aX)|false=>exact aW (sc:=[.val<|.str k5,.no,.no,.no,.iX .next (cT c' l' pb t' em .mR)]) rfl (am (by exact F rfl rfl ⟨_,rfl⟩)<|am d6<|am hb<|am hq<|am h0<|am (tF) aX)
theorem Xx:∀cs ln ch,cs.length<=1000000->∃em,te (d+5) i7 (dc qd.body).1 DB 10 (cT cs ln pb "" ch io) (yU (bG cs ln)) (cT (bG cs ln).2.1 (bG cs ln).2.2.1 pb (bG cs ln).1 em (yV (bG cs ln)))
 |[],ln,ch,x=>⟨ch,.jk<|DA⟩|k::r,ln,ch,hl=>by
  have N:=Oe (d:=d) (target:=(dc qd.body).1) (tok:="") (ch:=ch) (ln:=ln) (pb:=pb) (k:=k) (by omega);have A:=(show dj (d+5) i7 (dc qd.body).1 (.str ⟨#[k]⟩) (cT r (bO k ln) pb "" ch io) (cT r (bO k ln) pb "" (some ⟨#[k]⟩) io) from by
   have hw:kn i7 (cT r (bO k ln) pb "" ch io) "ch" (.str ⟨#[k]⟩)=some (cT r (bO k ln) pb "" (some ⟨#[k]⟩) io):=by cases ch<;>rfl
   exact wg hw)
  cases h0:eQ k with
  |true=>
   obtain⟨em,L⟩:=Xx r (bO k ln) (some ⟨#[k]⟩)<|ug hl;have e:bG (k::r) ln=bG r (bO k ln):=by simp only [bG];rw[if_pos h0]
   rw[e];exact⟨em,.cons N A (aW (sc:=[.val<|.str k5,.yes]) (by rfl')<|am h0<|am (tF) aX) (.inr rfl) L⟩
  |false=>obtain⟨em,B⟩:=aip hl h0;refine⟨em,?_⟩;generalize bG (k::r) ln=z at B ⊢;obtain⟨t',c',l',b'⟩:=z;cases b' with|true=>exact .ret N A B|false=>exact .cons N A B (.inl rfl)<|.jk<|afK rfl
end
end
section
variable {d:Nat}
def i8 (cs:List Nat)(ln:Int):List Str->Str×List Nat×Int×List Str
 |p::ps=>(p,cs,ln,ps)|[]=>((bG cs ln).1,(bG cs ln).2.1,(bG cs ln).2.2.1,[])
theorem HG {cs:List Nat}{ln:Int}:rG d "pushback" (.ab 6) (dR cs ln pb++g) (.ab 7) (dR cs ln pb++g):=
 HC (by decide) rfl rfl rfl rfl
theorem aiq {cs:List Nat}{ln:Int}(hc:cs.length<=1000000)(hp:pb.length<=1000000):∃g,aI (d+5) i7 qd.body (dR cs ln pb++[.frame [("self",.ab 6)]]) (.ret (.str (i8 cs ln pb).1)) (dR (i8 cs ln pb).2.1 (i8 cs ln pb).2.2.1 (i8 cs ln pb).2.2.2++g):=by
 cases pb with
 |cons p ps=>
  refine⟨[.frame [("self",.ab 6)]],?_⟩;apply aW (sc:=[.val<|.ab 7,.cw,.val<|.ab 7,.bg (.bi "list.pop") [.ab 7],.aE (.str p)<|dR cs ln ps++[.frame [("self",.ab 6)]]]) (by rfl);have hl:((p::ps).map CV.str).length=ps.length+1:=by simp
  refine am ?_<|am gP<|am (A4 rfl)<|am (HG)<|am ?_<|am (HG) aX
  ·exact GP (st:=dR cs ln (p::ps)++[.frame [("self",.ab 6)]]) (k:=7) (i:=0) rfl (by decide) (by rw[hl];exact rM<|vI _) rfl (by rw[hl];exact FH hp)
  exact hl▸Tw hp
 |nil=>
  obtain⟨em,L⟩:=Xx cs ln none hc;have H1:aI (d+5) i7 (qd.body.take 3) (dR cs ln []++[.frame [("self",.ab 6)]]) .next (cT cs ln [] "" none io):=by
   apply aW (sc:=[.val<|.ab 7,.cw,.aE (.ab 9)<|dR cs ln []++[.frame [("self",.ab 6),("token",.str "")],.bg 59 6],.aE (.ab 10)<|dR cs ln []++[.frame [("self",.ab 6),("token",.str "")],.bg 59 6,.jf 9 ""]]) (by rfl);refine am ?_<|am gP<|am ?_<|am (by decide)<|am (HG) aX
   ·exact af3 rfl
   exact afI mB.Xu.cls rfl rfl rfl mB.rd.find mB.rd.ty mB.get mB.aie (by decide +kernel)
  show∃g,aI (d+5) i7 qd.body _ (.ret<|.str (bG cs ln).1)<|dR (bG cs ln).2.1 (bG cs ln).2.2.1 []++g;generalize bG cs ln=z at L ⊢;obtain⟨t',c',l',b'⟩:=z;have F:∀{t i:aq} {b:List bl} {p:Pos},t=(dc qd.body).1->b=DB->(∃q,i=.Name "fiter" q)->dB (d+5) i7 (.For t i b [] p) (cT cs ln [] "" none io) (yU (t',c',l',b')) (cT c' l' [] t' em<|yV (t',c',l',b')):=by intro t i b p h1 h2 ⟨q,h3⟩;subst h1;subst h2;subst h3;exact MU rfl (Om) (MV rfl) L
  cases b' with|true=>exact⟨_,jY 3 H1<|aW (sc:=[.iX (.ret<|.str t')<|cT c' l' [] t' em io]) (by rfl)<|am (by exact F rfl rfl ⟨_,rfl⟩) aX⟩|false=>exact⟨_,jY 3 H1<|aW (sc:=[.iX .next (cT c' l' [] t' em .mR)]) rfl (am (by exact F rfl rfl ⟨_,rfl⟩) aX)⟩
theorem air (hb:∀st k,db FO st [.ab k] [] [("self",.ab k)] st){cs:List Nat}{ln:Int}(hc:cs.length<=1000000)(hp:pb.length<=1000000):bM (d+7) (.aH 66) [.ab 6] [] (dR cs ln pb) (.str (i8 cs ln pb).1) (dR (i8 cs ln pb).2.1 (i8 cs ln pb).2.2.1 (i8 cs ln pb).2.2.2):=by obtain⟨g,B⟩:=aiq hc hp;exact NO.fn.code (hb _ 6) (by kernel_rfl) (λq h=>by exact nS h) B (.inl rfl) (aG _) rV rfl
end
section
variable {d:Nat}
theorem ais (hb:∀st k x,db FP st [.ab k,.str x] [] [("self",.ab k),("token",.str x)] st){cs:List Nat}{ln:Int}{x:Str}(hp:pb.length<=1000000):bM (d+2) (.aH 73) [.ab 6,.str x] [] (dR cs ln pb) .none (dR cs ln (pb++[x])):=by
 have B:aI d (da Co.scope 8 none) Co.body (dR cs ln pb++[.frame [("token",.str x),("self",.ab 6)]]) .next (dR cs ln (pb++[x])++[.frame [("token",.str x),("self",.ab 6)]]):=by apply aW (sc:=[.val<|.ab 7,.bg (.bi "list.append") [.ab 7],.aE .none<|dR cs ln (pb++[x])++[.frame [("token",.str x),("self",.ab 6)]]]) (by rfl);refine am ?_<|am gP<|am (jX rfl)<|am (HG) aX;have:=mX (d:=d) (st:=dR cs ln pb++[.frame [("token",.str x),("self",.ab 6)]]) (k:=7) (v:=.str x) rfl (by rw[aV];exact KL hp);rwa[NZ] at this
 exact NP.fn.code (hb _ 6 x) (by kernel_rfl) (λq h=>by exact nS h) B (.inr ⟨rfl,rfl⟩) (aG _) rV rfl
def jm (x:Str):List ae:=[.frame [("text",.str x),("tape",.ab 3)],.cell (some (.ab 2)),.list (x.cps.toList.map jR),.d3 (eY ef.body 0).args (eY ef.body 0).body (eY ef.body 0).scope [] (some 5),.d3 (eY ef.body 1).args (eY ef.body 1).body (eY ef.body 1).scope [("signs",1)] none,.bt [("read",.ab 4)]]
def uX (ln:Int):List (Str×CV):=[("lineno",.int ln),("instream",.ab 3),("whitespace",.str k5),("pushback",.ab 9)]
def cLD:aY:=da ef.scope 0 (some (291,287))
theorem aiv (hb:∀st k j,db Af st [.ab k,.ab j] [] [("self",.ab k),("fp",.ab j)] st)(hm:makesIn X.K 76=true){x:Str}(hx:x.length<=1000000):aI (d+3) cLD ef.body ([]++dU ef.scope [("text",.str x)]) (.ret (.ab 7)) (jm x++[.bt (uX 1),.bE 76 6,ae.frame [("fp",.ab 3),("self",.ab 7)],ae.list []]):=by
 have K:bk (d+3) (.aH 76) [.ab 3] [] (jm x) (.ab 7) (jm x++[.bt<|uX 1,.bE 76 6,.frame [("fp",.ab 3),("self",.ab 7)],.list []]):=
  (MS (st:=jm x) hm NQ.find NQ.ty ((by
   have HH:∀{name:Str} {es:List (Str×CV)} {v:CV} {g:List ae},name∈(["lineno","instream","whitespace","pushback"]:List Str)->es.length<=999->
    uA d name (.ab 7) v (jm x++([.bt es,.bE 76 6]++g)) (jm x++([.bt<|mj es name v,.bE 76 6]++g)):=λ{name es v g} hn bn=>
    GZ (C:=76) (k:=7) (dd:=6) uU.cls rfl rfl (uU.yz name hn).2 bn
   have B:aI d (da Cp.scope 8 none) Cp.body (jm x++[.bt [],.bE 76 6]++[.frame [("fp",.ab 3),("self",.ab 7)]]) .next (jm x++[.bt<|uX 1,.bE 76 6,.frame [("fp",.ab 3),("self",.ab 7)],.list []]):=by
    refine aW (sc:=[.aE .none<|jm x++[.bt [("lineno",.int 1)],.bE 76 6,.frame [("fp",.ab 3),("self",.ab 7)]],.aE .none<|jm x++[.bt [("lineno",.int 1),("instream",.ab 3)],.bE 76 6,.frame [("fp",.ab 3),("self",.ab 7)]],
     .aE .none (jm x++[.bt [("lineno",.int 1),("instream",.ab 3),("whitespace",.str k5)],.bE 76 6,.frame [("fp",.ab 3),("self",.ab 7)]]),.aE .none<|jm x++[.bt<|uX 1,.bE 76 6,.frame [("fp",.ab 3),("self",.ab 7)],.list []]]) rfl ?_
    exact am (HH (g:=[.frame [("fp",.ab 3),("self",.ab 7)],.list []]) (es:=[("lineno",.int 1),("instream",.ab 3),("whitespace",.str k5)]) (by decide)<|by decide) (am (dQ _) (am (HH (g:=[.frame [("fp",.ab 3),("self",.ab 7)]]) (by decide)<|by decide)
     (am (HH (by decide)<|by decide)<|am (HH (es:=[]) (by decide)<|by decide) aX)))
   refine NQ.fn.code (tab:=none) (g:=[]) (hb _ 7 3) (by kernel_rfl) nofun B (.inr ⟨rfl,rfl⟩) (by show 8<=10;decide) ?_ rfl;have h1:=Dz (n:=10) x.cps.toList;show((jm x++[ae.bt<|uX 1,.bE 76 6,.frame [("fp",.ab 3),("self",.ab 7)],.list []]).all λo=>o.lo 10)=true;simp only [jm,fM,bU,cG,ae.lo,h1];rfl))).call
 have S1:uA (d+3) "read" (.ab 3) (.ab 4) [.frame [("text",.str x),("tape",.ab 3)],.cell<|some<|.ab 2,.list<|x.cps.toList.map jR,.d3 (eY ef.body 0).args (eY ef.body 0).body (eY ef.body 0).scope [] none,
  .d3 (eY ef.body 1).args (eY ef.body 1).body (eY ef.body 1).scope [("signs",1)] none] (jm x):=ag5 rfl W3
 have L1:bk (d+3) (.ty "list") [.str x] [] [.frame [("text",.str x)],.cell none] (.ab 2) [.frame [("text",.str x)],.cell none,.list<|x.cps.toList.map jR]:=by have:=Wm (d:=d+3) (st:=[.frame [("text",.str x)],.cell none]) (by show _<=2^24;exact FH hx);unfold cQ at this;rwa[fV] at this
 refine aW (sc:=[.aE (.ab 2) [.frame [("text",.str x)],.cell none,.list<|x.cps.toList.map jR],
  .aE (.ab 3) [.frame [("text",.str x)],.cell<|some<|.ab 2,.list<|x.cps.toList.map jR,.d3 (eY ef.body 0).args (eY ef.body 0).body (eY ef.body 0).scope [] none],
  .aE (.ab 4) [.frame [("text",.str x),("tape",.ab 3)],.cell<|some<|.ab 2,.list<|x.cps.toList.map jR,.d3 (eY ef.body 0).args (eY ef.body 0).body (eY ef.body 0).scope [] none,.d3 (eY ef.body 1).args (eY ef.body 1).body (eY ef.body 1).scope [("signs",1)] none],
  .aE .none (jm x),.aE (.ab 7)<|jm x++[.bt<|uX 1,.bE 76 6,.frame [("fp",.ab 3),("self",.ab 7)],.list []]]) rfl ?_
 refine am K<|am (cK<|iG<|by kernel_rfl)<|am S1<|am ?_<|am ?_<|am L1<|am yn aX
 ·exact Hi rfl (λu=>rfl) rfl
 exact Hi rfl (λu=>rfl) rfl
theorem aiw (hb:∀st k j,db Af st [.ab k,.ab j] [] [("self",.ab k),("fp",.ab j)] st)(hm:makesIn X.K 76=true)(hc:FQ.code=.ref 291){x:Str}(hx:x.length<=1000000)(hbL:db FQ [] args kw [("text",.str x)] []):bM (d+5) (.aH 292) args kw [] (.ab 6) (dR x.cps.toList 1 []):=by have c:=ahp.code (tab:=some (291,287)) hbL (by kernel_rfl) (λq h=>by obtain rfl:=dE h;exact⟨ku,hc⟩) (by rw[dM];exact aiv (d:=d) hb hm hx) (.inl rfl) (by show 0<=10;decide) (by show((jm x++[ae.bt<|uX 1,.bE 76 6,.frame [("fp",.ab 3),("self",.ab 7)],.list []]).all λo=>o.lo 10)=true;simp only [jm,fM,bU,cG,ae.lo,Dz (n:=10) x.cps.toList];rfl) rfl;exact c.qr<|yk [1,2,3,4,5,6,7,9] (by decide) (cq rfl (cq (fz<|W5 _ _)<|cq rfl (cq rfl (cq rfl (cq rfl (cq rfl (cq rfl iF))))))) rfl rfl
end
section
variable {d:Nat}
structure Oo (p:ai):Prop where
 bg:∀S pl,pR X.K S (getMethod (.ref p) "search" pl)=some (.builtin "re.Pattern.search",[.ref p])
structure HI (p:ai)(x:Str):Prop where
 chk:∀S t,pR X.K S (checkBuiltinCall "re.Pattern.search" ⟨[.ref p,.str x t],[]⟩)=some ()
 run:∀S t,pR X.K S (Builtin.«re.Pattern.search» ⟨[.ref p,.str x t],[]⟩)=some (.done (.ret .none))
theorem aiz:plainId "re.Pattern.search"=true:=by decide +kernel
theorem aiA:Fg table "re.Pattern.search"=some Builtin.«re.Pattern.search»:=RA (by kernel_rfl)
theorem Xy {p:ai}(R:Oo p){st:List ae}:gM d "search" (.aH p) st (.bi "re.Pattern.search") [.aH p]:=λA own s x pl q S r=>by subst r;exact(Rh (vS S.ok.k S.bj)<|R.bg _ _).here ⟨own,.refl,S,rfl,_,_,rfl,rfl,rfl⟩
theorem Xz {p:ai}{x:Str}(R:HI p x){st:List ae}:bk d (.bi "re.Pattern.search") [.aH p,.str x] [] st .none st:=λA own s fv vs ks q S fQ cx di=>by subst fQ;subst di;obtain⟨_,_,rfl,h,_,_,rfl,⟨t,rfl⟩,jD⟩:=cx;subst h;subst jD;have KI:=vS S.ok.k S.bj;exact Ri<|codeAny_call_builtin aiz aiA<|(Rh KI<|R.chk _ t).here<|(Rh KI<|R.run _ t).here ⟨own,.refl,S,rfl⟩
noncomputable def br (p:Str×Str):CV:=.cB [.str p.1,.str p.2]
def bB (hs:List (Str×Str)):List ae:=[.bt [("_headers",.ab 2)],.bE 281 0,.list (hs.map br)]
theorem HJ:∀(hs:List (Str×Str)),CV.cV n (hs.map br)=true
 |[]=>rfl|x::hs=>by rw[eC,CV.uu,HJ hs];rfl
theorem uY:((bB hs).all λo=>o.lo 3)=true:=by have h1:=HJ (n:=3) hs;simp only [bB,bU,cG,ae.lo,h1];rfl
theorem na f (hs:List (Str×Str)):CV.gn f (hs.map br)=some (hs.map br):=Hn (λx=>rfl) hs
noncomputable def HK:List Nat:=[9,32,34,35,40,41,92,97]
def gN (i:Nat):Nat:=if i<8 then HK.getD i 0 else 200+i
def qC:List Str:=cQ "abcdefghijABCDEFGHIJzZ"
def DC:List Str:="y"::(aK 8).map λi=>⟨#[gN i]⟩
def bY (x:Str):Prop:=qC.contains x=true
def dH (x:Str):Prop:=DC.contains x=true
theorem uZ {x:Str}(h:bY x):bY (bZ x)∧pU (bZ x).length=false∧x.length<=1000000:=by have:=(by decide +kernel:(qC.all λx=>qC.contains (bZ x)&&(!pU (bZ x).length&&nA x.length 1000000))=true);have:=dI.mp this x (by simpa [bY] using h);rw[bz,bz,E0] at this;exact⟨this.1,this.2.1,lj this.2.2⟩
theorem aiB {x:Str}(h:dH x):x.length<=1000000:=by exact lj (dI.mp (by decide +kernel:(DC.all λx=>nA x.length 1000000)=true) x<|by simpa [dH] using h)
noncomputable def XA:Option xK->Bool
 |some (.done (.ret .none))=>true|_=>false
theorem aiC {o:Option xK}(h:XA o=true):o=some (.done (.ret .none)):=by
 cases o with
 |none=>exact nB h|some f=>cases f with
  |done f=>cases f with
   |ret v=>cases v<;>first|rfl|exact nB h
   |_=>exact nB h
  |_=>exact nB h
def Op (K:Frag)(S:Setting)(p:ai)(t:Tok)(x:Str):Bool:=(pR K S (checkBuiltinCall "re.Pattern.search" ⟨[.ref p,.str x t],[]⟩)).isSome&&XA (pR K S (Builtin.«re.Pattern.search» ⟨[.ref p,.str x t],[]⟩))
theorem XB {p:ai}{x:Str}(h:∀S t,Op X.K S p t x=true):HI p x:=by
 constructor<;>intro S t<;>have q:=(bz _ _).mp<|h S t
 ·obtain⟨u,e⟩:=Kk.mp q.1;exact e
 exact aiC q.2
theorem A9:wC 281:=Dv
theorem Oq:xJ X.K (.ref 281) "_headers"=some none∧takerIn X.K 281 "_headers"=some none:=hX▸⟨by kernel_rfl,by kernel_rfl⟩
theorem qD:pd 281 "_convert_string_type" 182 Ab Ct:=tA (by kernel_rfl) (by kernel_rfl) (by kernel_rfl) (iM (by kernel_rfl) (by kernel_rfl)<|by decide +kernel)
theorem aiD:∀st k x b,db Ct st [.ab k,.str x] [("name",.bool b)] [("self",.ab k),("value",.str x),("name",.bool b)] st:=λst k x b=>NM (uT:=[]) (qB:=[]) (λv1 v2 v3 S=>by kernel_rfl)<|λu u u u h=>h
theorem aiF:Oo 152:=⟨λS pl=>by kernel_rfl⟩
theorem aiG:∀x,bY x->HI 147 x:=λx hx=>XB λS t=>by rw[hX];exact dI.mp (by kernel_rfl) x (by simpa [bY] using hx)
theorem aiH:∀x,dH x->HI 152 x:=λx hx=>XB λS t=>by rw[hX];exact dI.mp (by kernel_rfl) x (by simpa [dH] using hx)
theorem XC {x:Str}(hx:if b then bY x else dH x):bM (d+2) (.aH 182) [.ab 1,.str x] [("name",.bool b)] (bB hs) (.str x) (bB hs):=by
 obtain⟨fr,B⟩:=(show ∃fr,aI d (da Ab.scope 3 none) Ab.body (bB hs++[.frame [("name",.bool b),("value",.str x),("self",.ab 1)]]) (.ret<|.str x) (bB hs++[fr]) from by
  cases b with
  |true=>exact⟨.frame [("name",.bool true),("value",.str x),("self",.ab 1),("regex",.aH 147)],aW (sc:=[.val<|.ty "str",.val<|.bool true,.cw,.cw,.bg (.bi "re.Pattern.search") [.aH 147],.val .none]) rfl (am (Xz<|aiG x hx)<|am gP<|am (Xy<|⟨λS pl=>by kernel_rfl⟩)<|am (ky rfl)<|am Ws<|am yn aX)⟩|false=>refine⟨.frame [("name",.bool false),("value",.str x),("self",.ab 1),("regex",.aH 152)],aW (sc:=[.val<|.ty "str",.val<|.bool true,.cw,.cw,.bg (.bi "re.Pattern.search") [.aH 152],.val .none]) rfl ?_⟩;exact am (Xz<|aiH x hx)<|am gP<|am (Xy aiF)<|am (ky rfl)<|am Ws<|am yn aX)
 exact qD.fn.code (tab:=none) (aiD _ 1 x b) (by cases b<;>kernel_rfl) nofun B (.inl rfl) (aG _) uY rfl
end
section
variable {d:Nat}
theorem HP:rG d "_headers" (.ab 1) (bB hs++g) (.ab 2) (bB hs++g):=
 MR A9 rfl rfl rfl Oq.1 rfl rfl
theorem DF:gM d "_convert_string_type" (.ab 1) (bB hs++g) (.aH 182) [.ab 1]:=
 ta A9 rfl rfl rfl qD.find qD.ty
theorem DG {x:Str}(hx:if b then bY x else dH x):bk (d+2) (.aH 182) [.ab 1,.str x] [("name",.bool b)] (bB hs++g) (.str x) (bB hs++g):=
 (XC hx).call.wide rfl uY uY rfl rfl rfl rfl
end
section
variable {d:Nat}
abbrev A':aY:=da xQ.scope 4 none
noncomputable def og (n v:Str)(r:List (Str×CV)):ae:=.frame (("_params",.ab 3)::("_value",.str v)::("_name",.str n)::("self",.ab 1)::r)
theorem XE:ae.list (hs.map br++[.cB [.str n,.str v]])=.list ((hs++[(n,v)]).map br):=by rw[fU];rfl
end
section
variable {d:Nat}
theorem aiO (hn:bY n)(hv:dH v)(hl:hs.length<=1000000)(uB:v.length<=1000000)(hb:db Cv (bB hs) [.ab 1,.str n,.str v] [] [("self",.ab 1),("_name",.str n),("_value",.str v),("_params",.ab 3)] (bB hs++[.iz])):bM (d+4) (.aH 278) [.ab 1,.str n,.str v] [] (bB hs) .none (bB (hs++[(n,v)])):=by
 obtain⟨g,B⟩:=(show ∃g,aI (d+2) A' xQ.body (bB hs++[.iz]++[og n v []]) .next (bB (hs++[(n,v)])++g) from by
  have H1:aI (d+2) A' (xQ.body.take 2) (bB hs++[.iz]++[og n v []]) .next (bB hs++[.iz,og n v [("parts",.ab 5)],.list [.str v]]):=by apply aW (sc:=[.val<|.bool true,.cw,.bg (.aH 182) [.ab 1],.val<|.str v,.bg (.bi "list.append") [.ab 5],.aE .none<|bB hs++[.iz,og n v [("parts",.ab 5)],.list [.str v]]]) (by rfl);exact am (mX (st:=bB hs++[.iz,og n v [("parts",.ab 5)],.list []]) (k:=5) (xs:=[]) rfl (by decide))<|am gP<|am (jX rfl)<|am (DG hv)<|am (cK qD.bj)<|am (DF)<|am (yq (r:=false) rfl)<|am (dQ _) aX
  have F:∀{t i:aq} {b:List bl} {p:Pos} {xk xv:Str} {pk pv pt py mn tn:Pos} {x1:Nat},t=.Tuple [.Name xk pk,.Name xv pv] x1 pt->i=.Call (.Attribute (.Name "_params" py) "items" mn) [] [] tn->A'.scope.names.lookup xk=some .local->A'.scope.names.lookup xv=some .local->(mn.endLine==tn.line)=true->
   dB (d+2) A' (.For t i b [] p) (bB hs++[.iz,og n v [("parts",.ab 5)],.list [.str v]]) .next (bB hs++[.iz,og n v [("parts",.ab 5)],.list [.str v]]):=by
   intro t i b p xk xv pk pv pt py mn tn x1 h1 h2 h3 h4 h5;subst h1;subst h2;exact ag9 (k:=3) (vars:=("_params",.ab 3)::("_value",.str v)::("_name",.str n)::("self",.ab 1)::[("parts",.ab 5)]) rfl (by rfl) (by decide +kernel) (by decide +kernel) rfl h3 h4 h5
  have H2:aI (d+2) A' ((xQ.body.drop 2).take 1) (bB hs++[.iz,og n v [("parts",.ab 5)],.list [.str v]]) .next (bB hs++[.iz,og n v [("parts",.ab 5)],.list [.str v]]):=by refine aW (sc:=[.iX .next (bB hs++[.iz,og n v [("parts",.ab 5)],.list [.str v]])]) (by rfl)<|am ?_ aX;exact F rfl rfl rfl rfl rfl
  refine⟨[.iz,og n v [("parts",.ab 5)],.list [.str v]],jY 2 H1<|jY 1 H2 ?_⟩;apply aW (sc:=[.val<|.ab 2,.bg (.bi "list.append") [.ab 2],.bg (.aH 182) [.ab 1],.val<|.str n,.bg (.bi "str.join") [.str "; "],.val<|.str v,.aE .none<|bB (hs++[(n,v)])++[.iz,og n v [("parts",.ab 5)],.list [.str v]]]) rfl;have ap:=mX (d:=d+2) (st:=bB hs++[.iz,og n v [("parts",.ab 5)],.list [.str v]]) (k:=2) (v:=.cB [.str n,.str v]) rfl (by rw[aV];exact KL hl);rw[XE] at ap;have jn:=AR (d:=d+2) (st:=bB hs++[.iz,og n v [("parts",.ab 5)],.list [.str v]]) (k:=5) (x:="; ") (ss:=[v]) rfl (by
   unfold zU pU;have:("; ").length=2:=by decide +kernel
   simp only [E0,decide_eq_false_iff_not,Rw];show _<=2^24;exact ah [_] (.le .o (.n 1000000)<|.gl (.a (.a .k .o)<|.n 2)<|.n<|2^24) rfl uB)
  exact am ap<|am gP<|am wM<|am jn<|am gP<|am yx<|am (DG hn)<|am (cK qD.bj)<|am (DF)<|am (jX rfl)<|am (HP) aX)
 exact NS.fn.code (tab:=none) (st:=bB hs) hb (by kernel_rfl) nofun B (.inr ⟨rfl,rfl⟩) (aG _) uY rfl
theorem aiP (hb:∀st k,db FM st [.ab k] [] [("self",.ab k)] st)(hl:hs.length<=1000000):bM (d+2) (.aH 245) [.ab 1] [] (bB hs) (.ab 3) (bB hs++[.list (hs.map br)]):=by
 have sl:=Dd (d:=d) (e:=.Slice none none none default) (st:=bB hs++[ae.frame [("self",.ab 1)]]) (k:=2) (xs:=hs.map br) (a:=.none) (b:=.none) (z:=.none) rfl rfl rfl rfl (λh=>by exact nS h) (by rw[aV];show _<=2^24;exact FH hl);have e:e7 (hs.map br) none none none=hs.map br:=by rw[Hf];simp only [eZ,i5,Option.elim,sQ,vY,B7]
 rw[e] at sl;have B:aI d (da Cn.scope 3 none) Cn.body (bB hs++[.frame [("self",.ab 1)]]) (.ret<|.ab 4) (bB hs++[.frame [("self",.ab 1)],.list<|hs.map br]):=by refine aW (sc:=[.val<|.ab 2,.aE (.ab 4)<|bB hs++[.frame [("self",.ab 1)],.list<|hs.map br]]) rfl ?_;exact am (λA own s x y q S ra rb=>sl A own s x y q S ra rb)<|am (HP) aX
 have c:=NR.fn.code (tab:=none) (ag:=bB hs++[ae.frame [("self",.ab 1)],.list<|hs.map br]) (hb _ 1) (by kernel_rfl) nofun (by rwa[dM]) (.inl rfl) (by show 3<=5;decide) (by show((bB hs++[ae.frame [("self",.ab 1)],.list<|hs.map br]).all λo=>o.lo 5)=true;simp only [bB,fM,xL,bU,cG,ae.lo,HJ (n:=5) hs];rfl) rfl;exact c.qr<|yk [0,1,2,4] (by decide) (cq rfl (cq rfl (cq (fz<|na _ _)<|cq (fz<|na _ _) iF))) rfl rfl
end
section
variable {d:Nat}
theorem aiT (hm:makesIn X.K 281=true)(hb:db Cs [.bt [],.bE 281 0] [.ab 1] [] [("self",.ab 1),("headers",.none)] [.bt [],.bE 281 0]):bM (d+3) (.aH 281) [] [] [] (.ab 1) (bB []):=by
 have c:=A8.fn.code (d:=d) (tab:=none) (ag:=[.bt [("_headers",.ab 3)],.bE 281 0,.frame [("headers",.ab 3),("self",.ab 1)],.list []]) hb (by kernel_rfl) nofun (by rw[dM];exact (by
  have F:∀{t i:aq} {b:List bl} {p:Pos},(∃q,i=.Name "headers" q)->dB d (da uk.scope 2 none) (.For t i b [] p) [.bt [("_headers",.ab 3)],.bE 281 0,.frame [("headers",.ab 3),("self",.ab 1)],.list []] .next [.bt [("_headers",.ab 3)],.bE 281 0,.frame [("headers",.ab 3),("self",.ab 1)],.list []]:=by intro t i b p ⟨q,h⟩;subst h;exact mq (rI 3 []) rfl (dk (sc:=[]) rfl aX) rfl (.nil rfl)
  apply aW (sc:=[.val<|.bool false,.cw,.val<|.ty "list",.val<|.bool false,.cw,.aE .none [.bt [("_headers",.ab 3)],.bE 281 0,.frame [("headers",.ab 3),("self",.ab 1)],.list []],.cw,.iX .next [.bt [("_headers",.ab 3)],.bE 281 0,.frame [("headers",.ab 3),("self",.ab 1)],.list []]]) rfl;refine am (by exact F ⟨_,rfl⟩)<|am ?_<|am (yq (r:=true) rfl)<|am (Wt rfl)<|am yn<|am (dQ _)<|am (yq (r:=true) rfl) aX;exact GZ (dd:=0) (es:=[]) A9 rfl rfl Oq.2 (by decide))) (.inr ⟨rfl,rfl⟩) (show 2<=4 by decide) rfl rfl
 exact(MS hm A8.find A8.ty c).qr<|yk [0,1,3] (by decide) rfl rfl rfl
end
section
variable {d:Nat}{c:aY}
noncomputable def fj (ns:List Str)(vars:List (Str×CV)):List (Str×CV):=ns.map (λn=>(n,.any))++vars.filter (λp=>!ns.contains p.1)
theorem aiY vars  x:∀ns,(fj ns vars).lookup x=some .any∨(fj ns vars).lookup x=vars.lookup x:=λns=>by
 have key:∀(Bb:List Str) r,((Bb.map λn=>(n,CV.any))++r).lookup x=some .any∨(x∉Bb∧((Bb.map λn=>(n,CV.any))++r).lookup x=r.lookup x):=λBb r=>by
  induction Bb with
  |nil=>exact .inr ⟨by simp,rfl⟩|cons n Bb ih=>
   by_cases h:x=n
   ·subst h;exact .inl (by simp [BZ])
   have hb:(x==n)=false:=by simpa using h
   rcases ih with e|⟨e1,e2⟩
   ·exact .inl (by simpa [BZ,hb] using e)
   exact .inr ⟨by simp [h,e1],by simpa [BZ,hb] using e2⟩
 rcases key ns (vars.filter<|λp=>!ns.contains p.1) with e|⟨e1,e2⟩
 ·exact .inl e
 refine .inr<|e2.trans ?_;clear key e2;induction vars with
 |nil=>rfl|cons p vars ih=>
  obtain⟨y,v⟩:=p;by_cases h:x=y
  ·subst h;rw[sR,if_pos<|by simpa using e1];simp [BZ]
  have hb:(x==y)=false:=by simpa using h
  rw[sR];split
  ·simpa [BZ,hb] using ih
  simpa [BZ,hb] using ih
section
variable {own:List ai}{s:az}{st ag:List ae}{i:Nat}{vars:List (Str×CV)}
theorem Sx.fj (S:Sx own st s)(hi:st[i]?=some (.frame vars)) ns:Sx own (st.set i (.frame (fj ns vars))) s:=by
 refine⟨S.bj,by rw[lY];exact S.len,S.kj,S.fresh,λj o a e1 e2=>?_,S.cU,S.bare,S.tk,S.ok⟩;by_cases ii:i=j
 ·subst ii;rw[vM (bV.mp hi).1] at e1;obtain rfl:=dE e1;obtain⟨m,e,q⟩:=S.iV i _ a hi e2;refine⟨m,e,λx=>?_⟩;rcases aiY vars x ns with h|h
  ·exact .inl h
  rw[h];exact q x
 rw[lZ ii] at e1;exact S.iV j o a e1 e2
theorem aI.fj (h:aI d c b st f ag) ns (hi:ag[i]?=some (.frame vars)):aI d c b st f (ag.set i (.frame (Internal.fj ns vars))):=λA own s env q S R=>
 bC (h A own s env q S R) (λfl s₁ ⟨aO,bK,bq,r⟩=>⟨aO,bK,bq.fj hi ns,r⟩) λu u x=>x
theorem dB.pre ns (hi:st[i]?=some (.frame vars))(h:dB d c b (st.set i (.frame (Internal.fj ns vars))) f ag):dB d c b st f ag:=λA own s env q S R=>h A own s env q (S.fj hi ns) R
end
section
variable {st:List ae}{k:Nat}{xs:List CV}
theorem XF {j:Nat}(hk:st[k]?=some (.list xs))(hj:st[j]?=some (.list ys))(bn:xs.length+ys.length<=2^20):bk d (.bi "list.extend") [.ab k,.ab j] [] st .none (st.set k (.list (xs++ys))):=uG λA own s y z q S ry rz=>by obtain⟨a,vs,n,rfl,ha,ho,hr,hl⟩:=S.kY hk ry;obtain⟨b,hb,rfl⟩:=rz;obtain⟨b',oX,ws,m,gO,fX⟩:=S.bD hj;rw[hb] at oX;obtain rfl:=dE oX;have hl:=aF.length hr;have nP:=aF.length fX;have Ow:cX=2^24:=rfl;refine vU PySem.F.slot_list_extend ⟨_,ho,rfl⟩ PySem.F.entry_list_extend (PySem.F.args_list_extend_2 _ _) (PySem.AutoSeq1.list_extend_list_list_0 a vs.toArray n b ws.toArray m (by rw[ig,ig,Builtin.List.listTooLong,<-hl,<-nP,Ow,bz,decide_eq_true_eq];lia) (ig▸hl▸Ow▸ah [_,_] (.le (.a .o .i) (.n<|2^20)<|.gl .o<|.n<|2^24) rfl bn)<|by rw[ig,ig,<-hl,<-nP,Ow];exact ah [_,_] (.le .o (.n<|2^20)<|.gl .o<|.a (.n<|2^24) .i) rfl bn) ⟨ho,gO,?_⟩;obtain⟨E,S'⟩:=S.AN (f:=λx=>x++ws.toArray) ha ho (λav h' ai0 g=>by rw[z3];exact aF.append ai0<|aF.aM g _ fX) hr;exact⟨own,E,S',rfl⟩
end
end
section
variable {d:Nat}
section
variable {prog:q9}{w:pM}{A:Around}{s:az}
end
section
variable {own:List ai}{s:az}{st:List ae}{fi:Nat}{vars:List (Str×CV)}{L D:ai}{h':bf}{m:Str->Option an}{ys:List CV}{out:List an}{n:Nat}
end
end
section
variable {d:Nat}
section
variable {own:List ai}{s aT:az}{st:List ae}{D:ai}{h':bf}{o':ae}{t:Tok}
end
section
variable {M:Model}{A:Around}{E:an->az->Prop}
end
section
variable {own:List ai}{s:az}{st:List ae}{A:Around}
end
end
section
variable {d:Nat}
def j2 (x:Int)(lo hi:Int)(m:Option Int):ae:=.frame (("key",.ab 1)::("hi",.int hi)::("lo",.int lo)::("x",.int x)::("a",.ab 0)::qB m)
noncomputable def qG (x:Int):List (Str×CV):=[("a",.ab 0),("x",.int x),("lo",.int 0),("hi",.none),("key",.ab 1)]
end
section
variable {d:Nat}
theorem DR {α:Type}{right:α->Bool}{xs:List α}:∀n lo hi,lo<=hi->hi<=xs.length->cM right xs n lo hi<=xs.length
 |0,lo,hi,h1,h2=>fC h1 h2|n+1,lo,hi,h1,h2=>by
  rw[rR];by_cases h:lo<hi
  ·rw[if_pos h];cases xs[(lo+hi)/2]? with
   |none=>exact fC h1 h2|some v=>
    show(if right v then _ else _)<=_;by_cases hr:right v=true
    ·rw[if_pos hr];exact DR n _ _ (Cf h) h2
    rw[if_neg hr];exact DR n _ _ (Ce h)<|acz h h2
  rw[if_neg h];exact fC h1 h2
def b16 (r:Bool):fe:=cond r Ac Ad
end
section
variable {d:Nat}
theorem HT {aU:List Nat}{st qm ag:List ae}(rL:qm.length=aU.length)(hl:ag.length=st.length)(hn:aU.Nodup) (h1:∀(j k:Nat),aU[j]?=some k->∃o o',qm[j]?=some o∧o.bI (jT aU st.length)=some o'∧ag[k]?=some o')(h2:∀k,k∉aU->ag[k]?=st[k]?):uE aU st qm=some ag:=by
 unfold uE;rw[rL,fk,aaL];refine wI (by simp [hl]) λi k o e1 e2=>?_;have hi:i<st.length:=by simpa using ((bV.mp e1).1)
 rw[iS hi] at e1;obtain rfl:=dE e1;rw[if_pos hi];by_cases h:i∈aU
 ·obtain⟨j,hj,e⟩:=pN.mp h;have ej:aU[j]?=some i:=by rw[bA hj,e]
  rw[gr aU j i hn ej];obtain⟨CX,arK,a1,a2,a3⟩:=h1 j i ej;rw[a3] at e2;obtain rfl:=dE e2;simp [a1];exact a2
 rw[NH _ _ h];rwa[h2 i h] at e2
theorem tM (h:CV.cV 0 xs=true):CV.gn f xs=some xs:=CV.FY (λk hk=>absurd hk<|zY k) h
theorem HX {x:CV}(h:x.lo 0=true):x.bI f=some x:=CV.kR (λk hk=>absurd hk<|zY k) x h
section
variable {st:List ae}{a:ai}{k:Nat}{v:CV}{rest xs ys:List CV}
theorem bM.ajr (h:bM d (.aH a) (.ab 0::rest) [] [.list xs] v [.list ys])(hk:st[k]?=some (.list xs))(hx:CV.cV 0 xs=true)(hy:CV.cV 0 ys=true)(hr:CV.cV 0 rest=true)(hv:v.lo 0=true):bM d (.aH a) (.ab k::rest) [] st v (st.set k (.list ys)):=by
 have aZ:=(bV.mp hk).1;refine h.at [k] (by simp) ?_ rfl ?_ rfl ?_ (HX hv)
 ·unfold g4;exact cq (gq hk<|fz<|tM hx) iF
 ·exact gC (ij<|by simp [eW])<|tM hr
 refine HT rfl (by simp) (by simp) (λj i e=>?_) λi hi=>(by rw[lZ<|λe=>hi<|by simp [e]]);obtain rfl:j=0:=by simpa using ((bV.mp e).1)
 obtain rfl:=dE e;exact⟨_,.list ys,rfl,fz<|tM hy,by rw[vM aZ]⟩
theorem bM.H0 (h:bM d (.aH a) (.ab 0::rest) [] [.list xs] v [.list xs])(hk:st[k]?=some (.list xs))(hx:CV.cV 0 xs=true)(hr:CV.cV 0 rest=true)(hv:v.lo 0=true):bM d (.aH a) (.ab k::rest) [] st v st:=by have:=h.ajr hk hx hx hr hv;rwa[Dt hk] at this
theorem bM.OH {hs iD:List (Str×Str)}{i0 i1 i2:Nat}(h:bM d (.aH a) (.ab 1::rest) [] (bB hs) v (bB iD))(h0:st[i0]?=some (.bt [("_headers",.ab i2)]))(h1:st[i1]?=some (.bE 281 i0))(h2:st[i2]?=some (.list (hs.map br)))(hr:CV.cV 0 rest=true)(hv:v.lo 0=true):bM d (.aH a) (.ab i1::rest) [] st v (st.set i2 (.list (iD.map br))):=by
 have DS:i0≠i1:=λe=>by rw[e,h1] at h0;cases h0
 have Bg:i0≠i2:=λe=>by rw[e,h2] at h0;cases h0
 have Bh:i1≠i2:=λe=>by rw[e,h2] at h1;cases h1
 have hn:[i0,i1,i2].Nodup:=by simp [DS,Bg,Bh]
 have p1:=gr _ 1 _ hn rfl;refine h.at [i0,i1,i2] hn ?_ rfl (gC (ij p1)<|tM hr) rfl ?_ (HX hv)
 ·unfold g4;exact cq (gq h0<|uv<|gr _ 2 _ hn rfl)<|cq (gq h1<|rE<|gr _ 0 _ hn rfl)<|cq (gq h2<|fz<|na _ _) iF
 refine HT rfl (by simp) hn (λj i e=>?_) λi hi=>(by rw[lZ<|λe=>hi<|by simp [e]])
 match j,e with
 |0,e=>obtain rfl:=dE e;exact⟨_,.bt [("_headers",.ab i2)],rfl,rfl,by rw[lZ<|rc Bg,h0]⟩|1,e=>obtain rfl:=dE e;exact⟨_,.bE 281 i0,rfl,rfl,by rw[lZ<|rc Bh,h1]⟩|2,e=>obtain rfl:=dE e;exact⟨_,.list<|iD.map br,rfl,fz<|na _ _,by rw[vM<|(bV.mp h2).1]⟩|j+3,e=>exact nS e
end
end
section
section
variable {α:Type}(lt eq:α->α->Bool)
end
noncomputable def dX (p n:Nat):List CV:=(aK n).map λi=>CV.ab (p+i)
noncomputable def ax (xs:List Str):ae:=.list (xs.map CV.str)
noncomputable def a0 (xs:List Nat):ae:=.list ((xs.map λm:Nat=>(m:Int)).map CV.int)
section
variable {hs aD:List (Str×Str)}{aj:List Str}{kc:Option CV}{more:List (Str×CV)}{ay:List Nat}{ao au:List (List Str)}{g:List ae}{nr:Nat}
theorem X2 {p i:Nat}(h:i<n):(dX p n)[i]?=some (.ab (p+i)):=by rw[dX,dN,iS h];rfl
end
end
section
variable {d:Nat}{gl:List (Str×CV)}{c:aY}
section
variable {st ag:List ae}{i:Nat}{vars:List (Str×CV)}
theorem mr.fj (h:mr d c es st b ag) ns (hi:ag[i]?=some (.frame vars)):mr d c es st b (ag.set i (.frame (Internal.fj ns vars))):=λA own s env q S R=>
 bC (h A own s env q S R) (λfl s₁ ⟨aO,bK,bq,r⟩=>⟨aO,bK,bq.fj hi ns,r⟩) λu u x=>x
theorem sZ.fj {e:aq}{k:Nat}(h:sZ d c e k st ag) ns (hi:ag[i]?=some (.frame vars)):sZ d c e k st (ag.set i (.frame (Internal.fj ns vars))):=λA own s env a q S R nQ=>
 bC (h A own s env a q S R nQ) (λfl s₁ ⟨aO,bK,bq⟩=>⟨aO,bK,bq.fj hi ns⟩) λu u x=>x
theorem dj.pre {t:aq} ns (hi:st[i]?=some (.frame vars))(h:dj d c t v (st.set i (.frame (Internal.fj ns vars))) ag):dj d c t v st ag:=λA own s env x q S R r=>h A own s env x q (S.fj hi ns) R r
end
theorem X3 {T:List ae}{x y:ae}(h:T.length=n):(T++[x,y]).set n z=T++[z,y]:=by subst h;rw[Fl _ _<|aG _,fk];rfl
theorem OK {T:List ae}{x y:ae}(h:T.length=n):(T++[x,y]).set (n+1) z=T++[x,z]:=by subst h;rw[Fl _ _<|ke _,Ks<|aG _,fk];rfl
theorem ajt {T:List ae}{x y:ae}(h:T.length=n):(T++[x,y])[n]?=some x:=by subst h;rw[dT<|aG _,fk];rfl
theorem H6 {T:List ae}{x y:ae}(h:T.length=n):(T++[x,y])[n+1]?=some y:=by subst h;rw[dT<|ke _,Ks<|aG _,fk];rfl
noncomputable def ex (step:Nat->CV->Option CV):Nat->List CV->List CV
 |u,[]=>[]|i,x::xs=>match step i x with
   |some y=>y::ex step (i+1) xs|none=>ex step (i+1) xs
theorem X4 {step:Nat->CV->Option CV}{i:Nat}:ex step i []=[]:=rfl
theorem y3 {step:Nat->CV->Option CV}{i:Nat}{x:CV}:ex step i (x::xs)=(match step i x with|some y=>y::ex step (i+1) xs|none=>ex step (i+1) xs):=rfl
section
variable {elt target iter:aq}{ifs:List aq}{as:Nat}{scope:d8}{pos:Pos}{T:Nat->List ae}{n m:Nat}{items:List CV}{P:List ae->Prop}{step:Nat->CV->Option CV}{ol:List (Str×CV)}{mC:CV->List (Str×CV)}{ns:List Str}{cl:List (Str×Nat)}
theorem OL {fJ} (he:kX (.ListComp elt [⟨target,iter,ifs,fJ⟩] scope pos)=true)(hT:∀i,(T i).length=n)(hw:∀v,Internal.fj ns (mC v)=ol)(hP:∀i acc,P (T i++[ae.list acc,ae.frame ol])) (Bk:∀i v acc,items[i]?=some v->dj d (cI c scope (n+1) cl) target v (T i++[ae.list acc,ae.frame ol]) (T i++[ae.list acc,ae.frame (mC v)])) (kD:∀i v acc,CV.cV m acc=true->items[i]?=some v->step i v=none->mr d (cI c scope (n+1) cl) ifs (T i++[ae.list acc,ae.frame (mC v)]) false (T (i+1)++[ae.list acc,ae.frame (mC v)])) (rN:∀i v acc y,CV.cV m acc=true->items[i]?=some v->step i v=some y->∃ag,mr d (cI c scope (n+1) cl) ifs (T i++[ae.list acc,ae.frame (mC v)]) true ag∧a8 d (cI c scope (n+1) cl) elt ag y (T (i+1)++[ae.list acc,ae.frame (mC v)])) (po:∀i v y,items[i]?=some v->step i v=some y->y.lo m=true)(bn:items.length<=2^20):∀xs i acc,items.drop i=xs->acc.length<=i->CV.cV m acc=true->jS d (cI c scope (n+1) cl) (.ListComp elt [⟨target,iter,ifs,fJ⟩] scope pos) n 0 P xs (T i++[ae.list acc,ae.frame ol]) (T (i+xs.length)++[ae.list (acc++ex step i xs),ae.frame ol])
 |[],i,acc,t,a,b=>by rw[X4,dM];exact .nil (hP i acc)|x::xs,i,acc,hd,hl,ha=>by
  have hx:items[i]?=some x:=by have:=sL (xs:=items) (i:=i) (j:=0);rw[hd] at this;simpa using this.symm
  have aZ:=(bV.mp hx).1;have lC:items.drop (i+1)=xs:=by rw[<-Ki,hd];rfl
  have e:i+(x::xs).length=(i+1)+xs.length:=by rw[dO];exact z9
  rw[y3,e];cases h:step i x with
  |none=>have I:=(kD i x acc ha hx h).fj ns<|H6<|hT _;rw[OK<|hT _,hw] at I;exact .skip (hP i acc) rfl (Bk i x acc hx) I (OL he hT hw hP Bk kD rN po bn xs (i+1) acc lC (uh hl) ha)|some y=>
   obtain⟨ag,h1,h2⟩:=rN i x acc y ha hx h;have M:=(GO (gens:=[⟨target,iter,ifs,fJ⟩]) (sc:=scope) (pos:=pos) h2 (ajt<|hT _)<|ah [_,_,_,_] (.lt .o .i<|.le .i (.n<|2^20)<|.c (-1) 0 (.eq .u<|.n<|2^24)<|.le .w .o<|.gt .w .u) rfl aZ bn rfl hl).fj ns<|X3 (hT _)▸H6 (hT _);rw[X3<|hT _,OK<|hT _,hw] at M;have r:=OL he hT hw hP Bk kD rN po bn xs (i+1) (acc++[y]) lC (by rw[dJ,Kt];exact Sm hl) (An.mpr λz hz=>by
    rcases f7.mp hz with q|q
    ·exact An.mp ha z q
    rw[gV.mp q];exact po i x y hx h)
   rw[eJ] at r;exact .wk (hP i acc) rfl rfl (Bk i x acc hx) h1 M r
theorem X5 {m k:Nat}{o:ae}(hm:s₁.length=m)(hk:k<=m)(b9:(s₁.all λo=>o.lo m)=true)(hv:v.lo m=true):Mk k m (s₁++[o]) v s₁ v:=by subst hm;refine Ml (aK s₁.length) xF (NI b9) (CV.kR (λk hk=>uR hk) v hv) ?_ (by simp);rw[aaz,zH hk]
theorem jS.pre {e:aq}{k i:Nat}{x:CV}{xs:List CV}{st ag:List ae}{vars:List (Str×CV)}{m:Nat} ns (hi:st[i]?=some (.frame vars))(hp:P st)(h:jS d c e k m P (x::xs) (st.set i (.frame (Internal.fj ns vars))) ag):jS d c e k m P (x::xs) st ag:=by cases h with|skip p h1 h2 h3 h4=>exact .skip hp h1 (h2.pre ns hi) h3 h4|wk p h1 h2 h3 h4 h5 h6=>exact .wk hp h1 h2 (h3.pre ns hi) h4 h5 h6|LY p h1 h2 h3 h4 h5 h6 h7 h8 h9=>exact .LY hp h1 h2 (h3.pre ns hi) h4 h5 h6 h7 h8 h9
abbrev b41 (d:Nat)(c:aY)(e:aq)(st:List ae)(v:CV)(ag:List ae):Prop:=a8 d c e st v ag∧lx d c e st v ag
abbrev b40 (c:aY)(e:aq)(scope:d8)(cl:List (Str×Nat)):Prop:=kX e=true∧scope.kind=.function∧(scope.names.all λx=>x.2 != .local||scope.names.lookup x.1==some .local)=true∧mW c.cells scope.names []=some cl∧dU scope []=[.frame []]
abbrev b32 (d:Nat)(c:aY)(elt iter:aq)(ifs:List aq)(fJ:Int)(scope:d8)(pos px:Pos)(x:Str)(T st:List ae)(n:Nat)(P:List ae->Prop)(a:CV)(cl:List (Str×Nat))(items:List CV):Prop:=b40 c (.ListComp elt [⟨.Name x px,iter,ifs,fJ⟩] scope pos) scope cl∧(nU scope c.scope).names.lookup x=some .local∧a8 d c iter st a T∧Nonempty (iY a items P)∧(∀g,P (T++g))∧T.length=n∧st.length<=n∧(T.all λo=>o.lo n)=true∧items.length<=2^20
theorem H7 {fJ} {st:List ae}{a:CV}(J:b40 c (.ListComp elt [⟨target,iter,ifs,fJ⟩] scope pos) scope cl) (hi:a8 d c iter st a (T 0))(hs:Nonempty (iY a items P))(hP0:P (T 0))(X6:P (T 0++[ae.list [],ae.frame []]))(hT:∀i,(T i).length=n)(hw0:Internal.fj ns []=ol)(hw:∀v,Internal.fj ns (mC v)=ol)(hP:∀i acc,P (T i++[ae.list acc,ae.frame ol])) (Bk:∀i v acc,items[i]?=some v->dj d (cI c scope (n+1) cl) target v (T i++[ae.list acc,ae.frame ol]) (T i++[ae.list acc,ae.frame (mC v)])) (kD:∀i v acc,CV.cV m acc=true->items[i]?=some v->step i v=none->mr d (cI c scope (n+1) cl) ifs (T i++[ae.list acc,ae.frame (mC v)]) false (T (i+1)++[ae.list acc,ae.frame (mC v)])) (rN:∀i v acc y,CV.cV m acc=true->items[i]?=some v->step i v=some y->∃ag,mr d (cI c scope (n+1) cl) ifs (T i++[ae.list acc,ae.frame (mC v)]) true ag∧a8 d (cI c scope (n+1) cl) elt ag y (T (i+1)++[ae.list acc,ae.frame (mC v)])) (po:∀i v y,items[i]?=some v->step i v=some y->y.lo m=true)(bn:items.length<=2^20)(d6:st.length<=n)(b9:((T items.length++[ae.list (ex step 0 items)]).all λo=>o.lo (n+1))=true):b41 d c (.ListComp elt [⟨target,iter,ifs,fJ⟩] scope pos) st (.ab n) (T items.length++[ae.list (ex step 0 items)]):=by
 have hn:=hT 0;obtain⟨w,run⟩:∃w,jS d (cI c scope (n+1) cl) (.ListComp elt [⟨target,iter,ifs,fJ⟩] scope pos) n 0 P items (T 0++[.list [],.frame []]) (T items.length++[.list<|ex step 0 items,.frame w]):=by cases i3:items with|nil=>exact⟨[],.nil X6⟩|cons x xs=>have r:=OL J.1 hT hw hP Bk kD rN po bn items 0 [] rfl (aG _) rfl;rw[i3] at r;refine⟨ol,jS.pre ns (H6 hn) X6 ?_⟩;rw[OK hn,hw0];simpa using r
 subst hn;suffices J:uF d c (.ListComp elt [⟨target,iter,ifs,fJ⟩] scope pos) st (.ab (T 0).length) (T items.length++[.list<|ex step 0 items]) scope pos ⟨target,iter,ifs,fJ⟩ [] cl a (T 0) (T items.length++[.list<|ex step 0 items,.frame w]) items P from⟨GN J,VR J⟩;refine{sc:=rfl,cls:=rfl,qp:=J.1,kind:=J.2.1,names:=J.2.2.1,d3:=J.2.2.2.1,iter:=hi,src:=hs,GK:=hP0,run:=?_,fr:=⟨w,H6<|hT _⟩,qr:=?_}
 ·rwa[J.2.2.2.2,eJ]
 have hm:(T items.length++[ae.list<|ex step 0 items]).length=(T 0).length+1:=by rw[dJ,hT];rfl
 have:=X5 (o:=.frame w) (v:=.ab (T 0).length) hm (k:=st.length) (uh d6) b9 (by exact decide_eq_true<|rg _);rwa[eJ] at this
end
end
section
variable {d:Nat}{gl:List (Str×CV)}{c:aY}
mutual
theorem CV.mD {m n:Nat}(h:m<=n):∀(c:CV),c.lo m=true->c.lo n=true
 | .ab k,e=>decide_eq_true (sF (of_decide_eq_true e) h)
 | .cB xs,e=>CV.vh h xs e
 | .sl xs,e=>CV.vh h xs e
 | .none,u=>rfl
 | .bool u,o=>rfl
 | .int u,o=>rfl
 | .str u,o=>rfl
 | .fW u o z,w=>rfl
 | .aH u,o=>rfl
 | .bi u,o=>rfl
 | .ty u,o=>rfl
 | .any,u=>rfl
theorem CV.vh {m n:Nat}(h:m<=n):∀(xs:List CV),CV.cV m xs=true->CV.cV n xs=true
 | [],u=>rfl
 | x::xs,e=>by
   rw[CV.uu,bz] at e ⊢
   exact⟨CV.mD h x e.1,CV.vh h xs e.2⟩
end
theorem ae.mD {m:Nat}(h:m<=n):∀(o:ae),o.lo m=true->o.lo n=true:=by
 have hl:∀(es:List (Str×CV)),(es.all λp=>p.2.lo m)=true->(es.all λp=>p.2.lo n)=true:=λes e=>dI.mpr λp hp=>CV.mD h _<|dI.mp e p hp;have hd:∀k:Nat,decide (k<m)=true->decide (k<n)=true:=λk e=>decide_eq_true<|sF (of_decide_eq_true e) h;intro o e;cases o with
 |list xs=>exact CV.vh h xs e|frame vars=>exact hl vars e|cell v=>
  cases v with
  |none=>rfl|some v=>exact CV.mD h v e
 |bE C k=>exact hd k e|bt es=>exact hl es e|map es=>exact hl es e|d3 p b s cells dd=>
  have e:(cells.all (λp=>decide (p.2<m))&&Lj m dd)=true:=e;show(cells.all (λp=>decide (p.2<n))&&Lj n dd)=true;rw[bz] at e ⊢;refine⟨dI.mpr λp hp=>hd _<|dI.mp e.1 p hp,?_⟩;cases dd with
  |none=>rfl|some k=>exact hd k e.2
 |bg a k=>exact hd k e|jf k x=>exact hd k e|mR=>rfl|ki x i=>rfl|gc k i=>exact hd k e|iz=>rfl|qg=>rfl
theorem Bl {m n:Nat}(h:m<=n){st:List ae}(e:(st.all λo=>o.lo m)=true):(st.all λo=>o.lo n)=true:=dI.mpr λo ho=>ae.mD h o<|dI.mp e o ho
theorem cC {n:Nat}{a b:List ae}(h1:(a.all λo=>o.lo n)=true)(h2:(b.all λo=>o.lo n)=true):((a++b).all λo=>o.lo n)=true:=by rw[RO,h1,h2];rfl
theorem fx.drop {e:aq}{st ag g:List ae}{v:Bool}(h:fx d c e st v (ag++g))(bJ:st.length<=ag.length)(b9:(ag.all λo=>o.lo ag.length)=true):fx d c e st v ag:=λA own s env q S R=>
 bC (h A own s env q S R) (λx s' ⟨aS,E,bw,r⟩=>by obtain⟨dt,ya,e1,e2,dC,cF⟩:=Gy S E bw bJ b9;exact⟨dt,dC,cF,r⟩) λu u x=>x
theorem X7 {p k:Nat}(h:p+k<=n):CV.cV n (dX p k)=true:=by rw[An];intro x hx;obtain⟨i,hi,rfl⟩:=cu.mp hx;have:=gz.mp hi;exact decide_eq_true<|ah [_,_,_,_] (.le (.a .o .i) .u<|.lt .w .i<|.gt (.a .o .w) .u) rfl h this
end
section
variable {d:Nat}{gl:List (Str×CV)}{c:aY}
noncomputable def af (k:Nat):CV:=.int (k:Int)
theorem OM (a n:Nat)(h:a+n<=2^20):Nonempty (iY (.fW a ((a+n:Nat):Int) 1) ((fc a n).map af) (λx=>True)):=by
 have e:(fc a n).map af=sY a n 1:=by rw[sY,List.range'_eq_map_range,fV];refine vZ λi x=>?_;show CV.int _=CV.int _;simp
 rw[e];have hz:Kg a ((a+n:Nat):Int) 1=n:=by unfold Kg;rw[if_pos<|by decide];cases n with|zero=>exact if_neg (Int.lt_irrefl _)|succ n=>rw[if_pos<|xt.mpr<|aqA<|vI n,Int.ediv_one,QW,Rr a,aby];exact Int.sub_add_cancel _ _
 exact⟨Vl a ((a+n:Nat):Int) 1 n (by unfold abo;rw[hz];simp [aqB];lia) hz⟩
theorem mE (n:Nat)(h:n<=2^20):Nonempty (iY (.fW 0 (n:Int) 1) ((aK n).map af) (λx=>True)):=by have:=OM 0 n (by exact ah [_] (.le .o (.n<|2^20)<|.gl (.a .k .o)<|.n<|2^20) rfl h);rw[<-pW] at this;simpa using this
end
section
variable {d:Nat}
section
variable {f g:Nat->Option Nat}(lI:∀k j,f k=some j->g j=some k)
include lI
theorem CV.DT (c:CV):∀{c'},c.bI f=some c'->c'.bI g=some c:=
 have L:∀{c c':CV},c.bI f=some c->c.bI g=some c->c.bI f=some c'->c'.bI g=some c:=λh1 h2 h=>sI (P:=λc'=>CV.bI g c'=some _) (h1.symm.trans h) h2
 CV.rec (motive_1:=λc=>∀{c'},c.bI f=some c'->c'.bI g=some c) (motive_2:=λxs=>∀{ys},CV.gn f xs=some ys->CV.gn g ys=some xs) (L rfl rfl) (λu=>L rfl rfl) (λu=>L rfl rfl) (λu=>L rfl rfl)
  (λk u h=>eE (P:=λc'=>CV.bI g c'=some (.ab k)) h λj hj=>ij<|lI k j hj) (λxs ih u h=>eE (P:=λc'=>CV.bI g c'=some (.cB xs)) h λys hy=>congrArg (dg CV.cB)<|ih hy) (λxs ih u h=>eE (P:=λc'=>CV.bI g c'=some (.sl xs)) h λys hy=>congrArg (dg CV.sl)<|ih hy)
  (λu u u=>L rfl rfl) (λu=>L rfl rfl) (λu=>L rfl rfl) (λu=>L rfl rfl) (L rfl rfl) (λh=>sI (P:=λys=>CV.gn g ys=some []) h rfl)
  (λx xs i1 i2 u h=>kl h λy hy h=>eE (P:=λys=>CV.gn g ys=some (x::xs)) h λys km=>gC (i1 hy)<|i2 km) c
theorem CV.ajx:∀{ys},CV.gn f xs=some ys->CV.gn g ys=some xs:=by induction xs with|nil=>exact λh=>sI (P:=λys=>CV.gn g ys=some []) h rfl|cons x xs ih=>exact λh=>kl h λy hy h=>eE (P:=λys=>CV.gn g ys=some (x::xs)) h λys km=>gC (CV.DT lI x hy)<|ih km
theorem ON:∀{ys},jh f xs=some ys->jh g ys=some xs:=by induction xs with|nil=>exact λh=>sI (P:=λys=>jh g ys=some []) h rfl|cons x xs ih=>exact λh=>kl h λy hy h=>eE (P:=λys=>jh g ys=some (x::xs)) h λys km=>gC (g:=λy=>(x.1,y)) (CV.DT lI x.2 hy)<|ih km
theorem ajy:∀{ys},qi f xs=some ys->qi g ys=some xs:=by induction xs with|nil=>exact λh=>sI (P:=λys=>qi g ys=some []) h rfl|cons x xs ih=>exact λh=>kl h λy hy h=>eE (P:=λys=>qi g ys=some (x::xs)) h λys km=>gC (g:=λy=>(x.1,y)) (lI _ _ hy)<|ih km
theorem ajz {d d':Option Nat}(h:ur f d=some d'):ur g d'=some d:=by cases d with|none=>exact sI (P:=λd'=>ur g d'=some none) h rfl|some k=>exact eE (P:=λd'=>ur g d'=some (some k)) h λj hj=>congrArg (dg some)<|lI k j hj
theorem ae.DT o {o':ae}(h:o.bI f=some o'):o'.bI g=some o:=by
 cases o with
 |list xs=>exact eE (P:=λo=>ae.bI g o=some (.list xs)) h λys hy=>congrArg (dg ae.list) (CV.ajx lI hy)|frame xs=>exact eE (P:=λo=>ae.bI g o=some (.frame xs)) h λys hy=>congrArg (dg ae.frame) (ON lI hy)|cell v=>
  cases v with
  |none=>exact sI (P:=λo=>ae.bI g o=some (.cell none)) h rfl|some v=>exact eE (P:=λo=>ae.bI g o=some (.cell<|some v)) h λys hy=>congrArg (dg λy=>ae.cell<|some y)<|CV.DT lI v hy
 |bE C k=>exact eE (P:=λo=>ae.bI g o=some (.bE C k)) h λj hj=>rE (lI k j hj)|bt xs=>exact eE (P:=λo=>ae.bI g o=some (.bt xs)) h λys hy=>congrArg (dg ae.bt) (ON lI hy)|map xs=>exact eE (P:=λo=>ae.bI g o=some (.map xs)) h λys hy=>congrArg (dg ae.map) (ON lI hy)|d3 p b s cells dd=>exact kl h λcs hc h=>eE (P:=λo=>ae.bI g o=some (.d3 p b s cells dd)) h λds hd=>FZ (ajy lI hc) (ajz lI hd)|bg F k=>exact eE (P:=λo=>ae.bI g o=some (.bg F k)) h λj hj=>congrArg (dg<|ae.bg F) (lI k j hj)|jf k s=>exact eE (P:=λo=>ae.bI g o=some (.jf k s)) h λj hj=>congrArg (dg λj=>ae.jf j s) (lI k j hj)|gc k i=>exact eE (P:=λo=>ae.bI g o=some (.gc k i)) h λj hj=>congrArg (dg λj=>ae.gc j i) (lI k j hj)|mR|ki|iz|qg=>exact sI (P:=λo=>ae.bI g o=some _) h rfl
end
theorem bM.wR {f wt:CV}{args wu:List CV}{kw ww:List (Str×CV)}{st iE ext ext':List ae}{v s6:CV} aU (h:bM d wt wu ww iE s6 (iE++ext))(hn:aU.Nodup)(hs:g4 aU st=some iE)(hf:f.bI (eW aU)=some wt)(ha:CV.gn (eW aU) args=some wu)(hk:jh (eW aU) kw=some ww) (he:lA (ae.bI (jT aU st.length)) ext=some ext')(hv:s6.bI (jT aU st.length)=some v):bM d f args kw st v (st++ext'):=
 h.at aU hn hs hf ha hk ((by
  have rL:=AI hs;have aZ:=yj hs;unfold uE;rw[dJ,rL,sG];refine wI (by simp [AI he]) λi k o e1 e2=>?_;have hi:i<st.length+ext.length:=by simpa using ((bV.mp e1).1)
  rw[iS hi] at e1;obtain rfl:=dE e1;by_cases h:i<st.length
  ·rw[if_pos h];rw[d2 h] at e2;cases hp:eW aU i with
   |none=>exact e2|some j=>
    have hj:=GH hp;have pj:j<iE.length:=by rw[rL];exact(bV.mp hj).1
    dsimp only;rw[d2 pj];obtain⟨y,h1,h2⟩:=Mg hs hj;rw[h1];rw[e2] at h2;refine ae.DT (λk j e=>?_) o h2;unfold jT;rw[GH e]
  rw[if_neg h];have h1:(iE++ext)[aU.length+(i-st.length)]?=ext[i-st.length]?:=by rw[dT (by exact ah [_,_,_] (.eq .o .i<|.gl .o<|.a .i .u) rfl rL),rL,sG]
  rw[h1];rw[dT<|by exact o8 h] at e2;have X9:i-st.length<ext.length:=by exact ah [_,_,_,_] (.eq (.a .w .i) .o<|.lt .o (.a .i .u)<|.c 0 0 (.no<|.lt .o .i)<|.g 1 0<|.lt .w .u) rfl (Nat.sub_add_cancel<|Nat.le_of_not_lt h) hi h
  obtain⟨y,h3,h4⟩:=Mg he<|bA X9;rw[bA X9];rw[e2] at h3;obtain rfl:=dE h3;exact h4)) hv
theorem nf {aU:List Nat}{i j:Nat}(h:j=aU.length+i):jT aU n j=some (n+i):=by subst h;unfold jT;rw[Rl.mpr<|vH _ _,sG]
end
section
theorem OO {d:Nat}{f:CV}{args:List CV}{st:List ae}{v:CV}(h:bM d f args [] [] v [])(h3:f.lo 0=true)(h4:CV.cV 0 args=true)(h6:v.lo 0=true):bk d f args [] st v st:=by exact h.call.wide (g:=st) rfl rfl rfl h3 h4 rfl h6
structure om (st:List ae)(i0 i1 i2:Nat)(hs:List (Str×Str)):Prop where
 h0:st[i0]?=some (.bt [("_headers",.ab i2)])
 h1:st[i1]?=some (.bE 281 i0)
 h2:st[i2]?=some (.list (hs.map br))
noncomputable def H9 (n:Nat):List ae:=[.bt [("_headers",.ab (n+2))],.bE 281 n,.list []]
section
variable {d:Nat}{st:List ae}{a:ai}{rest:List CV}{hs iD:List (Str×Str)}{i0 i1 i2:Nat}{v:CV}
end
theorem Yc:jz X.K (.ref 281)=true:=iG (by kernel_rfl)
theorem Yd:jz X.K (.ref 278)=true:=iG (by kernel_rfl)
theorem Ib:jz X.K (.ref 245)=true:=iG (by kernel_rfl)
theorem ajE:∀{d} {st},bk (d+5) (.aH 281) [] [] st (.ab (st.length+1)) (st++H9 st.length):=λ{d st}=>by refine(bM.wR [] (aiT (d:=d+2) (by kernel_rfl)<|pe (rest:=[("headers",.none)]) (i6:=[("headers",.none)]) (λv1 S=>by kernel_rfl)<|tz gF) (by simp) rfl rfl rfl rfl ?_ (ij<|nf (j:=1) (i:=1) rfl)).call;exact cq (uv<|nf (j:=2) (i:=2) rfl)<|cq (rE<|nf (j:=0) (i:=0) rfl)<|cq rfl iF
theorem Yf:∀{d} {st} {i0 i1 i2} {hs},om st i0 i1 i2 hs->gM d "add_header" (.ab i1) st (.aH 278) [.ab i1]:=λhA=>ta (Dv) hA.h1 hA.h0 rfl (NS).find (NS).ty
theorem Ie:∀{d} {st} {i0 i1 i2} {hs},om st i0 i1 i2 hs->gM d "items" (.ab i1) st (.aH 245) [.ab i1]:=λhA=>ta (Dv) hA.h1 hA.h0 rfl (NR).find (NR).ty
theorem Yh:∀{d} {st} {i0 i1 i2} {hs} {x v},om st i0 i1 i2 hs->bY x->dH v->hs.length<=1000000->bk (d+4) (.aH 278) [.ab i1,.str x,.str v] [] st .none (st.set i2 (.list ((hs++[(x,v)]).map br))):=λ{d st i0 i1 i2 hs x v} hA hx hv hl=>by
 have hb:db Cv (bB hs) [CV.ab 1,.str x,.str v] [] (([("self",CV.ab 1),("_name",.str x),("_value",.str v)]:List (Str×CV))++([("_params",CV.ab (bB hs).length)]:List (Str×CV))) (bB hs++[.iz]):=
  ahd (kE λv1=>kE λv2=>kE λv3=>yN ⟨[("self",v1),("_name",v2),("_value",v3)],λown h r=>NK (k:=[]) rfl ["self","_name","_value"] _ _ r,by kernel_rfl⟩)
 exact((aiO hx hv hl (aiB hv) hb).OH hA.h0 hA.h1 hA.h2 rfl rfl).call
theorem Ig:∀{d} {st} {i0 i1 i2} {hs},om st i0 i1 i2 hs->hs.length<=1000000->bk (d+2) (.aH 245) [.ab i1] [] st (.ab st.length) (st++[.list (hs.map br)]):=λ{d st i0 i1 i2 hs} hA hl=>by
 have h:=aiP (d:=d) (λst k=>pe (λv1 S=>by kernel_rfl) gF) hl;have DS:i0≠i1:=λe=>by have:=hA.h1;rw[<-e,hA.h0] at this;cases this
 have Bg:i0≠i2:=λe=>by have:=hA.h2;rw[<-e,hA.h0] at this;cases this
 have Bh:i1≠i2:=λe=>by have:=hA.h2;rw[<-e,hA.h1] at this;cases this
 have hn:[i0,i1,i2].Nodup:=by simp [DS,Bg,Bh]
 refine(h.wR [i0,i1,i2] hn ?_ rfl ?_ rfl (cq (fz<|na _ _) iF) (ij<|nf (j:=3) (i:=0) rfl)).call
 ·unfold g4;exact cq (gq hA.h0<|uv<|gr _ 2 _ hn rfl)<|cq (gq hA.h1<|rE<|gr _ 0 _ hn rfl)<|cq (gq hA.h2<|fz<|na _ _) iF
 exact gC (ij<|gr _ 1 _ hn rfl) rfl
variable {d:Nat}{c:aY}
theorem Yj {T:List ae}{x y:ae}(h:T.length=n):(T++x::y::g)[n+1]?=some y:=by subst h;rw[dT<|ke _,Ks<|aG _,fk];rfl
theorem ajH {T:List ae}{x y:ae}(h:T.length=n):(T++x::y::g).set (n+1) z=T++x::z::g:=by subst h;rw[Fl _ _<|ke _,Ks<|aG _,fk];rfl
theorem y4 {x:Str}{pos:Pos}{T:List ae}{o:ae}(hT:T.length=n)(hl:c.locals=n+1)(h1:c.scope.names.lookup x=some .local):dj d c (.Name x pos) v (T++o::.frame fv::g) (T++o::.frame (mj fv x v)::g):=by apply wg;rw[ada h1 (by rw[hl];exact Yj hT),hl,ajH hT]
theorem nh {x:Str}{pos:Pos}{T:List ae}{o:ae}(hd:(x==("__debug__":Str))=false)(hc:(x==("__classdict__":Str))=false)(hT:T.length=n)(hl:c.locals=n+1)(h1:c.scope.names.lookup x=some .local)(h3:fv.lookup x=some v)(h4:v.uw=false):a8 d c (.Name x pos) (T++o::.frame fv::g) v (T++o::.frame fv::g):=
 eu hd hc (CG h1 (hl▸Yj hT) h3 h4)
theorem Yk {items:List CV}{step:Nat->CV->Option CV}(po:∀i v y,items[i]?=some v->step i v=some y->y.lo n=true) xs:∀i,items.drop i=xs->CV.cV n (ex step i xs)=true:=by
 induction xs with
 |nil=>intro i _;rfl|cons y ys ih=>
  intro i hd;have hy:items[i]?=some y:=by have:=sL (xs:=items) (i:=i) (j:=0);rw[hd] at this;exact this.symm
  have lC:items.drop (i+1)=ys:=by rw[<-Ki,hd];rfl
  rw[y3];cases hs:step i y with|none=>exact ih (i+1) lC|some z=>show(z.lo n&&_)=true;rw[po i y z hy hs,ih (i+1) lC];rfl
theorem OT {x:Str}{w:CV}:mj ((x,w)::r) x v=(x,v)::r:=by show(if x==x then(x,v)::r else(x,w)::mj r x v)=_;rw[beq_self_eq_true];rfl
theorem oo {elt iter:aq}{ifs:List aq}{scope:d8}{pos px:Pos}{x:Str}{T st:List ae}{n:Nat}{items:List CV}{P:List ae->Prop}{step:Nat->CV->Option CV}{a:CV}{cl:List (Str×Nat)}(J:b32 d c elt iter ifs fJ scope pos px x T st n P a cl items) (kD:∀i v acc,CV.cV n acc=true->items[i]?=some v->step i v=none->mr d (cI c scope (n+1) cl) ifs (T++[ae.list acc,ae.frame [(x,v)]]) false (T++[ae.list acc,ae.frame [(x,v)]])) (rN:∀i v acc y,CV.cV n acc=true->items[i]?=some v->step i v=some y->∃ag,mr d (cI c scope (n+1) cl) ifs (T++[ae.list acc,ae.frame [(x,v)]]) true ag∧a8 d (cI c scope (n+1) cl) elt ag y (T++[ae.list acc,ae.frame [(x,v)]])) (po:∀i v y,items[i]?=some v->step i v=some y->y.lo n=true):b41 d c (.ListComp elt [⟨.Name x px,iter,ifs,fJ⟩] scope pos) st (.ab n) (T++[ae.list (ex step 0 items)]):=by
 obtain⟨J,hx,hi,hs,hP,hT,d6,OU,bn⟩:=J;refine H7 (ol:=[(x,.any)]) (ns:=[x]) J hi hs (dM T▸hP []) (hP _) (λu=>hT) rfl (λu=>(by simp [Internal.fj])) (λi acc=>hP _) ?_ kD rN po bn d6 ?_
 ·intro i v acc _;have:=y4 (d:=d) (c:=cI c scope (n+1) cl) (pos:=px) (g:=[]) (o:=.list acc) (fv:=[(x,.any)]) (v:=v) hT rfl hx;rwa[OT] at this
 apply cC<|Bl (ke _) OU;rw[bU,cG,cP];exact CV.vh (ke _) _<|Yk po items 0 rfl
theorem b29 {α:Type}{f:α->Bool}{ψ φ:α->CV}{ys:List α}:∀{xs:List α} {i},(∀j,ys[i+j]?=xs[j]?)->ex (λi u=>(ys[i]?).bind λa=>if f a=true then some (ψ a) else none) i (xs.map φ)=(xs.filter f).map ψ
 |[],i,h=>rfl|x::xs,i,h=>by
  have r:=b29 (f:=f) (ψ:=ψ) (φ:=φ) (i:=i+1) λj=>by rw[RR,zR 1];exact h<|j+1
  have h:ys[i]?=some x:=h 0;rw[eC,y3,h,sR,r];show(match(if f x=true then some (ψ x) else none) with|some y=>_|none=>_)=_;cases f x<;>rfl
theorem b30 {α:Type}{elt iter:aq}{ifs:List aq}{scope:d8}{pos px:Pos}{x:Str}{T st:List ae}{n:Nat}{P:List ae->Prop}{a:CV}{cl:List (Str×Nat)}{xs:List α}(f:α->Bool)(ψ φ:α->CV)(J:b32 d c elt iter ifs fJ scope pos px x T st n P a cl (xs.map φ)) (h:∀v∈xs,∀acc,CV.cV n acc=true->mr d (cI c scope (n+1) cl) ifs (T++[ae.list acc,ae.frame [(x,φ v)]]) (f v) (T++[ae.list acc,ae.frame [(x,φ v)]])∧(f v=true->a8 d (cI c scope (n+1) cl) elt (T++[ae.list acc,ae.frame [(x,φ v)]]) (ψ v) (T++[ae.list acc,ae.frame [(x,φ v)]]))∧(ψ v).lo n=true):b41 d c (.ListComp elt [⟨.Name x px,iter,ifs,fJ⟩] scope pos) st (.ab n) (T++[ae.list ((xs.filter f).map ψ)]):=by
 rw[<-b29 λj=>by rw[lq]];have g:∀{i v},(xs.map φ)[i]?=some v->∃b∈xs,xs[i]?=some b∧v=φ b:=λ{i v} e=>by rw[dN] at e;cases h:xs[i]? with|none=>rw[h] at e;exact nS e|some b=>rw[h] at e;obtain rfl:=dE e;exact⟨b,c8 h,h,rfl⟩
 refine oo J (λi v acc du hv e=>?_) (λi v acc y du hv e=>?_)<|λi v y hv e=>?_;all_goals
  obtain⟨b,hb,hi,rfl⟩:=g hv;rw[hi] at e;change(if f b=true then some (ψ b) else none)=_ at e;have h:=h b hb;cases hf:f b<;>rw[hf] at e h<;>cases e
 exact(h acc du).1;exact⟨_,(h acc du).1,(h acc du).2.1 rfl⟩;exact(h [] rfl).2.2
theorem b31 {α:Type}{elt iter:aq}{scope:d8}{pos px:Pos}{x:Str}{T st:List ae}{n:Nat}{P:List ae->Prop}{a:CV}{cl:List (Str×Nat)}{xs:List α}(ψ φ:α->CV)(J:b32 d c elt iter [] fJ scope pos px x T st n P a cl (xs.map φ)) (h:∀v∈xs,∀acc,CV.cV n acc=true->a8 d (cI c scope (n+1) cl) elt (T++[ae.list acc,ae.frame [(x,φ v)]]) (ψ v) (T++[ae.list acc,ae.frame [(x,φ v)]])∧(ψ v).lo n=true):b41 d c (.ListComp elt [⟨.Name x px,iter,[],fJ⟩] scope pos) st (.ab n) (T++[ae.list (xs.map ψ)]):=by have:=b30 (λx=>true) ψ φ J λv hv acc du=>⟨oT,λx=>(h v hv acc du).1,(h v hv acc du).2⟩;rwa[aaj.2 λx y=>rfl] at this
end
set_option hygiene false in
local macro_rules | `(tactic| walk_at "oa") => `(tactic| first | exact trivial | exact gP | exact yn | exact afo | exact afp | exact wM | (show (_ : Nat) ≤ cX; decide))
set_option hygiene false in
local macro_rules | `(tactic| walk_at "ob1") => `(tactic| walk_at "oa")
set_option hygiene false in
local macro_rules | `(tactic| walk_at "obs") => `(tactic| ((repeat' (first | exact aX | refine am ?_ ?_)) <;> try walk_at "ob1"))
section
variable {d:Nat}
section
variable {hs aD:List (Str×Str)}{aj:List Str}{kc:Option CV}{more:List (Str×CV)}{ay:List Nat}{ao au:List (List Str)}
theorem OX {α:Type}{xs:List α}{lo hi st:Option Int}{p:α->Prop}(h:∀y∈xs,p y):∀y∈e7 xs lo hi st,p y:=λy hy=>by obtain⟨i,_,e⟩:=E7.mp hy;exact h y<|c8 e
theorem lJ:∀{xs},CV.g6 xs=true↔∀x∈xs,x.gg=true
 |[]=>⟨λu u h=>(nomatch h),λu=>rfl⟩|x::xs=>by rw[CV.GQ,bz,lJ,zK]
theorem vj:∀{xs},(∀y∈xs,y.s8=0)->CV.jV xs=0
 |[],u=>rfl|x::xs,h=>by rw[CV.GR,h x<|.head _,vj λy hy=>h y<|.tail _ hy];rfl
end
end
section
variable {d:Nat}
section
variable {hs aD:List (Str×Str)}{aj:List Str}{kc:Option CV}{more:List (Str×CV)}{ay:List Nat}{ao au:List (List Str)}
end
end
section
variable {d:Nat}
section
variable {hs aD:List (Str×Str)}{aj:List Str}{kc:Option CV}{more:List (Str×CV)}{ay:List Nat}{ao au:List (List Str)}
end
end
section
variable {d:Nat}
section
variable {hs aD:List (Str×Str)}{aj:List Str}{kc:Option CV}{more:List (Str×CV)}{ay:List Nat}{ao au:List (List Str)}
theorem wS {st:List ae}{e:aq}{x y:Str}{k:Nat}(h:(cQ x)[k]?=some y)(hk:k<2^40):fF d e (.str x) (af k) st (.str y) st:=by
 unfold cQ at h;rw[dN] at h;obtain⟨ch,h1,h2⟩:=oI.mp h;subst h2;have aZ:k<x.length:=by simpa [Fi] using ((bV.mp h1).1)
 apply afk (by simp;exact ah [_] (.lt .o (.n<|2^40)<|.g 1 0<|.it (.c .o)<|.n 9223372036854775808) rfl hk);rw[rM aZ];simpa using h1
end
end
section
variable {d:Nat}
section
variable {hs aD:List (Str×Str)}{aj:List Str}{kc:Option CV}{more:List (Str×CV)}{ay:List Nat}{ao au:List (List Str)}
end
end
section
variable {d:Nat}
section
variable {hs aD:List (Str×Str)}{aj:List Str}{kc:Option CV}{more:List (Str×CV)}{ay:List Nat}{ao au:List (List Str)}
end
end
section
variable {d:Nat}
section
variable {hs aD:List (Str×Str)}{aj:List Str}{kc:Option CV}{more:List (Str×CV)}{ay:List Nat}{ao au:List (List Str)}
end
end
section
variable {d:Nat}
section
variable {hs aD:List (Str×Str)}{aj:List Str}{kc:Option CV}{more:List (Str×CV)}{ay:List Nat}{ao au:List (List Str)}
end
end
section
variable {d:Nat}
section
variable {hs aD:List (Str×Str)}{aj:List Str}
end
end
section
variable {d:Nat}
section
variable {hs Pa:List (Str×Str)}{aj:List Str}{st:List ae}{i0 i1 i2 ip:Nat}
end
end
section
variable {d:Nat}
theorem Bo {b c s k:Nat}{bi ci:Int}(hb:bi=(b:Int))(hc:ci=(c:Int)):(((s:Int).fdiv (bi^(k:Int).toNat)).fmod ci)=((s/b^k%c:Nat):Int):=by subst hb;subst hc;rw[Fh,<-Int.natCast_pow,abN _<|mK _,<-Int.natCast_ediv,abR _<|mK _,<-abS]
theorem DW {c e s:Nat}{bi ci:Int}(hb:bi=(c:Int))(hc:ci=(e:Int)):(((s:Int).fdiv bi).fmod ci)=((s/c%e:Nat):Int):=by subst hb;subst hc;rw[abN _<|mK _,<-Int.natCast_ediv,abR _<|mK _,<-abS]
theorem Pb {c s:Nat}{ci:Int}(hc:ci=(c:Int)):((s:Int).fmod ci)=((s%c:Nat):Int):=by subst hc;rw[abR _<|mK _,<-abS]
theorem DX {x:Int}{b k:Nat}{bi:Int}(hb:bi=(b:Int))(h1:0<b)(h5:b<=5)(hk:k<=10):bi^(k:Int).toNat≠0∧Re x (bi^(k:Int).toNat)=false:=by
 subst hb;rw[Fh,<-Int.natCast_pow];have h2:=fC (Nat.pow_le_pow_left h5 k)<|Nat.pow_le_pow_right (by decide) hk;refine⟨KP<|Nat.pow_pos h1,RL ?_⟩;rw[Int.natAbs_natCast];have:5^10=9765625:=by decide
 exact ah [_] (.le .o (.n<|5^10)<|.gt .o<|.n 1073741824) rfl h2
section
variable {aC:List Str}{cr:Nat}
end
end
section
variable {d:Nat}
theorem jL {st:List ae}{e:aq}{q:Nat}{xs:List Nat}{j v:Nat}(h:st[q]?=some (a0 xs))(hv:xs[j]?=some v)(hb:xs.length<2^40):fF d e (.ab q) (af j) st (af v) st:=by exact ahF h rfl (by rw[dN,hv];rfl) (by rwa[aV])
theorem YG {st:List ae}{q:Nat}{xs:List Nat}(h:st[q]?=some (a0 xs))(hn:xs.length<2^20):bk d (.bi "len") [.ab q] [] st (.int (xs.length:Int)) st:=by simpa using (uJ (d:=d) h<|by simp;exact KS hn)
section
variable {ps:List (Nat×Nat)}{aP k:Nat}{aA ca cb:List Nat}{g:List ae}
theorem k8 xs:(a0 xs).lo n=true:=NT _
end
end
section
section
variable {d:Nat}
open Builtin Builtin.Str StrLaws in
theorem Pd (s:Str)(c:Nat):∀(n i:Nat) (st:Array Nat×Nat),i+n=s.length->st.1.size+n<=s.length->st.2<=i->
 ((forIn (fc i (n+1)) st (occBody s ⟨#[c]⟩ s.length (s.length+1))).run.1.toList.length=st.1.size+(s.cps.toList.drop i).count c)
 | 0,i,st,h1,h2,h3=>by
   have hn:¬(((st.1.size<s.length+1∧st.2<=i)∧i+(⟨#[c]⟩:Str).length<=s.length)∧subAt s ⟨#[c]⟩ i=true):=by
    intro h
    have:(⟨#[c]⟩:Str).length=1:=rfl
    have:=h.1.2
    exact ah [_,_,_] (.c (-1) 0 (.eq (.a .o .k) .i) (.le (.a .o .u) .i (.c (-1) 0 (.eq .u .j) (.g 0 0 (.f))))) rfl h1 this (by assumption)
   rw[mO,xH]
   unfold occBody
   rw[if_neg hn]
   have hd:s.cps.toList.drop i = []:=Fn (by show s.cps.toList.length<=i;rw[v0];show s.length<=i;exact ah [_,_] (.c (-1) 0 (.eq (.a .o .k) .i) (.gl .i .o)) rfl h1)
   rw[hd]
   simp
 | n+1,i,st,h1,h2,h3=>by
   have hi:i<s.cps.toList.length:=by rw[v0];show i<s.length;exact FL h1
   have hd:s.cps.toList.drop i=s.cps.toList[i]::s.cps.toList.drop (i+1):=Ky hi
   have hl:(⟨#[c]⟩:Str).length=1:=rfl
   have hs:subAt s ⟨#[c]⟩ i=(s.cps.toList[i] == c):=by
    unfold subAt
    rw[hl]
    have jl:i<s.cps.size:=by simpa using hi
    have e:s.cps.extract i (i+1) = #[s.cps[i]]:=by
     apply Array.ext
     · rw[Array.size_extract,Nat.min_eq_left jl];exact Nat.add_sub_cancel_left i 1
     · intro j h1 h2
       simp at h2
       subst h2
       simp
    rw[e]
    simp
   rw[mO,xH,hd,iU]
   by_cases hc:(s.cps.toList[i] == c)=true
   · have hy:((st.1.size<s.length+1∧st.2<=i)∧i+(⟨#[c]⟩:Str).length<=s.length)∧subAt s ⟨#[c]⟩ i=true:=⟨⟨⟨by exact ah [_,_,_] (.le (.a .o .i) .u (.gt .o (.a .u .j))) rfl h2,h3⟩,by rw[hl];exact ah [_,_,_,_] (.eq (.a .o (.a .i .u)) .w (.gl (.a .o .u) .w)) rfl h1⟩,by rw[hs,hc]⟩
     have e:occBody s ⟨#[c]⟩ s.length (s.length+1) i st=pure (ForInStep.yield (st.1.push i,i+(⟨#[c]⟩:Str).length)):=if_pos hy
     rw[e]
     have ih:=Pd s c n (i+1) (st.1.push i,i+(⟨#[c]⟩:Str).length) (by exact xO h1) (by rw[RN];exact FF h2) (by rw[hl];exact aG _)
     rw[if_pos hc]
     rw[pure_bind]
     dsimp only at ih ⊢
     rw[ih,RN]
     exact ah [_,_] (.ge (.a (.a .o .j) .i) (.a .o (.a .i .j))) rfl
   · have hn:¬(((st.1.size<s.length+1∧st.2<=i)∧i+(⟨#[c]⟩:Str).length<=s.length)∧subAt s ⟨#[c]⟩ i=true):=λh=>hc (by rw[<-hs];exact h.2)
     have e:occBody s ⟨#[c]⟩ s.length (s.length+1) i st=pure (ForInStep.yield (st.1,st.2)):=if_neg hn
     rw[e]
     have ih:=Pd s c n (i+1) (st.1,st.2) (by exact xO h1) (by show st.1.size+n<=_;exact ah [_,_,_,_] (.le (.a .o (.a .i .u)) .w (.gl (.a .o .i) .w)) rfl h2) (by show st.2<=_;exact uh h3)
     rw[if_neg hc]
     rw[pure_bind]
     dsimp only at ih ⊢
     rw[ih]
     exact ah [_,_] (.ge (.a .o .i) (.a .o (.a .i .k))) rfl
open StrLaws in
theorem Pe (s:Str)(c:Nat):sM s ⟨#[c]⟩=((s.cps.toList.count c:Nat):Int):=by
 unfold sM
 rw[occ_eq]
 congr 1
 have:=Pd s c s.length 0 (#[],0) (by exact KG) (by simp) (aG _)
 rw[vY,this]
 simp
noncomputable def bh (l:List Bool):Str:=⟨(l.map λb=>if b then 40 else 41).toArray⟩
theorem np l:(bh l).length=l.length:=by simp [bh,Fi]
section
variable {ss:List Nat}{m s0:Nat}
end
end
section
variable {d:Nat}
section
variable {ss:List Nat}{m s0 s1 s2:Nat}{nm:List Str}{sg:List Bool}
noncomputable def ja:Str:="\t \"#()\\a"
theorem akK {k:Str}(h:∀p∈es,p.1≠k):yw es k v=es++[(k,v)]:=by unfold yw;rw[if_neg];intro hh;rw[List.any_eq_true] at hh;obtain⟨p,hp,e⟩:=hh;exact h p hp (by simpa using e)
end
end
section
variable {d:Nat}
section
variable {ss:List Nat}{m s0 s1 s2 s3:Nat}{nm pl:List Str}{sg:List Bool}{s:Str}{g1 g2:List Str}{rk:List (Str×CV)}
end
end
section
variable {d:Nat}
theorem wX {P:Nat->Prop}(h0:P 0)(h:∀j,j<n->P (j+1)) j (hj:j<n+1):P j:=by cases j with|zero=>exact h0|succ j=>exact h j<|z5 hj
theorem D3 {P:Nat->Prop}(h0:P 0)(h1:P 1)(h2:P 2)(h3:P 3)(h4:P 4)(h5:P 5)(h6:P 6)(h7:P 7):∀j,j<8->P j:=
 wX h0 (wX h1<|wX h2<|wX h3<|wX h4<|wX h5<|wX h6<|wX h7 λj h=>absurd h<|zY j)
section
variable {d:Nat}{st:List ae}{a:ai}{rest:List CV}{n:Nat}{cs iJ:List Nat}{ln fR:Int}{pb qP:List Str}{v:CV}
noncomputable def za (n:Nat):List Nat:=(aK 8).map λi=>n+i
theorem Iv {i:Nat}(h:i<8):(za n)[i]?=some (n+i):=by rw[za,dN,iS h];rfl
theorem Pg n:(za n).Nodup:=Rf _ (λx x h e=>h<|Rg e) xF
theorem Iw {x:Str}(h:v.bI f=some v')(hr:jh f r=some r'):jh f ((x,v)::r)=some ((x,v')::r'):=gC h hr
end
section
variable {ss:List Nat}{m s0 s1 s2 s3:Nat}{nm pl:List Str}{sg:List Bool}{s:Str}{g1 g2:List Str}{rk:List (Str×CV)}
noncomputable def tU:List Str:=[" ","\n","\t\n","\r"]
noncomputable def qQ:List Str:=["z","z\\","\"z","z \n"]
end
end
section
variable {d:Nat}
section
variable {ss:List Nat}{m s0 s1 s2 s3:Nat}{nm pl left:List Str}{sg:List Bool}{s T:Str}{g1 g2:List Str}{rk:List (Str×CV)}
open Builtin Builtin.Str in
theorem Ix:∀(ps:List Str),(gY "" ps).cps.toList=(ps.map λp=>p.cps.toList).flatten:=by
 have h:∀(ps:List Str) (acc:Array Nat),(ps.foldl (λacc p=>acc++("":Str).cps++p.cps) acc).toList=acc.toList++(ps.map λp=>p.cps.toList).flatten:=by
  intro ps
  induction ps with
  | nil=>intro acc;simp
  | cons p ps ih=>
    intro acc
    rw[fu,ih,eC,RW]
    have:("":Str).cps = #[]:=rfl
    rw[this,abl,z3,eJ]
 intro ps
 cases ps with
 | nil=>rfl
 | cons p ps=>exact h ps p.cps
theorem YQ:∀(ps:List Str),(∀p∈ps,p.length<=B)->(ps.map λp=>p.cps.toList).flatten.length<=ps.length*B
 |[],x=>by simp|p::ps,h=>by rw[eC,RW,dJ,dO,Nat.succ_mul,v0];exact ah [_,_,_,_] (.le .o .i<|.le .u .w<|.gl (.a .o .u)<|.a .w .i) rfl (h p<|.head _) (YQ ps λq hq=>h q<|.tail _ hq)
theorem Iy (h:∀p∈ps,p.length<=B):(gY "" ps).length<=ps.length*B:=by have:(gY "" ps).length=(gY "" ps).cps.toList.length:=v0.symm;rw[this,Ix];exact YQ ps h
end
end
section
variable {d:Nat}
section
variable {ss:List Nat}{m s0 s1 s2 s3:Nat}{nm pl left:List Str}{sg:List Bool}{s T:Str}{g1 g2 g3:List Str}{rk:List (Str×CV)}
end
end
section
variable {d:Nat}
section
variable {d:Nat}{st:List ae}{k j p q:Nat}{ns:List Str}{rk:List (Str×CV)}{x:Str}
end
section
variable {ss:List Nat}{m s0 s1 s2 s3 s4:Nat}{nm pl left w:List Str}{sg:List Bool}{s T:Str}{g1 g2 g3:List Str}{rk:List (Str×CV)}{rt:Bool}
end
end
section
variable {d:Nat}
section
variable {ss:List Nat}{m s0 s1 s2 s3 s4:Nat}{nm pl left w:List Str}{sg:List Bool}{s T:Str}{g1 g2 g3:List Str}{rk:List (Str×CV)}{rt:Bool}
end
end
section
variable {d:Nat}
section
variable {ss:List Nat}{m s0 s1 s2 s3 s4:Nat}{nm pl left w:List Str}{sg:List Bool}{s T pc:Str}{g1 g2 g3:List Str}{rk:List (Str×CV)}{rt:Bool}{G:List ae}{D:de}
noncomputable def iP:List Str:=["","\")\"","\"(\"","\\)","\"\\\")\"","\"\""]
end
end
section
variable {d:Nat}{c:aY}
section
variable {T:List ae}{n:Nat}{p1 p2 p3 p4 p5 px pos:Pos}{scope:d8}{iter:aq}{a:CV}{xs:List Nat}{pl:List Str}{cl:List (Str×Nat)}{x5 tV:Nat}
end
end
section
variable {d:Nat}
section
variable {ss:List Nat}{m s0 s1 s2 s3 s4:Nat}{nm pl left w units nest:List Str}{sg:List Bool}{s T pc:Str}{g1 g2 g3:List Str}{rk:List (Str×CV)}{rt:Bool}{G:List ae}{D:de}{dL gx:List Nat}
end
end
section
variable {d:Nat}
section
variable {ss:List Nat}{m s0 s1 s2 s3 s4:Nat}{nm pl left w units nest:List Str}{sg:List Bool}{s T pc:Str}{g1 g2 g3:List Str}{rk:List (Str×CV)}{rt:Bool}{G:List ae}{D:de}{dL gx:List Nat}
noncomputable def jc (units:List Str)(p q:Nat):List Str:=(units.drop p).take (q+1-p)
noncomputable def k9 (sg:List Bool)(p q:Nat):List Bool:=(sg.drop p).take (q+1-p)
end
end
section
variable {d:Nat}
section
variable {ss:List Nat}{m s0 s1 s2 s3 s4:Nat}{nm pl left w units nest:List Str}{sg:List Bool}{s T pc:Str}{g1 g2 g3:List Str}{rk:List (Str×CV)}{rt:Bool}{G:List ae}{D:de}{dL gx:List Nat}{tb:Nat->Nat->Bool}
end
end
section
variable {d:Nat}
section
variable {ss:List Nat}{m s0 s1 s2 s3 s4:Nat}{nm pl left w units nest:List Str}{sg:List Bool}{s T pc:Str}{g1 g2 g3:List Str}{rk:List (Str×CV)}{rt:Bool}{G:List ae}{D:de}{dL gx:List Nat}{tb:Nat->Nat->Bool}
end
end
section
variable {d:Nat}
section
variable {ss:List Nat}{m s0 s1 s2 s3 s4:Nat}{nm pl left w units nest:List Str}{sg:List Bool}{s T pc:Str}{g1 g2 g3:List Str}{rk:List (Str×CV)}{rt:Bool}{G:List ae}{D:de}{dL gx:List Nat}
end
end
section
variable {d:Nat}{c:aY}
section
variable {ss:List Nat}{m s0 s1 s2 s3 s4 s5:Nat}{nm pl left w units nest:List Str}{sg:List Bool}{s T pc:Str}{g1 g2 g3:List Str}{rk:List (Str×CV)}{rt:Bool}{G:List ae}{D:de}{aA:List Nat}
end
end
section
variable {d:Nat}
section
variable {ss:List Nat}{m s0 s1 s2 s3 s4 s5:Nat}{nm pl left w units nest:List Str}{sg:List Bool}{s T pc:Str}{g1 g2 g3:List Str}{rk:List (Str×CV)}{rt:Bool}{D:de}{aA:List Nat}
end
end
section
variable {d:Nat}
section
variable {e:fB}{s5:Nat}{hs td:List (Str×Str)}
end
end
section
variable {d:Nat}
section
variable {e:fB}{s5:Nat}{hs td ro:List (Str×Str)}
end
end
section
variable {d:Nat}
section
variable {e:fB}{s5:Nat}{hs td ro:List (Str×Str)}
end
end
section
variable {d:Nat}{c:aY}
end
section
variable {d:Nat}
theorem YW {α β:Type}{f:α->Option β}{ys:List α}{b:List β}(h2:lA f ys=some b):∀{xs} {a},lA f xs=some a->lA f (xs++ys)=some (a++b)
 |[],a,h=>by obtain rfl:=dE h;exact h2|x::xs,a,h=>kl h λy hy h=>eE (P:=λz=>lA f (x::xs++ys)=some (z++b)) h λz hz=>cq hy<|YW h2 hz
end
section
variable {d:Nat}
section
variable {e:fB}{td ro:List (Str×Str)}{ot:List Str}{gH gI:List (Nat×Nat)}{vs:List (Str×CV)}
end
end
section
variable {d:Nat}
section
variable {e:fB}{td ro:List (Str×Str)}{ot:List Str}{gH gI:List (Nat×Nat)}{vs:List (Str×CV)}
end
end
section
variable {d:Nat}
noncomputable def fq (zs:List Int):List Nat:=(zs.take 60).map λz=>(z.fmod 5040).toNat
def r6 (rs:List Nat)(k:Nat):List Nat:=e7 rs (some (k:Int)) none (some 6)
theorem akX (f:α->β) xs  lo hi st:e7 (xs.map f) lo hi st=(e7 xs lo hi st).map f:=by unfold e7;rw[aV,RU];congr 1;funext i;rw[dN]
theorem akY:∀r∈fq zs,r<5040:=λr hr=>by obtain⟨z,_,rfl⟩:=cu.mp hr;exact (Int.toNat_lt<|aqK z (b:=5040)<|by decide).2 (Int.fmod_lt_of_pos z (b:=5040)<|by decide)
theorem Pm:(fq zs).length<=60:=by rw[fq,aV,nG];exact ack
theorem akZ {xs:List Nat}(h:∀x∈xs,x<5040):xs.sum<=5040*xs.length:=by induction xs with|nil=>exact dQ _|cons x xs ih=>have:=ih λy hy=>h y<|.tail _ hy;rw[Rv,dO];exact ah [_,_,_] (.lt .o (.n 5040)<|.le .i (.m 5040 .u)<|.gl (.a .o .i)<|.m 5040<|.a .u .j) rfl (h x<|.head _) (by assumption)
theorem YX (xs:List Nat):(xs.map λn:Nat=>(n:Int)).sum=(xs.sum:Nat):=by induction xs with|nil=>rfl|cons x xs ih=>rw[eC,Rv,Rv,ih,QW]
structure IA (L:ai)(zs:List Int):Prop where
 bD:∃o vs n,X.H.get? L=some o∧o.cls = .type "list"∧o.data = .seq vs.toArray n∧∀own h,aF own h (zs.map CV.int) vs
section
variable {L:ai}{zs:List Int}
theorem Pn:a0 xs=.list (xs.map af):=by rw[a0,fV];rfl
theorem ak0 {k:Nat}(h:∀r∈rs,r<5040):∀x∈r6 rs k,x<5040:=OX h
theorem YY:∀(xs:List α),(xs.filterMap f).length<=xs.length
 |[]=>aG _|x::xs=>by
  rw[vT];have:=YY (f:=f) xs;split
  ·rw[dO];lia
  rw[dO,dO];exact o68 this
theorem ak1:∀n<61,∀k<6,(Rt (zS (some ((k:Nat):Int)) none (some 6) n).1 (zS (some ((k:Nat):Int)) none (some 6) n).2.1 (zS (some ((k:Nat):Int)) none (some 6) n).2.2).length<=100:=by decide +kernel
theorem ak2 {k:Nat}(hk:k<6)(h:rs.length<=60):(r6 rs k).length<=100:=by apply fC<|YY _;exact ak1 _ (by exact ah [_] (.le .o (.n 60)<|.gt .o<|.n 61) rfl h) _ hk
end
end
end
section
section
variable {α β:Type}{f:β->α}{lt eq:α->α->Bool}{lt' r8:β->β->Bool}(hl:∀a b,lt (f a) (f b)=lt' a b)(he:∀a b,eq (f a) (f b)=r8 a b)
theorem Eg {p:α->Bool}(h:∀x,p (f x)=q x) row:∀n lo hi,cM p (row.map f) n lo hi=cM q row n lo hi
 |0,lo,hi=>rfl|n+1,lo,hi=>by rw[rR,rR,dN];cases row[(lo+hi)/2]? with|none=>rfl|some v=>show(if lo<hi then(if p (f v) then _ else _) else _)=_;rw[h,Eg h row n,Eg h row n]
end
end
def fN (b i:Nat):Str:=⟨#[gN (b+i)]⟩
theorem I9 {i j:Nat}(h:i<j):gN i<gN j:=by
 unfold gN;have hc:∀k<8,∀l<8,k<l->HK.getD k 0<HK.getD l 0:=by decide
 have hb:∀k<8,HK.getD k 0<200:=by decide
 by_cases h1:i<8
 ·rw[if_pos h1];by_cases h2:j<8
  ·rw[if_pos h2];exact hc i h1 j h2 h
  rw[if_neg h2];exact o64<|hb i h1
 rw[if_neg h1,if_neg<|by exact ah [_,_,_] (.lt .o .i<|.c 1 0 (.no<|.lt .o .u)<|.g 1 0<|.no<|.lt .i .u) rfl h h1];exact ah [_,_] (.lt .o .i<|.gt (.a (.n 200) .o)<|.a (.n 200) .i) rfl h
theorem alb {i j:Nat}(h:gN i=gN j):i=j:=by
 rcases Nat.lt_trichotomy i j with q|q|q
 ·have:=I9 q;exact ah [_,_,_,_] (.c 1 1 (.lt .o .i)<|.c (-1) (-1) (.eq .o .i)<|.g 0 0<|.eq .u .w) rfl this h
 ·exact q
 have:=I9 q;exact ah [_,_,_,_] (.c 1 1 (.lt .o .i)<|.c 1 1 (.eq .i .o)<|.g 0 0<|.eq .u .w) rfl this h
theorem Y6 {i j:Nat}(h:fN b i=fN b j):i=j:=by have:#[gN<|b+i]= #[gN<|b+j]:=congrArg Str.cps h;have:=alb (by simpa using this);exact ah [_,_,_] (.c 1 (-1) (.eq (.a .o .i)<|.a .o .u)<|.ge .i .u) rfl this
theorem Ja b i j:(fN b i==fN b j)=bT i j:=by
 by_cases h:i=j
 ·subst h;rw[Cc];exact beq_self_eq_true _
 have h1:bT i j=false:=by cases hb:bT i j with|false=>rfl|true=>exact absurd (mP hb) h
 exact h1▸beq_eq_false_iff_ne.mpr λe=>h<|Y6 e
def tY:List Nat->Int
 |[]=>0|k::r=>bO k (tY r)
def vt (cs:List Nat)(ln:Int)(z:Str×List Nat×Int×Bool):Prop:=z.2.2.1+tY z.2.1=ln+tY cs∧z.2.1.length<=cs.length
theorem vt.cons {k:Nat}{ln:Int}(h:vt r (bO k ln) z):vt (k::r) ln z:=⟨h.1.trans ((show bO k ln+(tY r)=ln+bO k (tY r) from by
 unfold bO;by_cases h:k=10
 ·rw[if_pos h,if_pos h,Int.add_assoc,Rr 1]
 rw[if_neg h,if_neg h])),Fa h.2⟩
theorem vt.jk {k:Nat}{ln:Int}{t:Str}:vt (k::r) ln (t,r,bO k ln,b):=vt.cons ⟨rfl,aG _⟩
theorem Y7 {k:Nat}{ln:Int}:iN (k::r) false tok ln=if k=34 then(tok,r,bO k ln,true) else if k=92 then iN r true tok (bO k ln) else iN r false (tok++⟨#[k]⟩) (bO k ln):=rfl
theorem Pp {k:Nat}{ln:Int}:e9 (k::r) false tok ln=if eQ k then(tok,r,bO k ln,true) else if k=92 then e9 r true tok (bO k ln) else e9 r false (tok++⟨#[k]⟩) (bO k ln):=rfl
theorem r9 {k:Nat}{ln:Int}:bG (k::r) ln=if eQ k then bG r (bO k ln) else if k=34 then iN r false "" (bO k ln) else if k=92 then e9 r true "" (bO k ln) else e9 r false (""++⟨#[k]⟩) (bO k ln):=rfl
theorem Jb:∀cs e tok ln,vt cs ln (iN cs e tok ln)
 |[],x,u,o=>⟨rfl,aG _⟩|k::r,true,tok,ln=>(Jb r false _ _).cons|k::r,false,tok,ln=>by
  rw[Y7];by_cases h1:k=34
  ·rw[if_pos h1];exact .jk
  rw[if_neg h1];by_cases h2:k=92
  ·rw[if_pos h2];exact(Jb r _ _ _).cons
  rw[if_neg h2];exact(Jb r _ _ _).cons
theorem Eh:∀cs e tok ln,vt cs ln (e9 cs e tok ln)
 |[],x,u,o=>⟨rfl,aG _⟩|k::r,true,tok,ln=>(Eh r false _ _).cons|k::r,false,tok,ln=>by
  rw[Pp];by_cases h1:eQ k=true
  ·rw[if_pos h1];exact .jk
  rw[if_neg h1];by_cases h2:k=92
  ·rw[if_pos h2];exact(Eh r _ _ _).cons
  rw[if_neg h2];exact(Eh r _ _ _).cons
theorem Jc:∀cs ln,vt cs ln (bG cs ln)
 |[],x=>⟨rfl,aG _⟩|k::r,ln=>by
  rw[r9];by_cases h1:eQ k=true
  ·rw[if_pos h1];exact(Jc r _).cons
  rw[if_neg h1];by_cases h2:k=34
  ·rw[if_pos h2];exact(Jb r _ _ _).cons
  rw[if_neg h2];by_cases h3:k=92
  ·rw[if_pos h3];exact(Eh r _ _ _).cons
  rw[if_neg h3];exact(Eh r _ _ _).cons
theorem Pq:∀l r ln,(∀k∈l,eQ k=true)->∃fR,bG (l++r) ln=bG r fR
 |[],r,ln,x=>⟨ln,rfl⟩|k::l,r,ln,h=>by obtain⟨fR,e⟩:=Pq l r (bO k ln) λj hj=>h j<|.tail _ hj;refine⟨fR,?_⟩;rw[fM,r9,if_pos<|h k<|.head _,e]
inductive xb (c:Nat):List Nat->Prop|bare:xb c [92,c]|Y8:xb c [34,92,c,34]|Y9:c≠34->c≠92->xb c [34,c,34]|plain:eQ c=false->c≠34->c≠92->xb c [c]
theorem Y':eQ 34=false:=by decide +kernel
theorem Pr {k:Nat}(h:eQ k=true){ln:Int}:e9 (k::r) false tok ln=(tok,r,bO k ln,true):=by rw[Pp,if_pos h]
theorem alg {s0:Nat}{l:List Nat}(h:xb c l)(hs:eQ s0=true) ln:∃L,(bG (l++s0::R) ln).1=⟨#[c]⟩∧(bG (l++s0::R) ln).2.1=L++R∧∀k∈L,eQ k=true:=by
 have h1:∀k∈[s0],eQ k=true:=λk hk=>by cases gV.mp hk;exact hs
 have n0:¬(eQ 92=true):=by rw[Oj];exact fL
 have n1:¬(eQ 34=true):=Y'▸fL;cases h with
 |bare=>
  have e:bG ([92,c]++s0::R) ln=e9 (s0::R) false ⟨#[c]⟩ (bO c<|bO 92 ln):=by rw[fM,r9,if_neg n0,if_neg (by decide),if_pos rfl];rfl
  exact e▸Pr hs▸⟨[],rfl,rfl,λx h=>nomatch h⟩
 |Y8=>
  have e:bG ([34,92,c,34]++s0::R) ln=(⟨#[c]⟩,s0::R,bO 34<|bO c<|bO 92<|bO 34 ln,true):=by rw[fM,r9,if_neg n1,if_pos rfl];rfl
  exact e▸⟨[s0],rfl,rfl,h1⟩
 |Y9 a b=>
  have e:bG ([34,c,34]++s0::R) ln=(⟨#[c]⟩,s0::R,bO 34<|bO c<|bO 34 ln,true):=by rw[fM,r9,if_neg n1,if_pos rfl,fM,Y7,if_neg a,if_neg b];rfl
  exact e▸⟨[s0],rfl,rfl,h1⟩
 |plain a b d=>
  have e:bG ([c]++s0::R) ln=e9 (s0::R) false ⟨#[c]⟩ (bO c ln):=by rw[fM,r9,if_neg<|a▸fL,if_neg b,if_neg d];rfl
  exact e▸Pr hs▸⟨[],rfl,rfl,λx h=>nomatch h⟩
def Ps (c:Nat)(l:List Nat):Bool:=l==[92,c]||l==[34,92,c,34]||(l==[34,c,34]&&(c != 34&&c != 92))||(l==[c]&&(!eQ c&&(c != 34&&c != 92)))
theorem alh {l:List Nat}(h:Ps c l=true):xb c l:=by
 simp only [Ps,Bool.or_eq_true,bz,beq_iff_eq,bne_iff_ne,E0] at h;rcases h with((h|h)|h)|h
 ·subst h;exact .bare
 ·subst h;exact .Y8
 ·obtain⟨rfl,a,b⟩:=h;exact .Y9 a b
 obtain⟨rfl,a,b,d⟩:=h;exact .plain a b d
def ali (l:List Nat):Bool:=match l with
 |[]=>false|k::r=>eQ k&&r.all eQ
theorem alj:∀j<4,ali (tU.getD j "").cps.toList=true∧(tU.getD j "").length<=2:=by decide +kernel
theorem alk:∀i<8,∀w<4,Ps (gN i) (jE ⟨#[gN i]⟩ ((w:Nat):Int)).cps.toList=true∧(jE ⟨#[gN i]⟩ ((w:Nat):Int)).length<=4:=by decide +kernel
noncomputable def gi (cs:List Nat):Nat->List Nat×Int
 |0=>(cs,1)|i+1=>((bG (gi cs i).1 (gi cs i).2).2.1,(bG (gi cs i).1 (gi cs i).2).2.2.1)
theorem Pt cs:∀i,(gi cs i).2+tY (gi cs i).1=1+tY cs∧(gi cs i).1.length<=cs.length
 |0=>⟨rfl,aG _⟩|i+1=>
  have h:=Pt cs i;have k:=Jc (gi cs i).1 (gi cs i).2
  ⟨k.1.trans h.1,fC k.2 h.2⟩
theorem alm {P:Nat->List Nat}{tl:List Nat}{n:Nat}{c:Nat->Nat}(hP:∀k<n,∃l s0 s',xb (c k) l∧eQ s0=true∧(∀j∈s',eQ j=true)∧P k=l++s0::s'){T:List Nat}(hT:T=((aK n).map P).flatten++tl):∀i≤n,(∃L,(∀k∈L,eQ k=true)∧(gi T i).1=L++(((fc i (n-i)).map P).flatten++tl))∧(i<n->(bG (gi T i).1 (gi T i).2).1=⟨#[c i]⟩):=by
 have step:∀i<n,(∃L,(∀k∈L,eQ k=true)∧(gi T i).1=L++(((fc i<|n-i).map P).flatten++tl))->(bG (gi T i).1 (gi T i).2).1=⟨#[c i]⟩∧∃L,(∀k∈L,eQ k=true)∧(bG (gi T i).1 (gi T i).2).2.1=L++(((fc (i+1)<|n-(i+1)).map P).flatten++tl):=by intro i hi ⟨L,hL,e⟩;obtain⟨l,s0,s',h1,h2,h3,h4⟩:=hP i hi;rw[e,show n-i=n-(i+1)+1 from(abV<|aqN hi).symm,mO,eC,RW,h4];obtain⟨fR,e'⟩:=Pq L ((l++s0::s')++((fc (i+1)<|n-(i+1)).map P).flatten++tl) (gi T i).2 hL;rw[e',eJ,eJ,fM];obtain⟨L',q1,q2,q3⟩:=alg h1 h2 fR;refine⟨q1,L'++s',λk hk=>(f7.mp hk).elim (q3 k)<|h3 k,?_⟩;rw[q2,eJ]
 have all:∀i≤n,∃L,(∀k∈L,eQ k=true)∧(gi T i).1=L++(((fc i<|n-i).map P).flatten++tl):=λi=>by induction i with|zero=>intro _;refine⟨[],λx h=>(nomatch h),?_⟩;rwa[xL,vY,<-pW]|succ i ih=>exact λhi=>(step i hi<|ih<|aqO hi).2
 exact λi hi=>⟨all i hi,λh=>(step i h<|all i hi).1⟩
theorem aln (hL:∀k∈L,eQ k=true) ln {j:Nat}(hj:j<4)(ht:tl=(qQ.getD j "").cps.toList):(bG (L++tl) ln).1="z"∧∀fR,(bG (bG (L++tl) ln).2.1 fR).1=""∧(bG (bG (L++tl) ln).2.1 fR).2.1=[]:=by
 obtain⟨l2,e⟩:=Pq L tl ln hL;rw[e];subst ht;have w2:eQ 122=false:=by decide +kernel
 have n0:¬(eQ 122=true):=by rw[w2];exact fL
 have n1:¬(eQ 34=true):=Y'▸fL;have n2:¬(eQ 92=true):=Oj▸fL
 match j,hj with
 |0,u=>
  have e:bG [122] l2=(("z":Str),[],bO 122 l2,false):=by rw[r9,if_neg n0,if_neg (by decide),if_neg<|by decide];rfl
  exact e▸⟨rfl,λx=>⟨rfl,rfl⟩⟩
 |1,u=>
  have e:bG [122,92] l2=(("z":Str),[],bO 92<|bO 122 l2,false):=by rw[r9,if_neg n0,if_neg (by decide),if_neg (by decide),Pp,if_neg n2,if_pos rfl];rfl
  exact e▸⟨rfl,λx=>⟨rfl,rfl⟩⟩
 |2,u=>
  have e:bG [34,122] l2=(("z":Str),[],bO 122<|bO 34 l2,false):=by rw[r9,if_neg n1,if_pos rfl];rfl
  exact e▸⟨rfl,λx=>⟨rfl,rfl⟩⟩
 |3,u=>
  have e:bG [122,32,10] l2=(("z":Str),[10],bO 32<|bO 122 l2,true):=by rw[r9,if_neg n0,if_neg (by decide),if_neg (by decide),Pr<|by decide +kernel];rfl
  show(bG [122,32,10] l2).1=_∧∀fR,(bG (bG [122,32,10] l2).2.1 fR).1=""∧(bG (bG [122,32,10] l2).2.1 fR).2.1=[];rw[e];refine⟨rfl,λl=>?_⟩;rw[r9,if_pos<|by decide +kernel];exact⟨rfl,rfl⟩
theorem Zb:∀cs:List Nat,tY cs=((cs.count 10:Nat):Int)
 |[]=>rfl|k::r=>by
  rw[(show tY (k::r)=bO k (tY r) from rfl),Zb r,iU,bO];by_cases h:k=10
  ·rw[if_pos h,h];rfl
  rw[if_neg h,if_neg<|by simpa using h];rfl
section
open Builtin Builtin.Str StrLaws
noncomputable def oy:List Bool->Nat->List Nat
 |[],x=>[]|false::r,i=>oy r (i+1)|true::r,i=>match r with
   |false::r'=>i::oy r' (i+2)|r=>oy r (i+1)
noncomputable def lb:List Bool->List Bool
 |[]=>[]|false::r=>false::lb r|true::r=>match r with
   |false::r'=>lb r'|r=>true::lb r
theorem als:lb []=[]:=rfl
noncomputable def kL:List Bool->Nat->Bool
 |[],o=>bT o 0|true::r,o=>kL r (o+1)|false::r,0=>false|false::r,o+1=>kL r o
noncomputable def Zc:List Bool->Bool
 |true::false::x=>true|_=>false
noncomputable def Pu (b:Bool):Nat:=if b then 40 else 41
theorem Jd bs:(bh bs).cps.toList=bs.map Pu:=rfl
theorem Zd bs  i:subAt (bh bs) "()" i=Zc (bs.drop i):=by
 rw[subAt_eq,Jd,<-rn]
 match bs.drop i with
 |[]=>rfl|[b]=>cases b<;>rfl|b::c::r=>cases b<;>cases c<;>rfl
theorem alq {i:Nat}:oy [] i=[]:=rfl
theorem alv bs:∀n i st,i+n=bs.length->st.1.size+n<=bs.length->st.2<=i->(forIn (fc i (n+1)) st (occBody (bh bs) "()" (bh bs).length ((bh bs).length+1))).run.1.toList=st.1.toList++oy (bs.drop i) i:=by
 have no:∀i st,(st.2<=i->i+2<=bs.length->Zc (bs.drop i)=false)->occBody (bh bs) "()" (bh bs).length ((bh bs).length+1) i st=pure (ForInStep.yield (st.1,st.2)):=λi st h=>if_neg λk=>by have h1:=k.1.2;rw[np] at h1;have:=h k.1.1.2 h1;rw[Zd,this] at k;exact fL k.2
 intro n;induction n using Nat.strongRecOn with
 |_ n ih=>
  intro i st h1 h2 h3;rw[mO,xH];cases hd:bs.drop i with
  |nil=>
   have hn:n=0:=by have:=congrArg oG hd;rwa[jA,<-h1,Nat.add_sub_cancel_left] at this
   subst hn;rw[no i st<|λx x=>by rw[hd];rfl];simp [alq]
  |cons b r=>
   have hl:r.length+1=n:=by have:=congrArg oG hd;rw[jA,<-h1,Nat.add_sub_cancel_left] at this;exact this.symm
   have hr:bs.drop (i+1)=r:=by rw[<-v7,hd];rfl
   obtain⟨k,rfl⟩:∃k,n=k+1:=⟨r.length,hl.symm⟩;have go:=λkD=>by have e:=no i st<|λx x=>hd▸kD;have:=ih k (rg k) (i+1) (st.1,st.2) (xO h1) (by exact ah [_,_,_,_] (.le (.a .o<|.a .i .u) .w<|.gl (.a .o .i) .w) rfl h2)<|uh h3;rw[hr] at this;exact(show(forIn (fc i<|k+1+1) st<|occBody (bh bs) "()" (bh bs).length<|(bh bs).length+1).run.1.toList=st.1.toList++oy r (i+1) by rwa[mO,xH,e,pure_bind])
   rw[mO,xH] at go;cases b with
   |false=>exact go rfl|true=>
    cases r with
    |nil=>exact go rfl|cons c r'=>cases c with|true=>exact go rfl|false=>obtain⟨j,rfl⟩:∃j,k=j+1:=⟨r'.length,by rw[dO] at hl;exact ah [_,_,_] (.c (-1) 1 (.eq (.a .o .i)<|.a .u .i)<|.ge .u .o) rfl hl⟩;have e:occBody (bh bs) "()" (bh bs).length ((bh bs).length+1) i st=pure (ForInStep.yield (st.1.push i,i+("()":Str).length)):=if_pos ⟨⟨⟨by rw[np];exact ah [_,_,_] (.le (.a .o .i) .u<|.gt .o<|.a .u .j) rfl h2,h3⟩,by rw[np];exact ah [_,_,_] (.eq (.a .o<|.a (.a .i .j) .j) .u<|.gl (.a .o<|.n 2) .u) rfl h1⟩,by rw[Zd,hd];rfl⟩;have h4:=ih j (ah [_] (.gt .o<|.a (.a .o .j) .j) rfl) (i+2) (st.1.push i,i+("()":Str).length) (ah [_,_,_] (.c 1 (-1) (.eq (.a .o<|.a (.a .i .j) .j) .u)<|.ge (.a (.a .o<|.n 2) .i) .u) rfl h1) (by rw[RN];exact ah [_,_,_,_] (.le (.a .o<|.a (.a .i .u) .u) .w<|.gl (.a (.a .o .u) .i) .w) rfl h2)<|aG _;rw[show bs.drop (i+2)=r' by rw[<-v7,hd];rfl,aqd,eJ] at h4;rw[e,pure_bind];dsimp only;rwa[mO,xH,no (i+1) (st.1.push i,i+("()":Str).length) (λh=>absurd h<|by exact ah [_] (.g 1 0<|.no<|.le (.a .o<|.n 2)<|.a .o .j) rfl),pure_bind]
theorem Ei bs:∀l a i,bs.drop i=l->a<=i->i<=bs.length->(KA "" (partsFrom (bh bs) 2 a (oy l i))).cps.toList=((((bs.drop a).take (i-a))++lb l).map Pu)
 |[],a,i,hd,ha,hi=>by
  have e:i=bs.length:=by have:=congrArg oG hd;rw[jA] at this;simp at this;exact u11 this hi
  show(strSub (bh bs) a (bh bs).length).cps.toList=_;rw[strSub_toList,Jd,np,<-e,als,dM,oH,rn]
 |false::r,a,i,hd,ha,hi=>by
  have hl:i<bs.length:=by have:=congrArg oG hd;rw[jA,dO] at this;exact u4 this
  rw[(show oy (false::r) i=oy r (i+1) from rfl),Ei bs r a (i+1) (by rw[<-v7,hd];rfl) (uh ha) hl,(show lb (false::r)=false::lb r from rfl),show i+1-a=(i-a)+1 by exact u1 ha,aa2,sL,show a+(i-a)=i by exact u2 ha];have:bs[i]?=some false:=by have:=congrArg (·[0]?) hd;rwa[sL] at this
  rw[this,eJ];rfl
 |true::false::r,a,i,hd,ha,hi=>by
  have hl:i+2<=bs.length:=by have:=congrArg oG hd;rw[jA,dO,dO] at this;exact Nat.add_le_of_le_sub' hi<|this▸Nat.le_add_left 2 _
  have ih:=Ei bs r (i+2) (i+2) (by rw[<-v7,hd];rfl) (aG _) hl;rw[fk,aar,xL] at ih;obtain⟨p,q,hp⟩:=partsFrom_ne (bh bs) 2 (i+2)<|oy r<|i+2;rw[hp] at ih;show(KA ""<|strSub (bh bs) a i::partsFrom (bh bs) 2 (i+2) (oy r<|i+2)).cps.toList=_;rw[hp];show(strSub (bh bs) a i++""++KA "" (p::q)).cps.toList=_;rw[vR,vR,z3,z3,ih,strSub_toList,Jd,fU,oH,rn];show _++[]++_=_++fm Pu (lb r);rw[dM]
 |[true],a,i,hd,ha,hi=>by
  have hl:i<bs.length:=by have:=congrArg oG hd;rw[jA,dO] at this;exact u4 this
  show(KA ""<|partsFrom (bh bs) 2 a<|oy []<|i+1).cps.toList=_;rw[Ei bs [] a (i+1) (by rw[<-v7,hd];rfl) (uh ha) hl,show i+1-a=(i-a)+1 by exact u1 ha,aa2,sL,show a+(i-a)=i by exact u2 ha];have:bs[i]?=some true:=by have:=congrArg (·[0]?) hd;rwa[sL] at this
  rw[this,eJ];rfl
 |true::true::r,a,i,hd,ha,hi=>by
  have hl:i<bs.length:=by have:=congrArg oG hd;rw[jA,dO] at this;exact u4 this
  show(KA ""<|partsFrom (bh bs) 2 a<|oy (true::r)<|i+1).cps.toList=_;rw[Ei bs (true::r) a (i+1) (by rw[<-v7,hd];rfl) (uh ha) hl,show i+1-a=(i-a)+1 by exact u1 ha,aa2,sL,show a+(i-a)=i by exact u2 ha];have:bs[i]?=some true:=by have:=congrArg (·[0]?) hd;rwa[sL] at this
  rw[this,eJ];rfl
theorem alw bs:sN (bh bs) "()" ""=bh (lb bs):=by
 refine xC<|Array.ext' ?_;have h1:=alv bs bs.length 0 (#[],0) (lq _) (ah [_] (.gl (.a .k .o) .o) rfl)<|aG _;have h2:=Ei bs bs 0 0 rfl (aG _) (dQ _);have e:occurrences (bh bs) "()" 0 (bh bs).length ((bh bs).length+1)=oy bs 0:=by rw[occ_eq,vY];rw[np] at h1 ⊢;exact h1
 unfold sN;split
 ·rename_i hc;simp at hc;rcases hc with hc|hc
  ·rw[e] at hc;rw[hc] at h2;have h3:(strSub (bh bs) 0 (bh bs).length).cps.toList=_:=h2;rwa[sub_whole] at h3
  exact absurd hc.1 (by decide)
 rwa[e,partsBetween_eq,glued_eq_join]
theorem Ej:∀l o,kL (lb l) o=kL l o
 |[],o=>rfl|false::r,0=>rfl|false::r,o+1=>Ej r o|[true],o=>rfl|true::true::r,o=>Ej (true::r) (o+1)|true::false::r,o=>Ej r o
theorem Ek:∀l:List Bool,(lb l).length<=l.length
 |[]=>aG _|false::r=>z4 (Ek r)|[true]=>aG _|true::true::r=>z4 (Ek<|true::r)|true::false::r=>fC (Ek r)<|vH _ 2
theorem Pv:∀l o,(lb l).length=l.length->kL l o=true->l=cD o false∧lb l=l
 |[],o,x,h=>by cases mP h;exact⟨rfl,rfl⟩|false::r,0,x,h=>by exact nB h|false::r,o+1,e,h=>by obtain⟨h1,h2⟩:=Pv r o (RK e) h;exact⟨congrArg (false::·) h1,congrArg (false::·) h2⟩|[true],o,x,h=>by exact nB h|true::true::r,o,e,h=>by have:=(Pv (true::r) (o+1) (RK e) h).1;cases this|true::false::r,o,e,h=>by have:=Ek r;change (lb r).length=r.length+1+1 at e;lia
def El:Nat->List Bool->List Bool
 |0,l=>l|n+1,l=>El n (lb l)
theorem Ze:∀n l,wJ n (bh l)=bh (El n l)
 |0,l=>rfl|n+1,l=>by show wJ n (sN (bh l) "()" "")=_;rw[alw,Ze n];rfl
theorem Zf:∀n l,kL (El n l) 0=kL l 0
 |0,l=>rfl|n+1,l=>(Zf n<|lb l).trans<|Ej l 0
theorem Pw:∀n l,l.length<=n->kL l 0=true->El n l=[]
 |0,l,h,x=>Fj (aas.mp h)|n+1,l,h,hb=>by
  by_cases he:(lb l).length=l.length
  ·have:=(Pv l 0 he hb).1;subst this;exact Pw n [] (dQ _) rfl
  have:=Ek l;exact Pw n (lb l) (by lia)<|(Ej l 0).trans hb
theorem Zg l:n7 (bh l)=kL l 0:=by
 unfold n7;rw[Ze,Jd,aV];cases hb:kL l 0 with
 |true=>rw[Pw l.length l (aG _) hb];rfl|false=>have:=Zf l.length l;rw[hb] at this;cases hs:El l.length l with|nil=>rw[hs] at this;exact nB' this|cons b r=>cases b<;>rfl
end
section
theorem PT {b:Nat}{r:Nat->Nat}{i:Nat}:∀n s,((fc s n).map λk=>(fN b k,af (r k))).lookup (fN b i)=if s<=i∧i<s+n then some (af (r i)) else none
 |0,s=>by rw[if_neg λh=>absurd h.2<|Nat.not_lt.2 h.1];rfl|n+1,s=>by
  rw[mO,eC,nD,Ja,PT n<|s+1];by_cases h:i=s
  ·subst h;rw[Cc];exact(if_pos ⟨aG _,ah [_,_] (.gt .o<|.a .o<|.a .i .j) rfl⟩).symm
  have:bT i s=false:=by cases hb:bT i s with|false=>rfl|true=>exact absurd (mP hb) h
  rw[this,show s+1+n=s+(n+1) from Nat.add_right_comm s 1 n];by_cases h2:s<=i∧i<s+(n+1)
  ·rw[if_pos h2,if_pos ⟨Nat.lt_of_le_of_ne h2.1<|Ne.symm h,h2.2⟩]
  rw[if_neg h2,if_neg λq=>h2 ⟨Nat.le_of_lt q.1,q.2⟩]
section
variable {m b s2:Nat}{nm:List Str}(hn:nm=(aK m).map (fN b))(hm:m<=5)
include hn hm
end
section
variable (rt:Bool)(rk:List Nat)(s4:Nat)
end
section
variable {rt:Bool}{m s2 s4 k:Nat}{z:sh}{r:List Bool}
end
section
variable {rt:Bool}{m b s2 s4:Nat}{sg:List Bool}
end
end
section
open Builtin Builtin.Str StrLaws
theorem ZD {x:Str}(oQ:a<=b)(hb:b<=x.length):(gD x (some (a:Int)) (some (b:Int))).cps.toList=(x.cps.toList.drop a).take (b-a):=by have:gD x (some a) (some b)=sliceText x (some a) (some b):=rfl;rw[this,sliceText_nat x oQ hb]
theorem amo {x:Str}(ha:a<=x.length):(gD x (some (a:Int)) none).cps.toList=x.cps.toList.drop a:=by
 have:gD x (some a) none=gD x (some a) (some<|x.length):=by unfold gD;rw[sliceIdx_none_hi]
 rw[this,ZD ha<|aG _];apply uc;rw[jA,v0];exact aG _
noncomputable def nt (aE:List Str):List Nat:=(aE.map λp=>p.cps.toList).flatten
theorem kO {i k:Nat}(h:k≠92):gS i false (k::r)=(i,⟨#[k]⟩)::gS (i+1) false r:=if_neg h
theorem Ep {i k:Nat}:gS i false (92::k::r)=(i+1,m7++⟨#[k]⟩)::gS (i+2) false r:=rfl
theorem BH {x:Str}{p:Nat}(h:d4 s dq=false):eK x z (p,s)=z:=by unfold eK;rw[if_neg<|h▸fL]
theorem amp {k:Nat}(h:k≠34):d4 ⟨#[k]⟩ dq=false:=by rw[show dq=⟨#[34]⟩ from rfl,n9];exact decide_eq_false h
theorem BI {x:Str}{p:Nat}:eK x z (p,⟨#[41]⟩)=z:=BH rfl
theorem Qb k:d4 (m7++⟨#[k]⟩) dq=false:=rfl
theorem Qc {x:Str}{st p:Nat}{aE:List Str}:eK x ⟨st,none,aE⟩ (p,dq)=⟨st,some p,aE⟩:=rfl
theorem ZE aE  s:nt (aE++[s])=nt aE++s.cps.toList:=by unfold nt;rw[fU,List.flatten_append,eC,abQ,RW,List.flatten_nil,dM]
theorem ZF {α:Type}{xs u r:List α}{s i n:Nat}(hs:s<=i)(hd:xs.drop i=u++r)(hn:u.length=n):(xs.drop s).take (i+n-s)=(xs.drop s).take (i-s)++u:=by
 have e:(xs.drop s).drop (i-s)=u++r:=by rwa[v7,show s+(i-s)=i by exact u2 hs]
 rw[show i+n-s=(i-s)+n by exact u1 hs,List.take_add,e,<-hn,List.take_left]
theorem ZG {α:Type}{xs u r:List α}{i n:Nat}(hd:xs.drop i=u++r)(hn:u.length=n):xs.drop (i+n)=r:=by rw[<-v7,hd,<-hn,List.drop_left]
noncomputable def cpB (o:Option Int):Bool:=match o with
 |none=>false|some o=>o==0
theorem amw {p:Nat}{o:Int}:j1 ((p,⟨#[40]⟩)::r) o=j1 r (o+1):=by rw[Dx,if_pos<|show d4 ⟨#[40]⟩ mA=true from rfl]
theorem ZI {p:Nat}{o:Int}(h1:d4 s mA=false)(h2:d4 s cls=false):j1 ((p,s)::r) o=j1 r o:=by rw[Dx,if_neg (by rw[h1];exact fL),if_neg<|by rw[h2];exact fL]
theorem ZJ {p:Nat}:j1 ((p,⟨#[41]⟩)::r) 0=none:=by rw[Dx,if_neg (by rw[show d4 ⟨#[41]⟩ mA=false from rfl];exact fL),if_pos (show d4 ⟨#[41]⟩ cls=true from rfl),if_pos<|by decide]
theorem ZK {p:Nat}{o:Nat}:j1 ((p,⟨#[41]⟩)::r) ((o+1:Nat):Int)=j1 r (o:Int):=by rw[Dx,if_neg (by rw[show d4 ⟨#[41]⟩ mA=false from rfl];exact fL),if_pos (show d4 ⟨#[41]⟩ cls=true from rfl),if_neg<|by exact ah [_] (.g 1 0<|.no<|.it (.s (.c<|.a .o .j) .j) .k) rfl];congr 1;exact ah [_] (.g 1 1<|.ie (.s (.c<|.a .o .j) .j)<|.c .o) rfl
section
variable {b ph:Nat}{j:Nat}(hj:j<6){sg:List Bool}
include hj
omit hj in
theorem ZN:(aK sg.length).map (λk=>sg.getD k false)=sg:=by
 refine Ku (by simp) λi h1 h2=>?_
 rw[aal,aan,ed,bA h2];rfl
end
end
section
section
variable (V:Ew){b m:Nat}(hb:b+m<=8)(hm:m<=5)
end
end
theorem ad6 (a:α):∃x,x=a:=⟨a,rfl⟩
noncomputable def gW (a:α):α:=(ad6 a).choose
theorem gp:gW a=a:=(ad6 a).choose_spec
set_option hygiene false in
local macro_rules | `(tactic| walk_at "ob1") => `(tactic| first | walk_at "oa" | decide | (have := dz; have := q4; have := qZ; exact ⟨by omega, by omega, by decide⟩))
section
variable {d:Nat}
end
section
variable {d:Nat}
theorem BN {st:List ae}{e:aq}{k:Nat}{xs:List Str}{x y:CV}{lo hi:Option Int}(hk:st[k]?=some (ax xs))(h1:qt x=some lo)(h2:qt y=some hi)(hl:xs.length<=2^20):fF d e (.ab k) (.sl [x,y,.none]) st (.ab st.length) (st++[ax ((xs.drop (eZ lo xs.length)).take (i5 hi xs.length-eZ lo xs.length))]):=by have:=Dd (d:=d) (e:=e) hk h1 h2 (z:=.none) rfl (by decide) (by rw[aV];exact SX hl);rwa[Hf,aV,<-rn,<-oH] at this
end
section
variable {d:Nat}
section
variable {pl:List Str}
end
end
section
variable {d:Nat}
def lg (n:Nat)(cs:List Nat)(ln:Int)(pb:List Str):List ae:=[.cell (some (.ab (n+1))),.list (cs.map jR),.d3 (eY ef.body 0).args (eY ef.body 0).body (eY ef.body 0).scope [] (some (n+4)),.d3 (eY ef.body 1).args (eY ef.body 1).body (eY ef.body 1).scope [("signs",n)] none,.bt [("read",.ab (n+3))],.bt [("lineno",.int ln),("instream",.ab (n+2)),("whitespace",.str k5),("pushback",.ab (n+7))],.bE 76 (n+5),ax pb]
def t5 (st:List ae)(n:Nat)(cs:List Nat)(ln:Int)(pb:List Str):Prop:=∀i,i<8->st[n+i]?=(lg n cs ln pb)[i]?
def vB (st:List ae)(n:Nat)(cs:List Nat)(ln:Int)(pb:List Str):List ae:=((st.set (n+1) (.list (cs.map jR))).set (n+5) (.bt [("lineno",.int ln),("instream",.ab (n+2)),("whitespace",.str k5),("pushback",.ab (n+7))])).set (n+7) (ax pb)
section
variable {d:Nat}{st:List ae}{a:ai}{rest:List CV}{n:Nat}{cs iJ:List Nat}{ln fR:Int}{pb qP:List Str}{v:CV}
theorem Qz {m:Nat}(hf:∀i<8,f (n+i)=some (m+i)):∀(i:Nat) o,(lg n cs ln pb)[i]?=some o->∃o',(lg m cs ln pb)[i]?=some o'∧o.bI f=some o'
 |0,o,e=>by obtain rfl:=dE e;exact⟨_,rfl,Uf<|hf 1<|by decide⟩|1,o,e=>by obtain rfl:=dE e;exact⟨_,rfl,fz<|W5 _ _⟩|2,o,e=>by obtain rfl:=dE e;exact⟨_,rfl,FZ rfl (congrArg (dg some)<|hf 4<|by decide)⟩|3,o,e=>by obtain rfl:=dE e;exact⟨_,rfl,FZ (Ug (hf 0<|by decide) rfl) rfl⟩|4,o,e=>by obtain rfl:=dE e;exact⟨_,rfl,uv<|hf 3<|by decide⟩|5,o,e=>by obtain rfl:=dE e;exact⟨_,rfl,(congrArg (dg ae.bt)<|Iw rfl (Iw (ij<|hf 2<|by decide)<|Iw rfl (Iw (ij<|hf 7<|by decide) rfl)))⟩|6,o,e=>by obtain rfl:=dE e;exact⟨_,rfl,rE<|hf 5<|by decide⟩|7,o,e=>by obtain rfl:=dE e;exact⟨_,rfl,fz<|yM _ _⟩|i+8,o,e=>by exact nS e
theorem Z':dR cs ln pb=lg 0 cs ln pb:=rfl
theorem aaa (h:bM d (.aH a) (.ab 6::rest) [] (dR cs ln pb) v (dR iJ fR qP))(hD:t5 st n cs ln pb)(hr:CV.cV 0 rest=true)(hv:v.lo 0=true):bM d (.aH a) (.ab (n+6)::rest) [] st v (vB st n iJ fR qP):=by
 obtain⟨s1,s2,s3⟩:=(show (vB st n iJ fR qP).length=st.length∧(∀i,i<8->(vB st n iJ fR qP)[n+i]?=(lg n iJ fR qP)[i]?)∧∀k,(∀i<8,k≠n+i)->(vB st n iJ fR qP)[k]?=st[k]? from by
  have hl:=λi hi=>by have h:=hD i hi;have:i<(lg n cs ln pb).length:=hi;rw[bA this] at h;exact(bV.mp h).1
  have ne:∀{i j:Nat},i≠j->n+i≠n+j:=λh e=>h<|Rg e;refine⟨by simp [vB],λi hi=>?_,λk hk=>?_⟩
  ·unfold vB;by_cases h7:i=7
   ·subst h7;rw[vM<|by simpa using hl 7 hi];rfl
   rw[lZ<|ne<|rc h7];by_cases h5:i=5
   ·subst h5;rw[vM<|by simpa using hl 5 hi];rfl
   rw[lZ<|ne<|rc h5];by_cases h1:i=1
   ·subst h1;rw[vM<|hl 1 hi];rfl
   rw[lZ<|ne<|rc h1,hD i hi];exact D3 (P:=λi=>i≠1->i≠5->i≠7->(lg n cs ln pb)[i]?=(lg n iJ fR qP)[i]?) (λx x x=>rfl) (λh x x=>absurd rfl h) (λx x x=>rfl) (λx x x=>rfl) (λx x x=>rfl) (λx h x=>absurd rfl h) (λx x x=>rfl) (λx x h=>absurd rfl h) i hi h1 h5 h7
  unfold vB;rw[lZ (rc<|hk 7<|by decide),lZ (rc<|hk 5<|by decide),lZ<|rc<|hk 1<|by decide])
 have hp:∀i<8,eW (za n) (n+i)=some (0+i):=λi hi=>by rw[lq];exact gr _ i _ (Pg n)<|Iv hi
 refine h.at (za n) (Pg n) ?_ rfl (gC (ij<|hp 6<|by decide)<|tM hr) rfl ?_ (HX hv)
 ·unfold g4;refine wI rfl λi k o e1 e2=>?_;have hi:=(bV.mp e2).1;rw[Iv hi] at e1;obtain rfl:=dE e1;have hd:=hD i hi;cases hq:(lg n cs ln pb)[i]? with|none=>have:i<(lg n cs ln pb).length:=hi;rw[bA this] at hq;cases hq|some o1=>rw[hq] at hd;rw[hd];obtain⟨o',h1,h2⟩:=Qz hp i o1 hq;rw[Z',h1] at e2;obtain rfl:=dE e2;exact h2
 refine HT rfl s1 (Pg n) (λi k e=>?_) λk hk=>s3 k λi hi e=>hk<|e▸cu.mpr ⟨i,gz.mpr hi,rfl⟩;have hi:i<8:=by have:=(bV.mp e).1;rwa[za,aV,fb] at this
 rw[Iv hi] at e;obtain rfl:=dE e;have hb:∀i<8,jT (za n) st.length (0+i)=some (n+i):=λi hi=>by rw[lq];unfold jT;rw[Iv hi]
 cases hq:(lg 0 iJ fR qP)[i]? with|none=>have:=hi;rw[bA this] at hq;cases hq|some o1=>obtain⟨o',h1,h2⟩:=Qz hb i o1 hq;exact⟨o1,o',hq,h2,by rw[s2 i hi,h1]⟩
end
theorem anp:jz X.K (.ref 292)=true:=iG (by kernel_rfl)
theorem JF:jz X.K (.ref 66)=true:=iG (by kernel_rfl)
theorem anq:jz X.K (.ref 73)=true:=iG (by kernel_rfl)
theorem anr:∀{d} {st} {x},x.length<=1000000->bk (d+5) (.aH 292) [.str x] [] st (.ab (st.length+6)) (st++lg st.length x.cps.toList 1 []):=λ{d st x} hx=>by refine(bM.wR (ext:=dR x.cps.toList 1 []) [] (aiw (d:=d) (λst k j=>qA (λv1 v2 S=>by kernel_rfl) gF) (by kernel_rfl) rfl hx (pe (λv1 S=>by kernel_rfl) gF)) (by simp) rfl rfl rfl rfl ?_ (ij<|nf (j:=6) (i:=6) rfl)).call;rw[Z'];refine wI rfl λi o o' e1 e2=>?_;obtain⟨o2,h1,h2⟩:=Qz (f:=jT [] st.length) (λi hi=>nf rfl) i o e1;rw[h1] at e2;obtain rfl:=dE e2;exact h2
theorem JG:∀{d} {st} {n} {cs} {ln} {pb},t5 st n cs ln pb->gM d "get_token" (.ab (n+6)) st (.aH 66) [.ab (n+6)]:=λhD=>ta (Hr) (hD 6<|by decide) (hD 5<|by decide) rfl (NO).find (NO).ty
theorem ans:∀{d} {st} {n} {cs} {ln} {pb},t5 st n cs ln pb->gM d "push_token" (.ab (n+6)) st (.aH 73) [.ab (n+6)]:=λhD=>ta (Hr) (hD 6<|by decide) (hD 5<|by decide) rfl (NP).find (NP).ty
theorem ant:∀{d} {st} {n} {cs} {ln} {pb},t5 st n cs ln pb->rG d "lineno" (.ab (n+6)) st (.int ln) st:=λhD=>MR (Hr) (hD 6<|by decide) (hD 5<|by decide) rfl ((uU).yz "lineno"<|.head _).1 rfl rfl
theorem JH:∀{d} {st} {n} {cs} {ln} {pb},t5 st n cs ln pb->cs.length<=1000000->pb.length<=1000000->bk (d+7) (.aH 66) [.ab (n+6)] [] st (.str (i8 cs ln pb).1) (vB st n (i8 cs ln pb).2.1 (i8 cs ln pb).2.2.1 (i8 cs ln pb).2.2.2):=λ{d st n cs ln pb} hD hc hp=>(aaa (air (λst k=>pe (λv1 S=>by kernel_rfl) gF) hc hp) hD rfl rfl).call
theorem anu:∀{d} {st} {n} {cs} {ln} {pb} {x},t5 st n cs ln pb->pb.length<=1000000->bk (d+2) (.aH 73) [.ab (n+6),.str x] [] st .none (vB st n cs ln (pb++[x])):=λ{d st n cs ln pb x} hD hp=>(aaa (ais (λst k x=>qA (λv1 v2 S=>by kernel_rfl) gF) hp) hD rfl rfl).call
theorem anv:jz X.K (.ref 299)=true:=iG (by kernel_rfl)
theorem anw:∀{d} {st} {name} {aC},aC<4->name.length<=100->bk (d+2) (.aH 299) [.str name,af aC] [] st (.str (jE name aC)) st:=λ{d st name aC} hw hn=>OO ((by obtain⟨g,B⟩:=ahR hw hn;exact aho.code (qA (λv1 v2 S=>by kernel_rfl) gF) (by kernel_rfl) (λq h=>by exact nS h) B (.inl rfl) (aG _) rfl rfl)) rfl rfl rfl
end
section
variable {d:Nat}
end
section
variable {d:Nat}
end
section
variable {d:Nat}
end
section
variable {d:Nat}
section
variable {d:Nat}{st:List ae}{k j p q:Nat}{ns:List Str}{x:Str}
end
end
section
variable {d:Nat}
end
section
variable {d:Nat}
section
variable {G:List ae}{D:de}
end
end
section
variable {d:Nat}{c:aY}
section
variable {T:List ae}{n:Nat}{p1 p2 p3 p4 p5 px pos:Pos}{scope:d8}{iter:aq}{a:CV}{xs:List Nat}{cl:List (Str×Nat)}{x5 tV:Nat}
end
end
section
variable {d:Nat}
theorem QF:jz X.K (.ref 137)=true:=iG (by kernel_rfl)
theorem QG:jz X.K (.ref 306)=true:=iG (by kernel_rfl)
theorem aap:∀{d} {st} {x},x.length<=1000->bk (d+8) (.aH 137) [.str x] [] st (.bool (m9 x)) st:=λ{d st x} hx=>OO ((by obtain⟨g,B⟩:=ah8 (λst x=>pe (λv1 S=>by kernel_rfl) gF) hx;exact ahD.code (pe (λv1 S=>by kernel_rfl) gF) (by kernel_rfl) (λq h=>by exact nS h) B (.inl rfl) (aG _) rfl rfl)) rfl rfl rfl
theorem aaq:∀{d} {st} {x},x.length<=1000->bk (d+2) (.aH 306) [.str x] [] st (.bool (n7 x)) st:=λ{d st x} hx=>OO ((by obtain⟨c',B⟩:=ahP (fC hx<|by decide);exact ahn.code (pe (λv1 S=>by kernel_rfl) gF) (by kernel_rfl) (λq h=>by exact nS h) B (.inl rfl) (aG _) rfl rfl)) rfl rfl rfl
section
variable {nest:List Str}{G:List ae}{D:de}{dL gx:List Nat}
end
end
section
variable {d:Nat}
section
variable {nest:List Str}{G:List ae}{D:de}{dL gx:List Nat}
end
end
section
variable {d:Nat}
section
variable {nest:List Str}{G:List ae}{D:de}{dL gx:List Nat}
end
end
section
variable {d:Nat}
section
variable {nest:List Str}{G:List ae}{D:de}{dL gx:List Nat}
end
end
section
variable {d:Nat}
section
variable {G:List ae}{D:de}{dL gx:List Nat}
end
end
section
variable {d:Nat}{c:aY}
section
variable {T:List ae}{n:Nat}{p1 p2 p3 p4 p5 p6 px pos:Pos}{kt q1:Nat}{scope:d8}{iter:aq}{xs:List Str}{cl:List (Str×Nat)}{ix ie xo:Nat}{nmv:Str}
end
section
variable {G:List ae}{D:de}
end
end
section
variable {d:Nat}
theorem BS {o:ae}(h:o.lo n=true):(([o]:List ae).all λo=>o.lo n)=true:=by rw[bU,cG,h];rfl
section
variable {D:de}
end
end
section
variable {d:Nat}
section
variable {e:fB}{hs td:List (Str×Str)}
end
end
section
variable {d:Nat}
section
variable {e:fB}{hs td:List (Str×Str)}
end
end
section
variable {d:Nat}
section
variable {e:fB}{hs td ro:List (Str×Str)}
end
end
section
variable {d:Nat}
section
variable {e:fB}{hs td ro:List (Str×Str)}
end
end
section
variable {d:Nat}{c:aY}
section
variable {T:List ae}{n xw iw xp ip:Nat}{aC:List Str}{xs:List Nat}{ix:Nat->Nat}{p1 p2 p3 p4 p5 p6 p7 p8 p9 JR JS px pos:Pos}{kt:Nat}{iter:aq}{scope:d8}{cl:List (Str×Nat)}{a:CV}
end
end
section
variable {d:Nat}
theorem aoS {T:List ae}(hT:T.length=n)(b9:(T.all λo=>o.lo n)=true)(hn:(aK n++js).Nodup)(km:lA (λk=>(T++g)[k]?.bind (ae.bI (eW (aK n++js)))) js=some ys):g4 (aK n++js) (T++g)=some (T++ys):=by refine YW km<|wI (by rw[hT,fb]) λi k o h1 h2=>?_;have hi:=hT▸(bV.mp h2).1;rw[iS hi] at h1;obtain rfl:=dE h1;rw[d2 (by exact o1 hi hT),h2];exact ae.kR (λk hk=>gr _ k k hn<|by rw[d2 (by rwa[fb]),iS hk]) o<|dI.mp b9 o<|c8 h2
section
variable {e:fB}{acc:List CV}{g:List ae}
end
end
section
variable {d:Nat}
section
variable {e:fB}{vs:List (Str×CV)}
end
end
section
variable {d:Nat}
section
variable {e:fB}{vs:List (Str×CV)}
end
end
section
variable {d:Nat}
section
variable {e:fB}{vs:List (Str×CV)}
end
end
section
variable {d:Nat}
section
variable {e:fB}{ro:List (Str×Str)}{gv:CV}
end
end
section
variable {d:Nat}
theorem apn {st:List ae}{k:Nat}{xs:List Nat}(hk:st[k]?=some (a0 xs))(hx:∀x∈xs,x<5040)(hl:xs.length<=100):bk d (.bi "sum") [.ab k] [] st (.int (xs.sum:Nat)) st:=by
 have:=afs (d:=d) hk (λj hj=>by
  rw[aV] at hj;have h3:(xs.take<|j+1).length<=100:=nG▸Th hl;rw[<-oH,YX,ed,dN,bA hj];refine⟨⟨?_,?_⟩,⟨KM,?_⟩⟩
  ·exact KM
  ·exact ah [_] (.lt .o (.n 5040)<|.g 1 0<|.it (.c .o)<|.n<|2^63) rfl (hx _<|Rs hj)
  exact ah [_,_] (.c 5040 0 (.le .o<|.n 100)<|.le .i (.m 5040 .o)<|.g 1 0<|.it (.c .i)<|.n<|2^63) rfl h3 (akZ (xs:=xs.take<|j+1) λy hy=>hx y<|B4 hy))
 rwa[YX] at this
section
variable {L:ai}{zs:List Int}
end
end
section
variable {d:Nat}
theorem iH {c:aY}{b:List bl}{i n:Nat}{st aw ag:List ae}{f:cZ}(h:aI d c ((b.drop i).take n) st .next aw)(k:aI d c (b.drop (i+n)) aw f ag):aI d c (b.drop i) st f ag:=
 jY n h (by rwa[v7])
end
section
variable {d:Nat}
end
theorem aa7:∀{vs} {zs},IntsAre vs zs->aF own h (zs.map CV.int) vs
 |_,_,.nil=>rfl|_,_,.cons _ _ h=>⟨_,_,rfl,⟨_,rfl⟩,aa7 h⟩
theorem apQ:Rm 16 callerA:=⟨rfl,by decide +kernel,by decide +kernel⟩
theorem apS:∀P,TY=(kF P).map (·.1):=λP=>rfl
theorem yY P:codeHdIn (kF P) 291 287=true:=by kernel_rfl
theorem apU P:nsIn (kF P) jy "law"=some (some (.ref 345)):=by kernel_rfl
theorem asi:J8.wellSaid=true:=by kernel_rfl
theorem i00 {α:Type}{c:aY}{t:aq}{b:List bl}{ns:List α}{f:α->Bool}{S:Nat->Nat->Option Int->List ae} (T:∀lo hi m,fx d c t (S lo hi m) (decide ((lo:Int)<(hi:Int))) (S lo hi m)) (B:∀{lo hi m v},ns[(lo+hi)/2]?=some v->lo<hi->hi<=ns.length->aI d c b (S lo hi m) .next (if f v then S ((lo+hi)/2+1) hi (some ((lo+hi)/2:Nat)) else S lo ((lo+hi)/2) (some ((lo+hi)/2:Nat)))):∀n lo hi m,hi<=lo+n->hi<=ns.length->lo<=hi->∃m',rK d c t b (S lo hi m) .next (S (cM f ns (n+1) lo hi) (cM f ns (n+1) lo hi) m'):=λn=>by
 have e:∀n lo hi m,¬lo<hi->lo<=hi->∃m',rK d c t b (S lo hi m) .next (S (cM f ns (n+1) lo hi) (cM f ns (n+1) lo hi) m'):=λn lo hi m z h=>by have t:=T lo hi m;obtain rfl:lo=hi:=FA h z;rw[decide_eq_false<|Int.lt_irrefl _] at t;rw[rR];exact if_neg z▸⟨m,.done t⟩
 induction n with
 |zero=>exact λlo hi m h1 h2 h3=>e _ lo hi m (Nat.not_lt.2 h1) h3|succ n ih=>
  intro lo hi m h1 h2 h3;by_cases z:lo<hi
  ·have t:=T lo hi m;have hm:(lo+hi)/2<ns.length:=Fx z h2;have g:=bA hm;have b:=B (m:=m) g z h2;rw[rR,if_pos z,g];rw[decide_eq_true<|xt.2 z] at t;show ∃m',rK d _ _ _ _ _<|S (ite (f _=true) _ _) (ite (f _=true) _ _) m';cases hf:f ns[(lo+hi)/2] with|true=>rw[hf] at b;exact (ih _ hi _ (Fz h1) h2<|Cf z).imp λm' h=>.cons t b (.inl rfl) h|false=>rw[hf] at b;exact (ih lo _ _ (Fy h1) (xN hm)<|Ce z).imp λm' h=>.cons t b (.inl rfl) h
  exact e _ lo hi m z h3
def i03 (r:Bool)(x:Int)(v:Nat):Bool:=cond r (!decide (x<(v:Int))) (decide ((v:Int)<x))
noncomputable def i04 (ns:List Nat)(x:Int)(lo hi:Nat)(m:Option Int):List ae:=[a0 ns,im (CV.int x) lo hi m]
theorem i01 {ns:List Nat}{x:Int}{lo hi:Nat}{m:Option Int}{v:Nat}(r)(hb:ns.length<2^17)(hv:ns[(lo+hi)/2]?=some v)(d6:lo<hi)(bJ:hi<=ns.length):aI d (da (b02 r).scope 1 none) (mx (rO (b02 r).body 2)).2 (i04 ns x lo hi m) .next (if i03 r x v=true then i04 ns x ((lo+hi)/2+1) hi (some ((lo+hi)/2:Nat)) else i04 ns x lo ((lo+hi)/2) (some ((lo+hi)/2:Nat))):=by
 have hm:=Hs lo hi;have hp:=Ht (Ft)<|Fu (show ns.length<2^40 by lia) d6 bJ;have g:∀e,fF d e (.ab 0) (af<|(lo+hi)/2) (i04 ns x lo hi<|some<|((lo:Int)+hi).fdiv 2) (af v) (i04 ns x lo hi<|some<|((lo:Int)+hi).fdiv 2):=λe=>jL rfl hv (by exact o4 hb);rw[show af ((lo+hi)/2)=.int (((lo:Int)+hi).fdiv 2) by rw[hm];rfl] at g;suffices h:aI d (da (b02 r).scope 1 none) (mx<|rO (b02 r).body 2).2 (i04 ns x lo hi m) .next [a0 ns,im (CV.int x) (cond (i03 r x v) (((lo:Int)+hi).fdiv 2+1) lo) (cond (i03 r x v) hi<|((lo:Int)+hi).fdiv 2)<|some<|((lo:Int)+hi).fdiv 2] by rw[hm] at h;revert h;cases i03 r x v<;>exact id
 cases hq:i03 r x v<;>cases r<;>cases m<;>first|exact aW (sc:=[.aE (af v)<|i04 ns x lo hi<|some<|((lo:Int)+hi).fdiv 2,.yes]) (by rfl) (am (by simpa [i03] using hq)<|am (g _)<|am (And.intro (show(2:Int)≠0 by decide) hp) aX)|exact aW (sc:=[.aE (af v)<|i04 ns x lo hi<|some<|((lo:Int)+hi).fdiv 2,.no]) (by rfl)<|am (by simpa [i03] using hq)<|am (g _)<|am (And.intro (show(2:Int)≠0 by decide) hp) aX
theorem i20 {ns:List Nat}{x:Int}{lo:Nat}(r)(hb:db (cond r xR Ae) [a0 ns] args kw (nZ (CV.int x) lo .none) [a0 ns])(bn:ns.length<2^17)(d6:lo<=ns.length):bM (d+3) (.aH (cond r 98 116)) args kw [a0 ns] (.int (cM (i03 r x) ns (ns.length+1) lo ns.length)) [a0 ns]:=by
 obtain⟨m',W⟩:=i00 (d:=d+1) (c:=da (b02 r).scope 1 none) (t:=(mx<|rO (b02 r).body 2).1) (S:=i04 ns x) (λlo hi m=>by cases r<;>exact nX (sc:=[]) (by rfl) aX) (i01 r bn) ns.length lo ns.length none FB (aG _) d6;have h0:decide ((lo:Int)<0)=false:=by simp
 let z:List ae:=[a0 ns,.frame [("key",.none),("hi",.none),("lo",.int lo),("x",.int x),("a",.ab 0)]];have hl:((ns.map λm:Nat=>(m:Int)).map CV.int).length=ns.length:=by rw[aV,aV]
 have L:bk (d+1) (.bi "len") [.ab 0] [] z (.int ns.length) z:=by exact hl▸uJ rfl (by rw[hl];exact ah [_] (.lt .o (.n<|2^17)<|.g 1 0<|.it (.c .o)<|.n<|2^63) rfl bn)
 generalize cM (i03 r x) ns (ns.length+1) lo ns.length=q at *;cases r<;>exact(b08 _).code hb (by kernel_rfl) (λq h=>by exact nS h) (aW (sc:=[.no,.aE (.bool true) z,.cw,.aE (.int ns.length) z,.aE (.bool true)<|i04 ns x lo ns.length none,.cw,.iX .next (i04 ns x q q m')]) (by rfl)
  (am (CY W)<|am (ky rfl)<|am L<|am gP<|am (ky rfl)<|am h0 aX)) (.inl rfl) (aG _) (by show((a0 ns).lo 1&&true)=true;rw[k8];rfl) rfl
theorem i21 {st:List ae}{k:Nat}{xs:List Nat}{x:Int}{lo:Nat}(r)(hk:st[k]?=some (a0 xs))(hl:xs.length<2^17)(hh:lo<=xs.length):bk (d+3) (.aH (cond r 98 116)) [.ab k,.int x,.int (lo:Nat)] [] st (.int (cM (i03 r x) xs (xs.length+1) lo xs.length:Nat)) st:=by cases r;exact((i20 false (NL (λv1 v2 v3 S=>by kernel_rfl)<|tz<|tz gF) hl hh).H0 hk (NT _) rfl rfl).call;exact((i20 true (NL (λv1 v2 v3 S=>by kernel_rfl)<|tz<|tz gF) hl hh).H0 hk (NT _) rfl rfl).call
theorem i22 {α:Type}{f:α->Bool}{xs:List α}{K:Nat}(hK:∀i v,xs[i]?=some v->(f v=true↔i<K)):∀n lo hi,hi<=lo+n->hi<=xs.length->lo<=hi->cM f xs (n+1) lo hi=max lo (min hi K):=λn=>by
 have e:∀n lo hi,¬lo<hi->lo<=hi->cM f xs (n+1) lo hi=max lo (min hi K):=λn lo hi z h3=>by obtain rfl:lo=hi:=FA h3 z;rw[rR,if_neg z];exact (Nat.max_eq_left<|Nat.min_le_left _ _).symm
 induction n with
 |zero=>exact λlo hi h1 h2 h3=>e _ lo hi (Nat.not_lt.2 h1) h3|succ n ih=>
  intro lo hi h1 h2 h3;by_cases z:lo<hi
  ·have hm:(lo+hi)/2<xs.length:=Fx z h2;have g:=bA hm;have b:=hK _ _ g;rw[rR,if_pos z,g];show ite (f _=true) _ _=_;by_cases q:f xs[(lo+hi)/2]=true
   ·rw[if_pos q,ih ((lo+hi)/2+1) hi (Fz h1) h2<|Cf z];have m:(lo+hi)/2+1<=min hi K:=Nat.le_min.2 ⟨Cf z,b.1 q⟩;exact (Nat.max_eq_right m).trans (Nat.max_eq_right<|fC (Nat.le_succ_of_le<|Ce z) m).symm
   rw[if_neg q,ih lo ((lo+hi)/2) (Fy h1) (xN hm)<|Ce z];have k:K<=(lo+hi)/2:=Nat.le_of_not_lt λu=>q<|b.2 u;rw[Nat.min_eq_right k,Nat.min_eq_right<|show K<=hi from Nat.le_of_lt<|Nat.lt_of_le_of_lt k<|Cf z]
  exact e _ lo hi z h3
theorem i29 {st:List ae}{k:Nat}{xs:List Nat}{x:Int}(r)(hk:st[k]?=some (a0 xs))(hl:xs.length<2^17):bk (d+3) (.aH (cond r 98 116)) [.ab k,.int x,.int 0,.none] [] st (.int (cM (i03 r x) xs (xs.length+1) 0 xs.length:Nat)) st:=by cases r;exact((i20 false (ahg (λv1 v2 v3 v4 S=>by kernel_rfl)<|tz gF) hl<|dQ _).H0 hk (NT _) rfl rfl).call;exact((i20 true (ahg (λv1 v2 v3 v4 S=>by kernel_rfl)<|tz gF) hl<|dQ _).H0 hk (NT _) rfl rfl).call
noncomputable def i31 (r:Bool)(x:Nat)(ns:List Nat):List Nat:=ns.take (cM (i03 r x) ns (ns.length+1) 0 ns.length)++x::ns.drop (cM (i03 r x) ns (ns.length+1) 0 ns.length)
theorem i30 {ns:List Nat}{x:Nat}(r)(hb:db (cond r K5 K6) [a0 ns] [.ab 0,af x] [] [("a",.ab 0),("x",af x),("lo",.int 0),("hi",.none),("key",.none)] [a0 ns])(bn:ns.length<2^17):bM (d+5) (.aH (cond r 89 107)) [.ab 0,af x] [] [a0 ns] .none [a0 (i31 r x ns)]:=by
 have hq:=DR (right:=i03 r x) (xs:=ns) (ns.length+1) 0 ns.length (dQ _)<|aG _;let z:List ae:=[a0 ns,.frame [("key",.none),("hi",.none),("lo",.int 0),("x",af x),("a",.ab 0)]];have C1:=i29 (d:=d) (st:=z) (k:=0) (x:=x) r rfl bn;have hr:((a0<|i31 r x ns).lo 1&&true)=true:=by rw[k8];rfl
 have e:a0 (i31 r x ns)=.list (((ns.map λm:Nat=>(m:Int)).map CV.int).take (cM (i03 r x) ns (ns.length+1) 0 ns.length)++af x::((ns.map λm:Nat=>(m:Int)).map CV.int).drop (cM (i03 r x) ns (ns.length+1) 0 ns.length)):=by rw[a0,i31,fU,fU,eC,eC,oH,oH,rn,rn];rfl
 rw[e] at hr ⊢;have hl:((ns.map λm:Nat=>(m:Int)).map CV.int).length=ns.length:=by rw[aV,aV]
 generalize cM (i03 r x) ns (ns.length+1) 0 ns.length=q at *;let fr:ae:=.frame [("key",.none),("hi",.none),("lo",.int q),("x",af x),("a",.ab 0)];have N:gu (cond r 89 107) (b16 r) (cond r K5 K6):=by cases r;exact ahB;exact ahA
 cases r<;>exact N.code hb (by kernel_rfl) (λq h=>nS h) (aW (sc:=[.val<|.bool true,.cw,.val<|.int q,.bg (.bi "list.insert") [.ab 0],.aE .none [.list<|((ns.map λm:Nat=>(m:Int)).map CV.int).take q++af x::((ns.map λm:Nat=>(m:Int)).map CV.int).drop q,fr]]) rfl
  (am (V6 rfl (ah [_,_] (.lt .o (.n<|2^17)<|.le .i .o<|.g 1 0<|.it (.c .i)<|.n<|2^63) rfl bn hq) (by rwa[hl]) (by rw[hl];have:cX=2^24:=rfl;exact ah [_,_] (.lt .o (.n<|2^17)<|.c (-1) 0 (.eq .i<|.n<|2^24)<|.g 1 0<|.le .o .i) rfl bn this))<|am gP<|am (WY rfl)<|am C1<|am (cK<|iG<|by kernel_rfl)<|am (ky rfl) aX)) (.inr ⟨rfl,rfl⟩) (aG _) hr rfl
theorem i32 {st:List ae}{k:Nat}{xs:List Nat}{x:Nat}(r)(hk:st[k]?=some (a0 xs))(hl:xs.length<2^17):bk (d+5) (.aH (cond r 89 107)) [.ab k,af x] [] st .none (st.set k (a0 (i31 r x xs))):=by cases r;exact((i30 false (qA (i6:=[("lo",.int 0 378),("hi",.none),("key",.none)]) (λv1 v2 S=>by kernel_rfl)<|W'<|tz<|tz gF) hl).ajr hk (NT _) (NT _) rfl rfl).call;exact((i30 true (qA (i6:=[("lo",.int 0 351),("hi",.none),("key",.none)]) (λv1 v2 S=>by kernel_rfl)<|W'<|tz<|tz gF) hl).ajr hk (NT _) (NT _) rfl rfl).call
section
variable {d:Nat}{c:aY}
section
variable {A:Around}{E:an->az->Prop}{s:az}{prog:q9}{w:pM}{Q:an->az->Prop}
theorem r4 {a:Int}{t:Tok}{b:Bool}(h:Q (.bool (decide (a<(if b then 1 else 0)))) s):be (aQ prog w) A (compareOp .Lt (.int a t) (.bool b)) Q E s:=by
 refine SeqAt.rc_sub_first_or (op:=.Lt) (typeIs_int s a t) rfl rfl F.sub_bool_int F.slot_bool_gt_refl
  (call_gives F.slot_bool_gt_refl rfl F.entry_int_gt (F.args_int_gt_2 _ _) (.of_eq rfl:Gives (Builtin.«int.__gt__» ⟨[.bool b,.int a t],[]⟩) (.val<|.bool<|decide ((if b then 1 else 0)>a))) ⟨nofun,h⟩) (.inl rfl)
theorem r7 {a:Bool}{b:Int}{u:Tok}(h:Q (.bool (decide ((if a then 1 else 0)<b))) s):be (aQ prog w) A (compareOp .Lt (.bool a) (.int b u)) Q E s:=by
 refine SeqAt.rc_left_or (op:=.Lt) rfl (typeIs_int s b u) rfl F.sub_int_bool F.slot_bool_lt
  (call_gives F.slot_bool_lt rfl F.entry_int_lt (F.args_int_lt_2 _ _) (.of_eq rfl:Gives (Builtin.«int.__lt__» ⟨[.bool a,.int b u],[]⟩) (.val<|.bool<|decide ((if a then 1 else 0)<b))) ⟨nofun,h⟩) (.inl rfl)
end
noncomputable def flC (p:Bool×Bool):CV:=cond p.1 (.bool p.2) (.int (cond p.2 1 0))
noncomputable def flS (p:Bool×Bool):Str:=cond p.1 (cond p.2 "True" "False") (cond p.2 "1" "0")
theorem y9 {p q:Bool×Bool}{st:List ae}:jj d .Lt (flC p) (flC q) st (.bool (!p.2&&q.2)) st:=λA own s x y u S ra rb=>by
 obtain⟨a,v⟩:=p;obtain⟨b,w⟩:=q;cases a<;>cases b
 ·obtain⟨t,rfl⟩:=ra;obtain⟨t',rfl⟩:=rb;exact PyProof.Rows.lt_int ⟨own,.refl,S,by cases v<;>cases w<;>rfl⟩
 ·obtain⟨t,rfl⟩:=ra;obtain rfl:=rb;exact r4 ⟨own,.refl,S,by cases v<;>cases w<;>rfl⟩
 ·obtain rfl:=ra;obtain⟨t,rfl⟩:=rb;exact r7 ⟨own,.refl,S,by cases v<;>cases w<;>rfl⟩
 obtain rfl:=ra;obtain rfl:=rb;exact PyProof.Rows.lt_bool ⟨own,.refl,S,by cases v<;>cases w<;>rfl⟩
theorem pH {p:Bool×Bool}{st:List ae}:bk d (.ty "str") [flC p] [] st (.str (flS p)) st:=Da λA own s y q S r=>by
 obtain⟨a,v⟩:=p;cases a
 ·obtain⟨t,rfl⟩:=r;exact P.str_of_int (by cases v<;>decide) ⟨own,.toks,S.toks _,_,by cases v<;>rfl⟩
 obtain rfl:=r;exact P.str_of_bool ⟨own,.toks,S.toks _,_,by cases v<;>rfl⟩
section
variable {st:List ae}{k:Nat}{ns:List Int}
theorem t0 (val:Nat->Int):∀n,xI (λi j=>decide (val i<val j)) n<=n∧∀i,i<=n->val (xI (λi j=>decide (val i<val j)) n)<=val i
 |0=>⟨aG _,λi hi=>by rw[aas.mp hi];exact zG _⟩|n+1=>by
  obtain⟨h1,h2⟩:=t0 val n;rw[xI];generalize xI (λi j=>decide (val i<val j)) n=b at *;by_cases hb:val (n+1)<val b
  ·rw[decide_eq_true hb,if_pos rfl];exact⟨aG _,λi hi=>(abE hi).elim (λh=>QY (Int.le_of_lt hb)<|h2 i<|abx h) λh=>h▸zG _⟩
  rw[decide_eq_false hb,if_neg fL];exact⟨Fa h1,λi hi=>(abE hi).elim (λh=>h2 i<|abx h) λh=>h▸sB.mp hb⟩
theorem Ed {m:Int}(hk:st[k]?=some (.list (ns.map CV.int)))(hm:m∈ns)(d6:∀y∈ns,m<=y):bk d (.bi "min") [.ab k] [] st (.int m) st:=wy λA own s y q S ry=>by obtain⟨a,vs,n,rfl,ha,ho,hr,hl⟩:=S.kY hk ry;rw[aV] at hl;have hL:s.heap.IsList a vs.toArray:=⟨_,ho,rfl,n,rfl⟩;have Wp:=List.length_pos_of_mem hm;refine Tr.MK S<|call_min_walk<|wpAny_pyIter_list hL ⟨_,_,_,_,_,_,λi j=>decide (ns.getD i 0<ns.getD j 0),rfl,Walks.list (A:=A.in1) q.1 _ a (pQ<|sE ho) vs.toArray,⟨⟨_,iy _ rfl,rfl,rfl⟩,hL.push _⟩,ML<|sE ho,Kn Wp hl,CmpOf.ints_lt _ λi v hv=>GW hr hv,λv h' tk hv ql=>?_⟩;obtain⟨t',oY⟩:=GW hr hv;obtain⟨h1,h2⟩:=t0 (λi=>ns.getD i 0)<|vs.toArray.size-1;refine⟨h',tk,t',MM (aG _) ql,oY.trans ?_,rfl⟩;have hs:vs.toArray.size=ns.length:=hl.symm;rw[hs] at h1 h2 ⊢;generalize xI (λi j=>decide (ns.getD i 0<ns.getD j 0)) (ns.length-1)=b at *;have hb:=q7 h1<|aba Wp abb;obtain⟨i,hi,e⟩:=pN.mp hm;have h3:=h2 i<|Nat.le_sub_one_of_lt hi;rw[MN hi,MN hb,e] at h3;rw[MN hb,aax h3<|d6 _<|Rs hb]
theorem t7:∀{ns:List Int} {vs},aF own h (ns.map CV.int) vs->IntsAre vs ns
 |[],_,e=>by subst e;exact .nil|_::_,_,⟨_,_,e,⟨_,e'⟩,r⟩=>by subst e;subst e';exact .cons _ _<|t7 r
theorem pJ {ms:List Int}(hk:st[k]?=some (.list (ns.map CV.int)))(oj:ns.length<64)(hp:ms.Perm ns)(hs:ms.Pairwise (·<=·)):bk d (.bi "sorted") [.ab k] [] st (.ab st.length) (st++[.list (ms.map CV.int)]):=wy λA own s y q S ry=>by obtain⟨a,vs,n,rfl,ha,ho,hr,hl⟩:=S.kY hk ry;rw[aV] at hl;refine PyProof.Rows.sorted_ints ⟨_,ho,rfl,n,rfl⟩ (t7 hr) (hl▸oj) λout ms' a1 a2 a3=>?_;obtain rfl:ms=ms':=(hp.trans a2.symm).eq_of_pairwise (λ_ _ _ _ h1 h2=>aax h1 h2) hs a3;obtain⟨e,he⟩:=sortedAll_at s.heap vs out;have kp:∀b o,s.heap.get? b=some o->(sortedAll s.heap vs out).get? b=some o:=λb o=>sortedAll_old;have nw:s.heap.get? (s.heap.objs.size+1)=none:=iI<|ke _;exact⟨_,a9.push kp nw,S.push kp nw (λg=>⟨out.toList,e,by simpa using he,aa7 (own:=own++[s.heap.objs.size+1]) (h:=sortedAll s.heap vs out) a1⟩) S.tk,s.heap.objs.size+1,by rw[<-S.len];simp,rfl⟩
end
section
open SeqAt
variable {st:List ae}{k k' l l':Nat}{xs ys xs' jW:List CV}
theorem t8 {x y:an}{A:Around}{own:List ai}{s:az}(q:Rm (d+1) A)(S:Sx own st s)(hk:st[k]?=some (.list xs))(hl:st[l]?=some (.list xs))(hx:CV.g6 xs=true)(hd:CV.jV xs<=6)(ra:RelV own s.heap (.ab k) x)(rb:RelV own s.heap (.ab l) y):EqAt A s x y true:=by
 cases Wb q S hk hl hx hx hd ra rb with
 |ne a b vs ws e1 e2 h1 h2 hz hv=>rw[uH xs hx] at hv;exact nB' hv|eq a b vs ws e1 e2 h1 h2 hz he hv=>
  subst e1;subst e2;by_cases oQ:a=b
  ·subst oQ;exact EqAt.same _
  have:=RcAt.lists h1 h2 hz q.units he;rw[hv,uH xs hx] at this;exact EqAt.of_refs oQ this
theorem Ee (hk:st[k]?=some (.list xs))(hl:st[l]?=some (.list xs))(we:st[k']?=some (.list ys))(nP:st[l']?=some (.list ys))(hx:CV.g6 xs=true)(hd:CV.jV xs<=6)(hy:CV.g6 ys=true)(lC:CV.jV ys<=6):jj (d+2) .NotEq (.cB [.ab k,.ab k']) (.cB [.ab l,.ab l']) st (.bool false) st:=λA own s x y q S ra rb=>by obtain⟨a,vs,n,rfl,_,_,ho,v1,_,rfl,r1,v2,_,rfl,r2,rfl⟩:=ra;obtain⟨b,ws,m,rfl,_,_,gO,w1,_,rfl,r1',w2,_,rfl,r2',rfl⟩:=rb;exact RcNeAt.tuples (e:=λu=>true) ⟨_,ho,rfl,n,rfl⟩ ⟨_,gO,rfl,m,rfl⟩ q.units (λj h1 h2=>match j,h1,h2 with|0,_,_=>(t8 (d:=d) (A:=A.in1) (Rm.in1 q) S hk hl hx hd r1 r1')|1,_,_=>t8 (d:=d) (A:=A.in1) (Rm.in1 q) S we nP hy lC r2 r2') _ _ _ _ ⟨own,.refl,S,rfl⟩
end
theorem pK {it t:ai}{items:Array an}{prog:q9}{w:pM}{A:Around}{E:an->az->Prop}(cz:t≠it):∀(n i:Nat)(s:az)(Q:List an->az->Prop),s.heap.IsListIter it t i->s.heap.IsList t items->i+n<=items.size->(∀h',h'.IsListIter it t (i+n)->sJ it s.heap h'->Q ((items.toList.drop i).take n) {s with heap:=h' })->be (aQ prog w) A (PySem.draw (.ref it) n) Q E s
 |0,i,s,Q,i3,_,_,hQ=>by exact bH (by simpa using hQ s.heap i3 (sJ.refl ..))|n+1,i,s,Q,i3,ht,d6,hQ=>by
  have aZ:i<items.size:=by exact ah [_,_,_] (.le (.a .o<|.a .i .j) .u<|.g 1 0<|.lt .o .u) rfl d6
  refine aB<|wpAny_pyNext_list_item i3 ht (x:=items[i]) (by simp [aZ]) λc9 MY qx=>?_;refine aB<|vN<|pK cz n (i+1) _ _ MY (ht.extBut qx.extBut cz) (ah [_,_,_,_] (.le (.a .o<|.a .i .u) .w<|.g 1 0<|.le (.a (.a .o .u) .i) .w) rfl d6) λgf hit₂ AV=>bH ?_;have hd:items.toList.drop i=items[i]::items.toList.drop (i+1):=by simp [Ky,aZ]
  have:=hQ gf (by rw[show i+(n+1)=i+1+n by exact ah [_,_,_] (.g 1 1<|.eq (.a .o<|.a .i .u)<|.a (.a .o .u) .i) rfl];exact hit₂)<|qx.trans AV;rw[hd,RV] at this;exact this
theorem eI {k:Nat}{xs:List CV}{st:List ae}(hk:st[k]?=some (.list xs)):Gf d (.ab k) xs.length st xs st:=λA own s x q S r=>by
 obtain⟨a,vs,n,rfl,ha,ho,hr,hl⟩:=S.kY hk r;have bn:vs.toArray.size=xs.length:=by rw[ig,hl]
 rw[<-bn];have ht:s.heap.IsList a vs.toArray:=⟨_,ho,rfl,n,rfl⟩;have aZ:=pQ<|sE ho;unfold PySem.unpackItems;apply aB;unfold PySem.notIterableAtAll;refine aB<|wpAny_specialOf ht.typeIs slot_list_iter.lookup ?_;apply bH;simp [gJ];refine aB<|vN<|wpAny_pyIter_list ht ?_;refine aB<|vN<|pK aZ (vs.toArray).size 0 _ _ ⟨_,iy _ rfl,rfl,rfl⟩ (ht.push _) (ah [_] (.g 1 0<|.le (.a .k .o) .o) rfl) λc9 MY qx=>?_;have hall:z6 (vs.toArray).size (rq 0 (vs.toArray).toList)=(vs.toArray).toList:=by exact sQ▸uc (by simp)
 rw[hall,if_neg<|by simp];have ht₁:=(ht.push _).extBut qx.extBut aZ;refine aB<|vN<|wpAny_pyNext_list_end q.1 MY ht₁ (by simp) λgf M0=>?_;simp [if_false];have we:=λb o e=>M0 b o (pQ<|sE e)<|qx.extBut b o (pQ<|sE e)<|fT _ e;have E1:a9 own s own {s with heap:=gf,toks:=s.toks }:=a9.more we;exact bH ⟨own,E1,S.more (t:=s.toks) we,aF.aM E1.aM _ hr⟩
end
section
variable {d:Nat}{c:aY}
noncomputable def HY {α:Type}(out:Nat->α->List CV):Nat->List α->List CV
 |_,[]=>[]|i,x::xs=>out i x++HY out (i+1) xs
theorem pV {α:Type}{out:α->List CV}:∀{xs:List α} {i},HY (λ_=>out) i xs=xs.flatMap out
 |[],_=>rfl|x::xs,i=>by rw[aab,<-pV];rfl
theorem eR {m:Nat}{a b:List CV}(h1:CV.cV m a=true)(h2:CV.cV m b=true):CV.cV m (a++b)=true:=An.mpr λz hz=>(f7.mp hz).elim (An.mp h1 z)<|An.mp h2 z
theorem lv {α:Type}{e:aq}{k n:Nat}{P:List ae->Prop}{xs:List α}{φ:α->CV}{out:Nat->α->List CV}{T:Nat->List ae}{m:Nat}{Fr:List ae->Prop}(hP:∀i acc F,P (T i++.list acc::F))(ho:∀i v,xs[i]?=some v->CV.cV m (out i v)=true) (ht:∀i v acc F,xs[i]?=some v->CV.cV m acc=true->acc.length+(out i v).length<=2^20->Fr F->∃F',Fr F'∧∀zs ag,jS d c e k n P zs (T (i+1)++.list (acc++out i v)::F') ag->jS d c e k n P (φ v::zs) (T i++.list acc::F) ag):∀ys i acc F,xs.drop i=ys->Fr F->CV.cV m acc=true->acc.length+(HY out i ys).length<=2^20->∃F',Fr F'∧jS d c e k n P (ys.map φ) (T i++.list acc::F) (T (i+ys.length)++.list (acc++HY out i ys)::F')
 |[],i,acc,F,hd,hF,ha,hb=>⟨F,hF,by rw[HY,dM];exact .nil<|hP _ _ _⟩|y::ys,i,acc,F,hd,hF,ha,hb=>by
  have hx:xs[i]?=some y:=by have:=sL (xs:=xs) (i:=i) (j:=0);rw[hd] at this;simpa using this.symm
  rw[HY,dJ] at hb;obtain⟨F',hF',k1⟩:=ht i y acc F hx ha (ah [_,_,_] (.le (.a .o<|.a .i .u) (.n<|2^20)<|.g 1 0<|.le (.a .o .i)<|.n<|2^20) rfl hb) hF;obtain⟨F2,hF2,k2⟩:=lv hP ho ht ys (i+1) (acc++out i y) F' (by rw[<-Ki,hd];rfl) hF' (eR ha<|ho i y hx) (by rw[dJ];exact ah [_,_,_] (.le (.a .o<|.a .i .u) (.n<|2^20)<|.g 1 0<|.le (.a (.a .o .i) .u)<|.n<|2^20) rfl hb);refine⟨F2,hF2,?_⟩;rw[show i+(y::ys).length=(i+1)+ys.length by rw[dO];exact ah [_,_,_] (.g 1 1<|.eq (.a .o<|.a .i .u)<|.a (.a .o .u) .i) rfl,HY,<-eJ];exact k1 _ _ k2
theorem lU {m k:Nat}{s₁ F:List ae}{v:CV}(hm:s₁.length=m)(hk:k<=m)(b9:(s₁.all λo=>o.lo m)=true)(hv:v.lo m=true):Mk k m (s₁++F) v s₁ v:=by subst hm;refine Ml (aK s₁.length) xF (NI b9) (CV.kR (λk hk=>uR hk) v hv) ?_ (by simp);rw[aaz,zH hk]
abbrev J4 (c:aY)(e:aq)(scope:d8)(cl:List (Str×Nat)):Prop:=kX e=true∧scope.kind=.function∧(scope.names.all λx=>x.2 != .local||scope.names.lookup x.1==some .local)=true∧mW c.cells scope.names []=some cl
theorem gw {elt:aq}{g:oF}{gs:List oF}{scope:d8}{pos:Pos}{st T T':List ae}{n:Nat}{items out:List CV}{P:List ae->Prop}{a:CV}{cl:List (Str×Nat)}(J:J4 c (.ListComp elt (g::gs) scope pos) scope cl) (hi:a8 d c g.iter st a T)(hs:Nonempty (iY a items P))(hP:P T)(hT:T.length=n)(hT':T'.length=n)(d6:st.length<=n)(b9:(T'.all λo=>o.lo n)=true)(yZ:CV.cV (n+1) out=true) (run:∃F',(∃w,F'[0]?=some (ae.frame w))∧jS d (cI c scope (n+1) cl) (.ListComp elt (g::gs) scope pos) n 0 P items (T++ae.list []::dU scope []) (T'++ae.list out::F')):b41 d c (.ListComp elt (g::gs) scope pos) st (.ab n) (T'++[ae.list out]):=by
 obtain⟨F',⟨w,hw⟩,run⟩:=run;subst hT;have E:T'++.list out::F'=(T'++[.list out])++F':=by rw[eJ];rfl
 have hm:(T'++[ae.list out]).length=T.length+1:=by rw[dJ,hT'];rfl
 suffices J:uF d c (.ListComp elt (g::gs) scope pos) st (.ab T.length) (T'++[.list out]) scope pos g gs cl a T (T'++.list out::F') items P from⟨GN J,VR J⟩;exact{sc:=rfl,cls:=rfl,qp:=J.1,kind:=J.2.1,names:=J.2.2.1,d3:=J.2.2.2,iter:=hi,src:=hs,GK:=hP,run:=(by rwa[eJ]),fr:=⟨w,(by rw[E,dT (by lia),hm,fk,hw])⟩,qr:=(E▸lU hm (ah [_,_,_] (.le .o .i<|.g 1 0<|.le .o<|.a .i .u) rfl d6) (cC (Bl (ke _) b9)<|BS yZ) (decide_eq_true<|rg _))}
theorem ec {elt:aq}{tg iter:aq}{ifs fJ} {scope:d8}{pos:Pos}{st T:List ae}{n m:Nat}{items:List CV}{P:List ae->Prop}{a:CV}{cl:List (Str×Nat)}{F:Nat->List ae}{gs:List (List CV)}(J:J4 c (.ListComp elt [⟨tg,iter,ifs,fJ⟩] scope pos) scope cl)(hifs:ifs=[]) (hi:a8 d c iter st a T)(hs:Nonempty (iY a items P))(hP:∀x,P (T++x))(hT:T.length=n)(d6:st.length<=n)(b9:(T.all λo=>o.lo n)=true)(hF:∀i,(F i).length=m+1)(hF0:F 0=dU scope [])(C9:∀i,∃w,(F i)[0]?=some (ae.frame w)) (hl:gs.length=items.length)(hg:∀g∈gs,CV.cV 0 g=true)(bn:items.length<=2^20) (Bk:∀i x,items[i]?=some x->dj d (cI c scope (n+1) cl) tg x (T++ae.list (dX (n+2+m) i)::(F i++(gs.take i).map .list)) (T++ae.list (dX (n+2+m) i)::(F (i+1)++(gs.take i).map .list))) (po:∀i x,items[i]?=some x->a8 d (cI c scope (n+1) cl) elt (T++ae.list (dX (n+2+m) i)::(F (i+1)++(gs.take i).map .list)) (.ab (n+2+m+i)) (T++ae.list (dX (n+2+m) i)::(F (i+1)++(gs.take (i+1)).map .list))):b41 d c (.ListComp elt [⟨tg,iter,ifs,fJ⟩] scope pos) st (.ab n) (T++ae.list (dX (n+1) items.length)::gs.map .list):=by
 subst hT;subst hifs;have run:∀ys i,items.drop i=ys->jS d (cI c scope (T.length+1) cl) (.ListComp elt [⟨tg,iter,[],fJ⟩] scope pos) T.length 0 P ys (T++.list (dX (T.length+2+m) i)::(F i++(gs.take i).map .list)) (T++.list (dX (T.length+2+m)<|i+ys.length)::(F (i+ys.length)++(gs.take<|i+ys.length).map .list)):=λys=>by
  induction ys with
  |nil=>exact λi _=>.nil (hP _)|cons y ys ih=>
   intro i hd;have hx:items[i]?=some y:=by have:=sL (xs:=items) (i:=i) (j:=0);rw[hd] at this;simpa using this.symm
   have aZ:=(bV.mp hx).1;have r:=ih (i+1) (by rw[<-Ki,hd];rfl);have M:=GO (gens:=[⟨tg,iter,[],fJ⟩]) (sc:=scope) (pos:=pos) (po i y hx) (k:=T.length) (xs:=dX (T.length+2+m) i) (by rw[dT<|aG _,fk];rfl) (by rw[dX,aV,fb];exact sF aZ<|fC bn<|by decide);have e:(T++ae.list (dX (T.length+2+m) i)::(F (i+1)++(gs.take<|i+1).map ae.list)).set T.length (.list<|dX (T.length+2+m) i++[CV.ab<|T.length+2+m+i])=T++ae.list (dX (T.length+2+m)<|i+1)::(F (i+1)++(gs.take<|i+1).map ae.list):=by rw[Fl _ _<|aG _,fk];rw[show dX (T.length+2+m) (i+1)=dX (T.length+2+m) i++[CV.ab<|T.length+2+m+i] by rw[dX,abK,fU];rfl];rfl
   rw[e] at M;rw[show i+(y::ys).length=(i+1)+ys.length by rw[dO];exact ah [_,_,_] (.g 1 1<|.eq (.a .o<|.a .i .u)<|.a (.a .o .u) .i) rfl];exact .wk (hP _) rfl rfl (Bk i y hx) oT M r
 have r:=run items 0 rfl;rw[lq,uc<|ll hl] at r;generalize hq:items.length=q at *;suffices J:uF d c (.ListComp elt [⟨tg,iter,[],fJ⟩] scope pos) st (.ab T.length) (T++.list (dX (T.length+1) q)::gs.map .list) scope pos ⟨tg,iter,[],fJ⟩ [] cl a T (T++.list (dX (T.length+2+m) q)::(F q++gs.map .list)) items P from⟨GN J,VR J⟩;obtain⟨w,hw⟩:=C9 q;have hFq:=hF q;refine{sc:=rfl,cls:=rfl,qp:=J.1,kind:=J.2.1,names:=J.2.2.1,d3:=J.2.2.2,iter:=hi,src:=hs,GK:=dM T▸hP [],run:=?_,fr:=⟨w,(by rw[dT (by lia),show T.length+1-T.length=0+1 by lia,re,d2 (by lia),hw])⟩,qr:=?_}
 ·rw[eJ,<-hF0];have e:F 0++([]:List (List CV)).map ae.list=F 0:=dM _;rw[aar,e] at r;exact r
 have hn:(aK T.length++T.length::fc (T.length+2+m) q).Nodup:=by
  rw[xz];refine⟨xF,zJ.mpr ⟨λh=>by have:=(aah.mp h).1;exact ah [_,_] (.le (.a (.a .o<|.n 2) .i) .o<|.g 0 0 .f) rfl this,List.nodup_range'⟩,λa ha b hb=>?_⟩;have:=gz.mp ha;rcases pO.mp hb with rfl|h
  ·exact ah [_,_] (.lt .o .i<|.g (-1) 0<|.no<|.eq .o .i) rfl this
  have:=(aah.mp h).1;exact ah [_,_,_,_,_] (.le (.a (.a .o .i) .u) .w<|.lt .x .o<|.g (-1) 0<|.no<|.eq .x .w) rfl this (by assumption)
 have pk:∀i,i<q->eW (aK T.length++T.length::fc (T.length+2+m) q) (T.length+2+m+i)=some (T.length+1+i):=λi hi=>gr _ _ _ hn (by rw[dT (by simp;exact ah [_,_,_] (.g 1 0<|.le .o<|.a (.a .o .i) .u) rfl),fb,show T.length+1+i-T.length=i+1 by lia,re,aqG hi,Nat.one_mul]);refine Ml (aK T.length++T.length::fc (T.length+2+m) q) hn (aoS rfl b9 hn (cq (gq (o:=.list<|dX (T.length+2+m) q) (by rw[dT<|aG _,fk];rfl)<|fz ?_)<|wI (by rw[aV,aqW];exact hl) λi k o h1 h2=>?_)) (ij<|gr _ _ _ hn<|by rw[dT (by simp),fb,fk];rfl) (by rw[aaR (by simpa using d6),aaz,zH d6]) ?_
 ·have h9:∀(r i:Nat),(∀j,i<=j->j<i+r->j<q)->CV.gn (eW<|aK T.length++T.length::fc (T.length+2+m) q) ((fc i r).map λi=>CV.ab<|T.length+2+m+i)=some ((fc i r).map λi=>CV.ab<|T.length+1+i):=λr=>by induction r with|zero=>intro i _;rfl|succ r ih=>exact λi h=>gC (ij<|pk i<|h i (aG _)<|ah [_,_] (.g 1 0<|.lt .o<|.a .o<|.a .i .j) rfl)<|ih (i+1) λj h1 h2=>h j (ah [_,_,_] (.le (.a .o .i) .u<|.g 1 0<|.le .o .u) rfl h1)<|ah [_,_,_,_] (.lt .o (.a (.a .i .u) .w)<|.g 1 0<|.lt .o<|.a .i<|.a .w .u) rfl h2
  have e9:∀p,dX p q=(fc 0 q).map λi=>CV.ab (p+i):=λp=>by rw[dX,pW]
  rw[e9,e9];exact h9 q 0 (by lia)
 ·have hi:i<q:=by simpa using ((bV.mp h1).1)
  rw[aqG hi] at h1;obtain rfl:=dE h1;have jl:i<gs.length:=hl▸hi;rw[dN,bA jl] at h2;obtain rfl:=dE h2;refine gq (o:=.list gs[i]) ?_<|fz<|tM<|hg _<|Rs _;rw[dT (by lia),show T.length+2+m+1*i-T.length=(m+1+i)+1 by lia,re,dT (by lia),hFq,show m+1+i-(m+1)=i by lia,dN,bA jl];rfl
 intro h;rcases f7.mp h with h|h
 ·have:=gz.mp h;exact ah [_,_] (.lt (.a .o .i) .o<|.g 0 0 .f) rfl this
 rcases pO.mp h with h|h
 ·exact ah [_] (.eq (.a .o .j) .o<|.g 0 0 .f) rfl h
 have:=(aah.mp h).1;exact ah [_,_] (.le (.a (.a .o<|.n 2) .i) (.a .o .j)<|.g 0 0 .f) rfl this
end
section
variable {d:Nat}
theorem Qd:pd 281 "get_all" 220 dGA fGA:=tA (by kernel_rfl) (by kernel_rfl) (by kernel_rfl) (iM (by kernel_rfl) (by kernel_rfl)<|by decide +kernel)
def Ef (hs:List (Str×Str))(x:Str):List Str:=(hs.filter λp=>d4 (bZ p.1) (bZ x)).map (·.2)
def gaC:aq:=iL (g7 dGA.body 1)
def gaT (hs:List (Str×Str))(y:Str):List ae:=bB hs++[.frame [("self",.ab 1)],.cell (some (.str y))]
theorem L9 {n:Nat}(hn:3<=n):((gaT hs y).all λo=>o.lo n)=true:=by apply cC<|Bl hn uY;rw[bU,bU,cG,cP];show((decide (1<n)&&true)&&true)=true;rw[decide_eq_true<|by lia];rfl
theorem IO {y:Str}(u0:∀p∈hs,pU (bZ p.1).length=false)(hl:hs.length<=1000000):a8 d (da dGA.scope 3 none) gaC (gaT hs y) (.ab 5) (gaT hs y++[.list ((hs.filter λp=>d4 (bZ p.1) y).map λp=>.str p.2)]):=by
 refine oJ<|b30 (cl:=[("name",4)]) (P:=λst=>st[2]?=some (.list<|hs.map br)) (a:=.ab 2) (xs:=hs) (λp=>d4 (bZ p.1) y) (λp=>CV.str p.2) br ⟨⟨by rfl',by rfl',by rfl',by rfl',by rfl'⟩,by rfl',?_,⟨rI 2 _⟩,λg=>rfl,rfl,aG _,L9 (by decide),by rw[aV];exact fC hl<|by decide⟩ ?_
 ·exact dk (sc:=[.val<|.ab 2]) (by rfl')<|am (HP) aX
 intro p hp acc _;obtain⟨k,v⟩:=p;have lw:=Wr (d:=d) (st:=gaT hs y++[.list acc,.frame [("kv",br (k,v))]])<|u0 (k,v) hp;refine⟨ms ?_,λ_=>?_,rfl⟩
 ·generalize bZ k=z at *;exact nX (sc:=[.val<|.str k,.bg (.bi "str.lower") [.str k],.val<|.str z]) (by rfl')<|am lw<|am gP<|am MO<|am (afj (j:=0) (by decide) rfl rfl) aX
 exact dk (sc:=[.val<|.str v]) (by rfl')<|am (afj (j:=1) (by decide) rfl rfl) aX
theorem Qf {x:Str}(u0:∀p∈hs,pU (bZ p.1).length=false)(hl:pU (bZ x).length=false)(hx:bY (bZ x))(hn:hs.length<=1000000):bM (d+4) (.aH 220) [.ab 1,.str x] [] (bB hs) (.ab 3) (bB hs++[ax (Ef hs x)]):=by
 have C:=IO (d:=d+2) (y:=bZ x) u0 hn;have e:(hs.filter λp=>d4 (bZ p.1)<|bZ x).map (λp=>CV.str p.2)=(Ef hs x).map CV.str:=by rw[Ef,fV];rfl
 rw[e] at C;have lw:=λst=>Wr (d:=d+2) (st:=st) hl;generalize Ef hs x=L at *;generalize bZ x=y at *;have B:aI (d+2) (da dGA.scope 3 none) dGA.body (bB hs++[.frame [("self",.ab 1)],.cell<|some<|.str x]) (.ret<|.ab 5) (gaT hs y++[ax L]):=
  aW (sc:=[.bg (.aH 182) [.ab 1],.bg (.bi "str.lower") [.str x],.val<|.str y,.val<|.str y,.aE (.ab 5)<|gaT hs y++[ax L]]) (by rfl')
   (am C<|am (DG (b:=true) hx)<|am (cK qD.bj)<|am (lw _)<|am gP<|am MO<|am (DF) aX)
 have hb:db fGA (bB hs) [.ab 1,.str x] [] [("self",.ab 1),("name",.str x)] (bB hs):=qA (λv1 v2 S=>by kernel_rfl) gF;have c:=Qd.fn.code (tab:=none) (ag:=gaT hs y++[ax L]) hb (by kernel_rfl) nofun (by rw[dM];exact B) (.inl rfl) (by show 3<=6;decide) (cC (L9<|by show 3<=6;decide)<|BS<|cJ L) rfl;exact c.qr<|yk [0,1,2,5] (by decide) (cq rfl (cq rfl (cq (fz<|na _ _)<|cq (fz<|yM _ _) iF))) rfl rfl
theorem Em {st:List ae}{a:ai}{rest L:List CV}{i0 i1 i2:Nat}(h:bM d (.aH a) (.ab 1::rest) [] (bB hs) (.ab 3) (bB hs++[.list L]))(hL:CV.cV 0 L=true)(hA:om st i0 i1 i2 hs)(hr:CV.cV 0 rest=true):bk d (.aH a) (.ab i1::rest) [] st (.ab st.length) (st++[.list L]):=by
 have DS:i0≠i1:=λe=>by have:=hA.h1;rw[<-e,hA.h0] at this;cases this
 have Bg:i0≠i2:=λe=>by have:=hA.h2;rw[<-e,hA.h0] at this;cases this
 have Bh:i1≠i2:=λe=>by have:=hA.h2;rw[<-e,hA.h1] at this;cases this
 have hn:[i0,i1,i2].Nodup:=by simp [DS,Bg,Bh]
 refine(h.wR [i0,i1,i2] hn ?_ rfl ?_ rfl (cq (fz<|tM hL) iF) (ij<|nf (j:=3) (i:=0) rfl)).call
 ·unfold g4;exact cq (gq hA.h0<|uv<|gr _ 2 _ hn rfl)<|cq (gq hA.h1<|rE<|gr _ 0 _ hn rfl)<|cq (gq hA.h2<|fz<|na _ _) iF
 exact gC (ij<|gr _ 1 _ hn rfl)<|tM hr
theorem si:∀{d} {st} {i0 i1 i2} {hs},om st i0 i1 i2 hs->gM d "get_all" (.ab i1) st (.aH 220) [.ab i1]:=λhA=>ta (Dv) hA.h1 hA.h0 rfl (Qd).find (Qd).ty
theorem w9 {st:List ae}{x:Str}{i0 i1 i2:Nat}(hA:om st i0 i1 i2 hs)(mZ:∀p∈hs,bY p.1)(hx:bY x)(hn:hs.length<=1000000):bk (d+4) (.aH 220) [.ab i1,.str x] [] st (.ab st.length) (st++[ax (Ef hs x)]):=
 Em (Qf (λp hp=>(uZ<|mZ p hp).2.1) (uZ hx).2.1 (uZ hx).1 hn) (cJ _) hA rfl
theorem zb:jz X.K (.ref 220)=true:=iG (by kernel_rfl)
end
section
variable {d:Nat}
noncomputable def dh:List Bool->List Nat->List Nat->List Nat->List Nat×List Nat
 |b::bs,x::xs,e,l=>cond b (dh bs xs (i31 false x e) l) (dh bs xs e (i31 true x l))|_,_,e,l=>(e,l)
theorem zd {r:Bool}{x:Nat}{ns:List Nat}:(i31 r x ns).length=ns.length+1:=by rw[i31,dJ,dO,nG,jA];exact kN _ _
theorem SR:gu 318 dDE fDE:=iM (by kernel_rfl) (by kernel_rfl) (by decide +kernel)
abbrev cDE:aY:=da dDE.scope 3 none
noncomputable def deT (e0 l0 s:List Nat)(bs:List Bool)(kv:List (Str×CV))(e l:List Nat):List ae:=[a0 e0,a0 l0,a0 s,.frame (("word",.str (bh bs))::("spare",.ab 2)::("late",.ab 5)::("early",.ab 4)::kv),a0 e,a0 l]
noncomputable def kvK:Option Nat->List (Str×CV)
 |none=>[]|some k=>[("k",af k)]
def Eu:aq×aq×List bl:=dc dDE.body
theorem gT (bs:List Bool){k:Nat}{b:Bool}(h:bs[k]?=some b):(cQ (bh bs))[k]?=some (cond b "(" ")"):=by show((bs.map λb=>if b then 40 else 41).map λc=>(⟨#[c]⟩:Str))[k]?=_;rw[fV,dN,h];cases b<;>rfl
theorem ME:jz X.K (.ref 107)=true:=iG (by kernel_rfl)
theorem Ex:jz X.K (.ref 89)=true:=iG (by kernel_rfl)
section
variable {e0 l0 s:List Nat}{bs:List Bool}
theorem IP {k x:Nat}{b:Bool}{e l:List Nat}(hx:s[k]?=some x)(hb:bs[k]?=some b)(hs:s.length<2^17)(he:e.length<2^17)(hl:l.length<2^17):aI (d+5) cDE Eu.2.2 (deT e0 l0 s bs (kvK (some k)) e l) .next (deT e0 l0 s bs (kvK (some k)) (cond b (i31 false x e) e) (cond b l (i31 true x l))):=by have hk:=(bV.mp hx).1;have sg:=gT bs hb;cases b with|true=>exact aW (sc:=[.val<|.str "(",.yes,.val<|af x,.c7 .none λst=>st.set 4<|a0<|i31 false x e]) rfl (am (i32 false rfl he)<|am (cK ME)<|am (jL rfl hx (ah [_] (.lt .o (.n<|2^17)<|.g 1 0<|.lt .o<|.n<|2^40) rfl hs))<|am rfl (am (wS sg<|ah [_,_] (.lt .o (.n<|2^17)<|.lt .i .o<|.g 1 0<|.lt .i<|.n<|2^40) rfl hs hk) aX))|false=>exact aW (sc:=[.val<|.str ")",.no,.val<|af x,.c7 .none λst=>st.set 5<|a0<|i31 true x l]) rfl (am (i32 true rfl hl)<|am (cK Ex)<|am (jL rfl hx (ah [_] (.lt .o (.n<|2^17)<|.g 1 0<|.lt .o<|.n<|2^40) rfl hs))<|am rfl (am (wS sg<|ah [_,_] (.lt .o (.n<|2^17)<|.lt .i .o<|.g 1 0<|.lt .i<|.n<|2^40) rfl hs hk) aX))
theorem ze (hs:s.length<2^17)(hbs:bs.length=s.length):∀xs cs k kv e l,s.drop k=xs->bs.drop k=cs->e.length+xs.length<2^17->l.length+xs.length<2^17->∃i9,fG (d+5) cDE Eu.1 Eu.2.2 (λu=>True) ((fc k xs.length).map af) (deT e0 l0 s bs (kvK kv) e l) .next (deT e0 l0 s bs (kvK i9) (dh cs xs e l).1 (dh cs xs e l).2)
 |[],cs,k,kv,e,l,h1,h2,h3,h4=>⟨kv,by cases cs<;>exact .nil trivial⟩|x::xs,[],k,kv,e,l,h1,h2,h3,h4=>by have:=congrArg oG h1;have h5:=congrArg oG h2;rw[jA] at this h5;rw[hbs,this] at h5;nomatch h5|x::xs,b::cs,k,kv,e,l,h1,h2,h3,h4=>by
  have g:∀{α:Type} {ys:List α} {y r},ys.drop k=y::r->ys[k]?=some y∧ys.drop (k+1)=r:=λ{α ys y r} h=>⟨by have:=sL (xs:=ys) (i:=k) (j:=0);rw[h] at this;simpa using this.symm,by rw[<-Ki,h];rfl⟩;have T:=IP (d:=d) (e0:=e0) (l0:=l0) (g h1).1 (g h2).1 hs (q7 (vH _ _) h3)<|q7 (vH _ _) h4;rw[dO] at h3 h4;obtain⟨i9,L⟩:=ze hs hbs xs cs (k+1) (some k) (cond b (i31 false x e) e) (cond b l<|i31 true x l) (g h1).2 (g h2).2 (by cases b;exact (by show e.length+_<_;exact ah [_,_,_] (.lt (.a .o<|.a .i .u) (.n<|2^17)<|.g 1 0<|.lt (.a .o .i)<|.n<|2^17) rfl h3);rw[show (cond true (i31 false x e) e)=i31 false x e from rfl,zd];exact ah [_,_,_] (.lt (.a .o<|.a .i .u) (.n<|2^17)<|.g 1 0<|.lt (.a (.a .o .u) .i)<|.n<|2^17) rfl h3) (by cases b;rw[show (cond false l<|i31 true x l)=i31 true x l from rfl,zd];exact ah [_,_,_] (.lt (.a .o<|.a .i .u) (.n<|2^17)<|.g 1 0<|.lt (.a (.a .o .u) .i)<|.n<|2^17) rfl h4;exact (by show l.length+_<_;exact ah [_,_,_] (.lt (.a .o<|.a .i .u) (.n<|2^17)<|.g 1 0<|.lt (.a .o .i)<|.n<|2^17) rfl h4));refine⟨i9,?_⟩;have A:dj (d+5) cDE Eu.1 (af k) (deT e0 l0 s bs (kvK kv) e l) (deT e0 l0 s bs (kvK<|some k) e l):=by cases kv<;>exact i4 (sc:=[]) (by rfl) aX
  rw[dO,mO,eC,show dh (b::cs) (x::xs) e l=dh cs xs (cond b (i31 false x e) e) (cond b l<|i31 true x l) by cases b<;>rfl];exact .cons trivial A T (.inl rfl) L
theorem zf (xs:List CV):e7 xs none none none=xs:=by rw[Hf];simp [eZ,i5,B7]
theorem fK {n:Nat}(xs:List Nat):(([a0 xs]).all λo=>o.lo n)=true:=BS<|k8 xs
theorem Qj (hs:s.length<2^16)(hbs:bs.length=s.length)(he:e0.length<2^16)(hl:l0.length<2^16):bM (d+7) (.aH 318) [.ab 0,.ab 1,.ab 2,.str (bh bs)] [] [a0 e0,a0 l0,a0 s] (.cB [.ab 3,.ab 4]) ([a0 e0,a0 l0,a0 s]++[a0 (dh bs s e0 l0).1,a0 (dh bs s e0 l0).2]):=by
 obtain⟨kv,L⟩:=ze (d:=d) (e0:=e0) (l0:=l0) (s:=s) (bs:=bs) (ah [_] (.lt .o (.n<|2^16)<|.g 1 0<|.lt .o<|.n<|2^17) rfl hs) hbs s bs 0 none e0 l0 rfl rfl (ah [_,_] (.lt .o (.n<|2^16)<|.lt .i (.n<|2^16)<|.g 1 0<|.lt (.a .o .i)<|.n<|2^17) rfl he hs) (ah [_,_] (.lt .o (.n<|2^16)<|.lt .i (.n<|2^16)<|.g 1 0<|.lt (.a .o .i)<|.n<|2^17) rfl hl hs);rw[<-pW] at L;generalize dh bs s e0 l0=r at *;have sl:∀{xs:List Nat} {k} {st:List ae} {e},st[k]?=some (a0 xs)->xs.length<2^16->fF (d+5) e (.ab k) (.sl [.none,.none,.none]) st (.ab st.length) (st++[a0 xs]):=λ{xs k st e} h hn=>by have:=Dd (d:=d+5) (e:=e) (st:=st) (k:=k) (xs:=(xs.map λm:Nat=>(m:Int)).map CV.int) (a:=.none) (b:=.none) (z:=.none) h rfl rfl rfl (λh=>by exact nS h) (by rw[aV,aV];show _<=2^24;exact ah [_] (.lt .o (.n<|2^16)<|.g 1 0<|.le .o<|.n<|2^24) rfl hn);rwa[zf] at this
 have F:dB (d+5) cDE (g7 dDE.body 1) (deT e0 l0 s bs (kvK none) e0 l0) .next (deT e0 l0 s bs (kvK kv) r.1 r.2):=
  (mE s.length<|ah [_] (.lt .o (.n<|2^16)<|.g 1 0<|.le .o<|.n<|2^20) rfl hs).elim λS=>mq S rfl (dk (sc:=[.val<|.int s.length,.val<|.fW 0 s.length 1]) (by rfl')<|am afo<|am yn<|am (YG rfl (ah [_] (.lt .o (.n<|2^16)<|.g 1 0<|.lt .o<|.n<|2^20) rfl hs))<|am gP aX) trivial L
 have B:aI (d+5) cDE dDE.body [a0 e0,a0 l0,a0 s,.frame [("word",.str<|bh bs),("spare",.ab 2),("late",.ab 1),("early",.ab 0)]] (.ret<|.cB [.ab 4,.ab 5]) (deT e0 l0 s bs (kvK kv) r.1 r.2):=
  aW (sc:=[.c7 (.ab 4) λst=>st++[a0 e0],.c7 (.ab 5) λst=>st++[a0 l0],.iX .next (deT e0 l0 s bs (kvK kv) r.1 r.2)]) (by rfl') (am wM<|am F<|am wM<|am (sl rfl hl)<|am (sl rfl he) aX)
 have hb:db fDE [a0 e0,a0 l0,a0 s] [.ab 0,.ab 1,.ab 2,.str<|bh bs] [] [("early",.ab 0),("late",.ab 1),("spare",.ab 2),("word",.str<|bh bs)] [a0 e0,a0 l0,a0 s]:=ahg (λv1 v2 v3 v4 S=>by kernel_rfl) gF;have c:=SR.code (tab:=none) (g:=[]) (ag:=deT e0 l0 s bs (kvK kv) r.1 r.2) hb (by kernel_rfl) nofun (by rw[dM];exact B) (.inl rfl) (by show 3<=6;decide) (by show((a0 e0).lo 6&&((a0 l0).lo 6&&((a0 s).lo 6&&(_&&((a0 r.1).lo 6&&((a0 r.2).lo 6&&true))))))=true;rw[k8,k8,k8,k8,k8];cases kv<;>rfl) rfl;have rn:∀{xs:List Nat} {f},(a0 xs).bI f=some (a0 xs):=λ{xs f}=>fz<|tM<|NT _;exact c.qr<|yk [0,1,2,4,5] (by decide) (cq rn<|cq rn<|cq rn<|cq rn<|cq rn iF) rfl rfl
end
end
section
variable {d:Nat}
theorem zg {xs:List Nat}(s:xs.Pairwise (·<·)){h i v:Nat}(hv:xs[i]?=some v):v<h↔i<Q.less xs h:=by cases h with|zero=>rw[Q.less_zero];exact⟨λh=>absurd h<|zY _,λh=>absurd h<|zY _⟩|succ t=>have:=Q.Ty (s.imp Nat.le_of_lt) i t (t+1)<|Nat.lt_succ_self t;rw[ed,hv] at this;exact Nat.lt_succ_iff.trans this.symm
theorem jr (xs:List Nat)(h:Nat):Q.less xs h<=xs.length:=abZ _ _
theorem Qk {xs:List Nat}(s:xs.Pairwise (·<·)){h i:Nat}(hi:i<=xs.length):cM (i03 false (h:Int)) xs (xs.length+1) i xs.length=max i (Q.less xs h):=by rw[i22 (K:=Q.less xs h) (λj v hv=>(by show decide ((v:Int)<h)=true↔_;rw[decide_eq_true_iff,xt];exact zg s hv)) _ _ _ (by lia) (aG _) hi,aai<|jr _ _]
theorem Ql {xs:List Nat}(s:xs.Pairwise (·<·)){h i:Nat}(hi:i<=xs.length):cM (i03 true ((h:Int)-1)) xs (xs.length+1) i xs.length=max i (Q.less xs h):=by rw[i22 (K:=Q.less xs h) (λj v hv=>(by show(!decide ((h:Int)-1<v))=true↔_;rw[<-zg s hv (h:=h),E0,decide_eq_false_iff_not];lia)) _ _ _ (by lia) (aG _) hi,aai<|jr _ _]
theorem ST:gu 330 dHA fHA:=iM (by kernel_rfl) (by kernel_rfl) (by decide +kernel)
abbrev cHA:aY:=da dHA.scope 3 none
noncomputable def haT (hs e l:List Nat)(i j:Nat)(hv:Option Nat)(eN:List Nat):List ae:=[a0 hs,a0 e,a0 l,.frame (("late",.ab 2)::("early",.ab 1)::("hours",.ab 0)::("j",af j)::("i",af i)::("told",.ab 4)::(match hv with|none=>[]|some h=>[("hour",af h)])),a0 eN]
def zh:aq×aq×List bl:=dc dHA.body
theorem IQ:jz X.K (.ref 116)=true:=iG (by kernel_rfl)
theorem M1:jz X.K (.ref 98)=true:=iG (by kernel_rfl)
theorem xc {xs:List Nat}{x:Nat}:ae.list ((xs.map λm:Nat=>(m:Int)).map CV.int++[af x])=a0 (xs++[x]):=by rw[a0,fU,fU];rfl
section
variable {hs e l:List Nat}
theorem IR {h i j i' j':Nat}{eN:List Nat}(he:e.length<2^16)(hl:l.length<2^16)(ht:eN.length<2^16)(se:e.Pairwise (·<·))(sl:l.Pairwise (·<·))(hi:i<=e.length)(hj:j<=l.length)(e1:max i (Q.less e h)=i')(e2:(if i'<e.length then max j (Q.less l (e.getD i' 0)) else l.length)=j'):(j'=l.length->aI (d+5) cHA zh.2.2 (haT hs e l i j (some h) eN) .brk (haT hs e l i' j' (some h) eN))∧(j'≠l.length->i'<e.length∧j'<l.length∧aI (d+5) cHA zh.2.2 (haT hs e l i j (some h) eN) .next (haT hs e l (i'+1) (j'+1) (some h) (eN++[l.getD j' 0]))):=by
 have B1:=i21 (d:=d+2) (st:=haT hs e l i j (some h) eN) (k:=1) (x:=(h:Int)) false rfl (ah [_] (.lt .o (.n<|2^16)<|.g 1 0<|.lt .o<|.n<|2^17) rfl he) hi;rw[Qk se hi,e1] at B1;have ln:∀{st:List ae} {k} {xs:List Nat},st[k]?=some (a0 xs)->xs.length<2^16->bk (d+5) (.bi "len") [.ab k] [] st (.int xs.length) st:=λh q=>YG h<|ah [_] (.lt .o (.n<|2^16)<|.g 1 0<|.lt .o<|.n<|2^20) rfl q;have le2:∀x,Q.less l x<=l.length:=jr l;by_cases q:i'<e.length
 ·rw[if_pos q] at e2;have hv:e[i']?=some (e.getD i' 0):=by rw[ed,bA q];rfl
  generalize e.getD i' 0=v at *;have B2:=i21 (d:=d+2) (st:=haT hs e l i' j (some h) eN) (k:=2) (x:=(v:Int)-1) true rfl (ah [_] (.lt .o (.n<|2^16)<|.g 1 0<|.lt .o<|.n<|2^17) rfl hl) hj;rw[Ql sl hj,e2] at B2;have q':decide ((i':Int)<(e.length:Int))=true:=decide_eq_true<|xt.2 q;refine⟨λz=>?_,λz=>?_⟩
  ·have z':((j':Int)==(l.length:Int))=true:=by rw[z];exact beq_self_eq_true _
   exact aW (sc:=[.val<|af i',.val<|.int e.length,.yes,.val<|af v,.val<|af j',.val<|.int l.length,.yes]) (by rfl')<|am z'<|am (ln rfl hl)<|am gP<|am B2<|am (cK M1)<|am (jL rfl hv (ah [_] (.lt .o (.n<|2^16)<|.g 1 0<|.lt .o<|.n<|2^40) rfl he))<|am q'<|am (ln rfl he)<|am gP<|am B1<|am (cK IQ) aX
  have z':((j':Int)==(l.length:Int))=false:=beq_eq_false_iff_ne.mpr λh=>z<|Int.ofNat_inj.1 h;have lt:j'<l.length:=Nat.lt_of_le_of_ne (e2▸Nat.max_le.2 ⟨hj,le2 v⟩) z;have hw:l[j']?=some (l.getD j' 0):=by rw[ed,bA lt];rfl
  generalize l.getD j' 0=w at *;refine⟨q,lt,?_⟩;have ap:=mX (d:=d+5) (st:=haT hs e l i' j' (some h) eN) (k:=4) (v:=af w) rfl (by rw[aV,aV];show _<2^24;exact ah [_] (.lt .o (.n<|2^16)<|.g 1 0<|.lt .o<|.n<|2^24) rfl ht);rw[xc] at ap;exact aW (sc:=[.val<|af i',.val<|.int e.length,.yes,.val<|af v,.val<|af j',.val<|.int l.length,.no,.bg (.bi "list.append") [.ab 4],.val<|af w,.c7 .none λst=>st.set 4<|a0<|eN++[w]]) (by rfl')<|am wM<|am ap<|am gP<|am (jL rfl hw (ah [_] (.lt .o (.n<|2^16)<|.g 1 0<|.lt .o<|.n<|2^40) rfl hl))<|am (jX rfl)<|am z'<|am (ln rfl hl)<|am gP<|am B2<|am (cK M1)<|am (jL rfl hv (ah [_] (.lt .o (.n<|2^16)<|.g 1 0<|.lt .o<|.n<|2^40) rfl he))<|am q'<|am (ln rfl he)<|am gP<|am B1<|am (cK IQ) aX
 rw[if_neg q] at e2;subst e2;have q':decide ((i':Int)<(e.length:Int))=false:=decide_eq_false<|λh=>q<|xt.1 h;refine⟨λ_=>?_,λz=>absurd rfl z⟩;exact aW (sc:=[.val<|af i',.val<|.int e.length,.no,.val<|.int l.length,.val<|.int l.length,.yes]) (by rfl')<|am (beq_self_eq_true _)<|am (ln rfl hl)<|am gP<|am (ln rfl hl)<|am gP<|am q'<|am (ln rfl he)<|am gP<|am B1<|am (cK IQ) aX
theorem zi (he:e.length<2^16)(hl:l.length<2^16)(se:e.Pairwise (·<·))(sl:l.Pairwise (·<·)):∀xs i j hv eN,eN.length+xs.length<2^16->i<=e.length->j<=l.length->∃i' j' kW,fG (d+5) cHA zh.1 zh.2.2 (λst=>st[0]?=some (a0 hs)) (xs.map af) (haT hs e l i j hv eN) .next (haT hs e l i' j' kW (eN++Q.halfGo e l xs i j))
 |[],i,j,hv,eN,h1,h2,h3=>⟨i,j,hv,by rw[Q.halfGo,dM];exact .nil rfl⟩|x::xs,i,j,hv,eN,h1,h2,h3=>by
  rw[dO] at h1;have T:=IR (d:=d) (hs:=hs) (h:=x) (eN:=eN) he hl (ah [_,_] (.lt (.a .o .i) (.n<|2^16)<|.g 1 0<|.lt .o<|.n<|2^16) rfl h1) se sl h2 h3 rfl rfl;have A:dj (d+5) cHA zh.1 (af x) (haT hs e l i j hv eN) (haT hs e l i j (some x) eN):=by cases hv<;>exact i4 (sc:=[]) (by rfl') aX
  rw[Q.halfGo];generalize max i (Q.less e x)=i' at *;generalize (if i'<e.length then max j (Q.less l<|e.getD i' 0) else l.length)=j' at *;by_cases z:j'=l.length
  ·rw[if_pos z,dM];exact⟨_,_,_,.brk rfl A (T.1 z)⟩
  obtain⟨t1,t2,t3⟩:=T.2 z;obtain⟨i2,j2,hv2,L⟩:=zi he hl se sl xs (i'+1) (j'+1) (some x) (eN++[l.getD j' 0]) (by rw[dJ];simp;exact ah [_,_,_] (.lt (.a .o<|.a .i .u) (.n<|2^16)<|.g 1 0<|.lt (.a (.a .o .u) .i)<|.n 65536) rfl h1) t1 t2;rw[if_neg z];rw[eJ] at L;exact⟨i2,j2,hv2,.cons rfl A t3 (.inl rfl) L⟩
theorem IS (hh:hs.length<2^16)(he:e.length<2^16)(hl:l.length<2^16)(se:e.Pairwise (·<·))(sl:l.Pairwise (·<·)):bM (d+7) (.aH 330) [.ab 0,.ab 1,.ab 2] [] [a0 hs,a0 e,a0 l] (.ab 3) ([a0 hs,a0 e,a0 l]++[a0 (Q.halfGo e l hs 0 0)]):=by
 obtain⟨i,j,hv,L⟩:=zi (d:=d) (hs:=hs) he hl se sl hs 0 0 none [] (by simpa using hh) (dQ _)<|dQ _;rw[xL] at L;generalize Q.halfGo e l hs 0 0=r at *;have e0:(hs.map λm:Nat=>(m:Int)).map CV.int=hs.map af:=by rw[fV];rfl
 rw[a0,<-e0] at L;have F:dB (d+5) cHA (g7 dHA.body 1) (haT hs e l 0 0 none []) .next (haT hs e l i j hv r):=mq (rI 0 _) rfl (dk (sc:=[]) (by rfl') aX) rfl L;have B:aI (d+5) cHA dHA.body [a0 hs,a0 e,a0 l,.frame [("late",.ab 2),("early",.ab 1),("hours",.ab 0)]] (.ret<|.ab 4) (haT hs e l i j hv r):=
  aW (sc:=[.iX .next (haT hs e l i j hv r)]) (by cases hv<;>rfl') (am F<|am (by decide:3<=cX)<|am (by decide:0<=cX) aX)
 have hb:db fHA [a0 hs,a0 e,a0 l] [.ab 0,.ab 1,.ab 2] [] [("hours",.ab 0),("early",.ab 1),("late",.ab 2)] [a0 hs,a0 e,a0 l]:=NL (λv1 v2 v3 S=>by kernel_rfl) gF;have c:=ST.code (tab:=none) (g:=[]) (ag:=haT hs e l i j hv r) hb (by kernel_rfl) nofun (by rwa[dM]) (.inl rfl) (by show 3<=5;decide) (by show((a0 hs).lo 5&&((a0 e).lo 5&&((a0 l).lo 5&&(_&&((a0 r).lo 5&&true)))))=true;rw[k8,k8,k8,k8];cases hv<;>rfl) rfl;have rn:∀{xs:List Nat} {f},(a0 xs).bI f=some (a0 xs):=λ{xs f}=>fz<|tM<|NT _;exact c.qr<|yk [0,1,2,4] (by decide) (cq rn<|cq rn<|cq rn<|cq rn iF) rfl rfl
end
end
section
variable {d:Nat}{c:aY}
theorem pX {more ns:List Str}{w:List (Str×CV)}(h:∀z∈more,z∈ns):fj ns (fj more w)=fj ns w:=by
 unfold fj;congr 1;rw[aqP,RY];have e1:(more.map λn=>((n,.any):Str×CV)).filter (λp=>!ns.contains p.1)=[]:=aac.mpr λp hp=>by obtain⟨z,hz,rfl⟩:=cu.mp hp;simp [h z hz]
 rw[e1,xL];refine aao λp _=>?_;cases h1:ns.contains p.1 with
 |true=>rfl|false=>
  have:more.contains p.1=false:=by cases h2:more.contains p.1 with|false=>rfl|true=>rw[ap9.mpr<|h _<|ap9.mp h2] at h1;exact nB' h1
  rw[this];rfl
section
variable {α:Type}{elt:aq}{gens:List oF}{scope:d8}{pos px:Pos}{T:List ae}{k n m:Nat}{P:List ae->Prop}{x:Str}{iter:aq}{ifs:List aq}{fJ:Int}{fv:List (Str×CV)}{xs:List α}{φ:α->CV}
theorem dZ {w:List (Str×CV)}{cc:aY}{e:aq}{acc:List CV}{z:CV}{zs:List CV}{ag:List ae}{q:List (Str×CV)} ns (hT:T.length=k)(hP:P (T++[ae.list acc,ae.frame w]))(hw:fj ns w=q)(h:jS d cc e k n P (z::zs) (T++[ae.list acc,ae.frame q]) ag):jS d cc e k n P (z::zs) (T++[ae.list acc,ae.frame w]) ag:=by apply jS.pre ns (H6 hT) hP;rwa[OK hT,hw]
theorem mH {cc:aY}{f:α->Bool}{ψ:α->CV}(hg:gens[n]?=some ⟨.Name x px,iter,ifs,fJ⟩)(hn:gens[n+1]?=none)(hT:T.length=k)(hl:cc.locals=k+1)(hx:cc.scope.names.lookup x=some .local)(hP:∀g,P (T++g)) (h:∀v∈xs,∀acc,CV.cV m acc=true->mr d cc ifs (T++[ae.list acc,ae.frame ((x,φ v)::fv)]) (f v) (T++[ae.list acc,ae.frame ((x,φ v)::fv)])∧(f v=true->a8 d cc elt (T++[ae.list acc,ae.frame ((x,φ v)::fv)]) (ψ v) (T++[ae.list acc,ae.frame ((x,φ v)::fv)]))∧(ψ v).lo m=true) (hfv:∀v,fj [x] ((x,v)::fv)=(x,CV.any)::fv):∀(ys:List α) acc w,(∀y∈ys,y∈xs)->fj [x] w=(x,CV.any)::fv->CV.cV m acc=true->acc.length+(ys.filter f).length<=2^20->∃w',fj [x] w'=(x,CV.any)::fv∧jS d cc (.ListComp elt gens scope pos) k n P (ys.map φ) (T++[ae.list acc,ae.frame w]) (T++[ae.list (acc++(ys.filter f).map ψ),ae.frame w'])
 |[],acc,w,_,hw,ha,hb=>⟨w,hw,by show jS _ _ _ _ _ _ [] _ (T++[.list<|acc++[],_]);rw[dM];exact .nil<|hP _⟩|y::ys,acc,w,hm,hw,ha,hb=>by
  obtain⟨h1,h2,h3⟩:=h y (hm y<|.head _) acc ha;have A:dj d cc (.Name x px) (φ y) (T++[.list acc,.frame<|(x,.any)::fv]) (T++[.list acc,.frame<|(x,φ y)::fv]):=by have:=y4 (d:=d) (c:=cc) (pos:=px) (g:=[]) (o:=.list acc) (fv:=(x,.any)::fv) (v:=φ y) hT hl hx;rwa[OT] at this
  cases q:f y with|false=>rw[q] at h1;obtain⟨w',AZ,r⟩:=mH hg hn hT hl hx hP h hfv ys acc ((x,φ y)::fv) (λz hz=>hm z<|.tail _ hz) (hfv _) ha (by rwa[sR,q] at hb);refine⟨w',AZ,dZ [x] hT (hP _) hw ?_⟩;exact sR▸q▸.skip (hP _) hg A h1 r|true=>rw[q] at h1;rw[sR,q] at hb;have hb:acc.length+((ys.filter f).length+1)<=2^20:=hb;obtain⟨w',AZ,r⟩:=mH hg hn hT hl hx hP h hfv ys (acc++[ψ y]) ((x,φ y)::fv) (λz hz=>hm z<|.tail _ hz) (hfv _) (eR ha<|An.mpr λz hz=>gV.mp hz▸h3)<|dJ▸Kt▸ah [_,_,_] (.le (.a .o<|.a .i .u) (.n<|2^20)<|.g 1 0<|.le (.a (.a .o .u) .i)<|.n<|2^20) rfl hb;refine⟨w',AZ,dZ [x] hT (hP _) hw ?_⟩;have M:=GO (gens:=gens) (sc:=scope) (pos:=pos) (h2 q) (ajt hT) (show acc.length<2^24 by lia);rw[X3 hT] at M;rw[eJ] at r;rw[sR,q];exact .wk (hP _) hg hn A h1 M r
theorem qe {cc:aY}{e:aq}{g':oF}{out:α->List CV} (more:List Str)(hg:(l9 e)[n]?=some ⟨.Name x px,iter,[],fJ⟩)(wo:(l9 e)[n+1]?=some g')(hT:T.length=k)(hl:cc.locals=k+1)(hx:cc.scope.names.lookup x=some .local)(hP:∀g,P (T++g)) (hfv:∀v,fj (x::more) (more.map (·,CV.any)++(x,v)::fv)=(x,CV.any)::(more.map (·,CV.any)++fv))(ho:∀v∈xs,CV.cV m (out v)=true) (h:∀v∈xs,∀acc,CV.cV m acc=true->acc.length+(out v).length<=2^20->∃a ys P' w',a8 d cc g'.iter (T++[ae.list acc,ae.frame ((x,φ v)::(more.map (·,CV.any)++fv))]) a (T++[ae.list acc,ae.frame ((x,φ v)::(more.map (·,CV.any)++fv))])∧Nonempty (iY a ys P')∧P' (T++[ae.list acc,ae.frame ((x,φ v)::(more.map (·,CV.any)++fv))])∧fj more w'=more.map (·,CV.any)++(x,φ v)::fv∧jS d cc e k (n+1) P' ys (T++[ae.list acc,ae.frame ((x,φ v)::(more.map (·,CV.any)++fv))]) (T++[ae.list (acc++out v),ae.frame w'])):∀(ys:List α) acc w,(∀y∈ys,y∈xs)->fj (x::more) w=(x,CV.any)::(more.map (·,CV.any)++fv)->CV.cV m acc=true->acc.length+(ys.flatMap out).length<=2^20->∃w',fj (x::more) w'=(x,CV.any)::(more.map (·,CV.any)++fv)∧jS d cc e k n P (ys.map φ) (T++[ae.list acc,ae.frame w]) (T++[ae.list (acc++ys.flatMap out),ae.frame w'])
 |[],acc,w,_,hw,ha,hb=>⟨w,hw,by rw[aaf,dM];exact .nil<|hP _⟩|y::ys,acc,w,hm,hw,ha,hb=>by
  rw[aab,dJ] at hb;obtain⟨a,zs,P',w1,h1,h2,h3,h4,h5⟩:=h y (hm y<|.head _) acc ha<|ah [_,_,_] (.le (.a .o<|.a .i .u) (.n<|2^20)<|.g 1 0<|.le (.a .o .i)<|.n<|2^20) rfl hb;have A:dj d cc (.Name x px) (φ y) (T++[.list acc,.frame<|(x,.any)::(more.map (·,.any)++fv)]) (T++[.list acc,.frame<|(x,φ y)::(more.map (·,.any)++fv)]):=by have:=y4 (d:=d) (c:=cc) (pos:=px) (g:=[]) (o:=.list acc) (fv:=(x,.any)::(more.map (·,.any)++fv)) (v:=φ y) hT hl hx;rwa[OT] at this
  obtain⟨w',AZ,r⟩:=qe more hg wo hT hl hx hP hfv ho h ys (acc++out y) w1 (λz hz=>hm z<|.tail _ hz) (by rw[<-pX (more:=more) (λz hz=>.tail _ hz),h4,hfv]) (eR ha<|ho y<|hm y<|.head _) (by rw[dJ];exact ah [_,_,_] (.le (.a .o<|.a .i .u) (.n<|2^20)<|.g 1 0<|.le (.a (.a .o .i) .u)<|.n<|2^20) rfl hb);refine⟨w',AZ,dZ (x::more) hT (hP _) hw ?_⟩;rw[eJ] at r;rw[aab];exact .LY (hP _) hg wo A oT h1 h2 h3 h5 r
end
theorem Ey {x1 x2:Str}{u v:CV}:fj [x1,x2] [(x2,u),(x1,v)]=[(x1,.any),(x2,.any)]:=by simp [fj]
theorem mL {α β:Type}{elt iter iter2:aq}{ifs2:List aq}{as1 as2} {scope:d8}{pos p1 p2:Pos}{x1 x2:Str}{T st:List ae}{n:Nat}{P:List ae->Prop}{a:CV}{cl:List (Str×Nat)}{xs:List α}{ys:α->List β}{φ1:α->CV}{φ2:β->CV}(ψ:α->β->CV)(f:α->β->Bool)(J:J4 c (.ListComp elt [⟨.Name x1 p1,iter,[],as1⟩,⟨.Name x2 p2,iter2,ifs2,as2⟩] scope pos) scope cl)(hF:dU scope []=[ae.frame []]) (tK:(nU scope c.scope).names.lookup x1=some .local)(OV:(nU scope c.scope).names.lookup x2=some .local)(cz:(x1==x2)=false) (hi:a8 d c iter st a T)(hs:Nonempty (iY a (xs.map φ1) P))(hP:∀g,P (T++g))(hT:T.length=n)(d6:st.length<=n)(b9:(T.all λo=>o.lo n)=true)(bn:(xs.flatMap λv=>((ys v).filter (f v)).map (ψ v)).length<=2^20) (AH:∀v∈xs,∀acc,CV.cV n acc=true->∃b P',a8 d (cI c scope (n+1) cl) iter2 (T++[ae.list acc,ae.frame [(x1,φ1 v),(x2,CV.any)]]) b (T++[ae.list acc,ae.frame [(x1,φ1 v),(x2,CV.any)]])∧Nonempty (iY b ((ys v).map φ2) P')∧∀g,P' (T++g)) (h:∀v∈xs,∀w∈ys v,∀acc,CV.cV n acc=true->mr d (cI c scope (n+1) cl) ifs2 (T++[ae.list acc,ae.frame [(x2,φ2 w),(x1,φ1 v)]]) (f v w) (T++[ae.list acc,ae.frame [(x2,φ2 w),(x1,φ1 v)]])∧(f v w=true->a8 d (cI c scope (n+1) cl) elt (T++[ae.list acc,ae.frame [(x2,φ2 w),(x1,φ1 v)]]) (ψ v w) (T++[ae.list acc,ae.frame [(x2,φ2 w),(x1,φ1 v)]]))∧(ψ v w).lo n=true):b41 d c (.ListComp elt [⟨.Name x1 p1,iter,[],as1⟩,⟨.Name x2 p2,iter2,ifs2,as2⟩] scope pos) st (.ab n) (T++[ae.list (xs.flatMap λv=>((ys v).filter (f v)).map (ψ v))]):=by
 have ne:x1≠x2:=λe=>by rw[e,beq_self_eq_true] at cz;exact nB' cz
 have lo1:∀v∈xs,CV.cV n (((ys v).filter<|f v).map<|ψ v)=true:=λv hv=>An.mpr λz hz=>by obtain⟨w,hw,rfl⟩:=cu.mp hz;exact (h v hv w (Ca.mp hw).1 [] rfl).2.2
 obtain⟨w',_,run⟩:=qe (d:=d) (P:=P) (m:=n) (n:=0) (fv:=[]) (e:=.ListComp elt [⟨.Name x1 p1,iter,[],as1⟩,⟨.Name x2 p2,iter2,ifs2,as2⟩] scope pos) [x2] rfl rfl hT rfl tK hP (λv=>Ey) lo1 (λv hv acc ha hb=>by obtain⟨b,P',h1,h2,h3⟩:=AH v hv acc ha;rw[aV] at hb;obtain⟨w',AZ,r⟩:=mH (elt:=elt) (gens:=[⟨.Name x1 p1,iter,[],as1⟩,⟨.Name x2 p2,iter2,ifs2,as2⟩]) (scope:=scope) (pos:=pos) (m:=n) (n:=1) (fv:=[(x1,φ1 v)]) (φ:=φ2) rfl rfl hT rfl OV h3 (h v hv) (λu=>by simp [fj,ne]) (ys v) acc [(x1,φ1 v),(x2,.any)] (λ_ h=>h) (by simp [fj,ne]) ha hb;exact⟨b,_,P',w',h1,h2,h3 _,AZ,r⟩) xs [] [] (λ_ h=>h) rfl rfl (by rwa[zT,lq]);refine gw J hi hs (dM T▸hP []) hT hT d6 b9 ?_ ⟨_,⟨w',rfl⟩,by rw[hF];exact run⟩;refine An.mpr λz hz=>?_;obtain⟨v,hv,hz⟩:=aae.mp hz;exact CV.mD (ke _) _<|An.mp (lo1 v hv) z hz
theorem j5 {α:Type}{elt iter:aq}{ifs:List aq}{fJ} {scope:d8}{pos px:Pos}{x:Str}{T st:List ae}{n:Nat}{P:List ae->Prop}{a:CV}{cl:List (Str×Nat)}{xs:List α}{φ ψ:α->CV}{f:α->Bool}(J:J4 c (.ListComp elt [⟨.Name x px,iter,ifs,fJ⟩] scope pos) scope cl)(hF:dU scope []=[ae.frame [],ae.cell none]) (hx:(nU scope c.scope).names.lookup x=some .cell)(hc:(cI c scope (n+1) cl).cells.lookup x=some (n+2)) (hi:a8 d c iter st a T)(hs:Nonempty (iY a (xs.map φ) P))(hP:∀g,P (T++g))(hT:T.length=n)(d6:st.length<=n)(b9:(T.all λo=>o.lo n)=true)(bn:xs.length<=2^20) (h:∀v∈xs,∀acc,CV.cV n acc=true->mr d (cI c scope (n+1) cl) ifs (T++[ae.list acc,ae.frame [],ae.cell (some (φ v))]) (f v) (T++[ae.list acc,ae.frame [],ae.cell (some (φ v))])∧(f v=true->a8 d (cI c scope (n+1) cl) elt (T++[ae.list acc,ae.frame [],ae.cell (some (φ v))]) (ψ v) (T++[ae.list acc,ae.frame [],ae.cell (some (φ v))]))∧(ψ v).lo n=true):b41 d c (.ListComp elt [⟨.Name x px,iter,ifs,fJ⟩] scope pos) st (.ab n) (T++[ae.list ((xs.filter f).map ψ)]):=by
 subst hT;have bJ:∀(ys:List α),(HY (λ_ v=>cond (f v) [ψ v] []) 0 ys)=(ys.filter f).map ψ∧((ys.filter f).map ψ).length<=ys.length:=λys=>⟨by
  rw[pV];induction ys with
  |nil=>rfl|cons y ys ih=>rw[aab,ih,sR];cases f y<;>rfl,by rw[aV];exact abZ _ _⟩
 have A:∀{v acc cc'},dj d (cI c scope (T.length+1) cl) (.Name x px) v (T++[.list acc,.frame [],.cell cc']) (T++[.list acc,.frame [],.cell<|some v]):=λ{v acc cc'}=>wg (by unfold kn;rw[show (cI c scope (T.length+1) cl).scope.names.lookup x=some .cell from hx];show((cI c scope (T.length+1) cl).cells.lookup x).bind _=_;rw[hc];show((T++[ae.list acc,.frame [],.cell cc'])[T.length+2]?).bind _=_;rw[dT (by lia),show T.length+2-T.length=2 by lia];show some ((T++[ae.list acc,.frame [],.cell cc']).set (T.length+2) _)=_;rw[Fl _ _ (by lia),show T.length+2-T.length=2 by lia];rfl);obtain⟨F',hF',run⟩:=lv (d:=d) (e:=.ListComp elt [⟨.Name x px,iter,ifs,fJ⟩] scope pos) (c:=cI c scope (T.length+1) cl) (k:=T.length) (n:=0) (P:=P) (xs:=xs) (φ:=φ) (out:=λ_ v=>cond (f v) [ψ v] []) (T:=λ_=>T) (m:=T.length) (Fr:=λF=>∃cc',F=[.frame [],.cell cc']) (λ_ _ _=>hP _) (λi v hv=>by
  have:=(h v (c8 hv) [] rfl).2.2;cases f v
  ·rfl
  ·exact An.mpr λz hz=>by rw[gV.mp hz];exact this) (λi v acc F hv ha hb ⟨cc',hFc⟩=>by
  subst hFc;obtain⟨h1,h2,h3⟩:=h v (c8 hv) acc ha;refine⟨_,⟨some<|φ v,rfl⟩,λzs ag r=>?_⟩;cases q:f v with
  |false=>rw[q] at h1 r;refine .skip (hP _) rfl A h1 ?_;rwa[show acc++cond false [ψ v] []=acc from dM _] at r|true=>rw[q] at h1 r hb;have M:=GO (gens:=[⟨.Name x px,iter,ifs,fJ⟩]) (sc:=scope) (pos:=pos) (h2 q) (k:=T.length) (xs:=acc) (by rw[dT<|aG _,fk];rfl) (q7 (fC (vH _ _) hb)<|by decide);rw[Fl _ _<|aG _,fk] at M;exact .wk (hP _) rfl rfl A h1 M r) xs 0 [] [.frame [],.cell none] rfl ⟨none,rfl⟩ rfl (by rw[(bJ xs).1];have:=(bJ xs).2;show 0+_<=_;exact ah [_,_] (.le .o (.n<|2^20)<|.le .i .o<|.g 1 0<|.le (.a .k .i)<|.n<|2^20) rfl bn this)
 rw[(bJ xs).1] at run;refine gw (T':=T) J hi hs (dM T▸hP []) rfl rfl d6 b9 ?_ ⟨F',?_,(by rw[hF];exact run)⟩
 ·refine An.mpr λz hz=>?_;obtain⟨v,hv,rfl⟩:=cu.mp hz;exact CV.mD (ke _) _ (h v (Ca.mp hv).1 [] rfl).2.2
 obtain⟨cc',rfl⟩:=hF';exact⟨[],rfl⟩
end
section
variable {d:Nat}
theorem SW:gu 335 dLF fLF:=iM (by kernel_rfl) (by kernel_rfl) (by decide +kernel)
abbrev cLF:aY:=da dLF.scope 3 none
def lfC:aq:=iL (g7 dLF.body 0)
def HZ:aq:=ew lfC 0
def P3:aq:=ew HZ 0
def Qo:aq:=ew P3 0
abbrev cF1:aY:=cI cLF (fH lfC) 9 []
abbrev cF2 (n:Nat):aY:=cI cF1 (fH HZ) (n+1) [("row",10)]
noncomputable def lfT (hs e l:List Nat)(c1 c2 c3 c4:Option CV):List ae:=[a0 hs,a0 e,a0 l,.frame [("late",.ab 2),("early",.ab 1),("hours",.ab 0)],.cell c1,.cell c2,.cell c3,.cell c4]
theorem cR {xs:List Nat}:ae.list (xs.map af)=a0 xs:=by rw[a0,fV];rfl
theorem IT {op:ua}{st:List ae}{a b:Nat}(h:jj d op (.int a) (.int b) st (.bool q) st)(e:q=q'):jj d op (af a) (af b) st (.bool q') st:=e▸h
section
variable {S:List ae}{n r:Nat}{xs:List Nat}
theorem Qp {t:Nat}{acc:List CV}(hS:S.length=n)(b9:(S.all λo=>o.lo n)=true)(pu:S[10]?=some (ae.cell (some (.ab r))))(hr:S[r]?=some (a0 xs))(hx:xs.length<2^16)(ha:CV.cV n acc=true):a8 d (cF2 n) P3 (S++[ae.list acc,ae.frame [],ae.cell (some (af t))]) (af (Q.less xs t)) (S++[ae.list acc,ae.frame [],ae.cell (some (af t))]):=by
 have hl:(S++[ae.list acc,.frame [],.cell<|some<|af t]).length=n+3:=by rw[dJ,hS];rfl
 have up:∀{i o} (g:List ae),S[i]?=some o->((S++[ae.list acc,.frame [],.cell<|some<|af t])++g)[i]?=some o:=λg h=>by rw[eJ,d2 (bV.mp h).1,h]
 have ht:∀g:List ae,((S++[ae.list acc,.frame [],.cell<|some<|af t])++g)[n+2]?=some (.cell<|some<|af t):=λg=>by rw[eJ,dT (by rw[hS];exact vH _ _),hS,Nat.add_sub_cancel_left];rfl
 have an1:((S++[ae.list acc,.frame [],.cell<|some<|af t]).all λo=>o.lo<|n+3)=true:=by refine cC (Bl (ah [_,_] (.g 1 0<|.le .o<|.a .o .i) rfl) b9) ?_;show(CV.cV (n+3) acc&&_)=true;rw[CV.vh (vH _ _) acc ha];rfl
 have C:a8 d (cF2 n) Qo (S++[.list acc,.frame [],.cell<|some<|af t]) (.ab<|n+3) ((S++[.list acc,.frame [],.cell<|some<|af t])++[a0<|xs.filter λh=>decide (h<t)]):=by
  rw[<-cR (xs:=xs.filter _)];generalize S++[ae.list acc,.frame [],.cell<|some<|af t]=T at *;refine oJ<|b30 (cl:=[("t",n+2)]) (n:=n+3) (P:=λst=>st[r]?=some (a0 xs)) (a:=.ab r) (xs:=xs) (λh=>decide (h<t)) af af ⟨⟨by rfl',by rfl',by rfl',by rfl',by rfl'⟩,by rfl',?_,?_,λg=>up g hr,hl,ll hl,an1,by rw[aV];exact ah [_] (.lt .o (.n<|2^16)<|.g 1 0<|.le .o<|.n<|2^20) rfl hx⟩ ?_
  ·have:=up [] pu;rw[dM] at this;exact eu rfl rfl (Aq (by rfl') (by rfl') this)
  ·have:=rI r<|xs.map af;rw[cR] at this;exact⟨this⟩
  intro h hh oP _;have h1:=nh (d:=d) (c:=cI (cF2 n) (fH Qo) (n+4) [("t",n+2)]) (x:="hour") (T:=T) (o:=.list oP) (g:=[]) (fv:=[("hour",af h)]) (pos:=AT Qo) (v:=af h) rfl rfl hl rfl (by rfl') rfl rfl;exact⟨ms (F9 (by rfl') (nh rfl rfl hl rfl (by rfl') rfl rfl) (eu rfl rfl (Aq (by rfl') (by rfl')<|ht _))<|IT UV<|by simp),λ_=>nh rfl rfl hl rfl (by rfl') rfl rfl,rfl⟩
 have L:=YG (d:=d) (st:=(S++[.list acc,.frame [],.cell<|some<|af t])++[a0<|xs.filter λh=>decide (h<t)]) (q:=n+3) (xs:=xs.filter λh=>decide (h<t)) (by rw[dT<|Nat.le_of_eq hl,hl,fk];rfl) (by have:=jr xs t;unfold Q.less at this;exact ah [_,_] (.lt .o (.n<|2^16)<|.le .i .o<|.g 1 0<|.lt .i<|.n<|2^20) rfl hx this);have E:a8 d (cF2 n) P3 (S++[.list acc,.frame [],.cell<|some<|af t]) (af<|Q.less xs t) ((S++[.list acc,.frame [],.cell<|some<|af t])++[a0<|xs.filter λh=>decide (h<t)]):=
  dk (sc:=[.c7 (.ab<|n+3) λst=>st++[a0<|xs.filter λh=>decide (h<t)],.val<|af<|Q.less xs t]) (by rfl') (am L<|am gP<|am C aX)
 exact E.drop (aG _) (by rw[hl];exact an1) rfl
theorem zj (hS:S.length=n)(b9:(S.all λo=>o.lo n)=true)(pu:S[10]?=some (.cell (some (.ab r))))(hr:S[r]?=some (a0 xs))(hx:xs.length<2^16):a8 d cF1 HZ S (.ab n) (S++[a0 ((aK 7).map (Q.less xs))]):=by
 have C:=oJ (j5 (d:=d) (c:=cF1) (cl:=[("row",10)]) (x:="t") (a:=.fW 0 7 1) (f:=λ_=>true) (elt:=P3) (iter:=kZ HZ) (ifs:=[]) (fJ:=0) (px:=AT (uL HZ).target) (pos:=AT HZ) (scope:=fH HZ) ⟨by rfl',by rfl',by rfl',by rfl'⟩ (by rfl') rfl rfl
  (dk (sc:=[.val<|.fW 0 7 1]) rfl (am afo<|am yn aX)) (mE 7<|by decide) (λ_=>trivial) hS (ll hS) b9 (by decide)
  (λt _ acc ha=>⟨oT,λ_=>Qp hS b9 pu hr hx ha,rfl⟩))
 rwa[aaj.2<|λx y=>rfl,show (aK 7).map (λt=>af<|Q.less xs t)=((aK 7).map<|Q.less xs).map af by rw[fV];rfl,cR] at C
end
end
section
variable {d:Nat}
noncomputable def j6 (xs:List Nat):List Nat:=(aK 7).map (Q.less xs)
theorem Ez {xs:List Nat}{a:Nat}(h:a<7):(j6 xs)[a]?=some (Q.less xs a):=by rw[j6,dN,iS h];rfl
noncomputable def lfU (hs e l:List Nat)(c4:Option CV):List ae:=lfT hs e l (some (.ab 9)) (some (.ab 10)) (some (.ab 11)) c4++[.list (dX 9 3),a0 (j6 hs),a0 (j6 e),a0 (j6 l)]
noncomputable def lfZ (hs e l:List Nat)(a b t:Nat):Int:=(Q.less hs a:Int)+(Q.less e b:Int)-(Q.less e a:Int)+(Q.less l t:Int)-(Q.less l b:Int)
section
variable {hs e l:List Nat}
theorem qv {n:Nat}{c1 c2 c3 c4}(h:3<=n)(h1:(ae.cell c1).lo n=true)(h2:(ae.cell c2).lo n=true)(h3:(ae.cell c3).lo n=true)(h4:(ae.cell c4).lo n=true):((lfT hs e l c1 c2 c3 c4).all λo=>o.lo n)=true:=by show((a0 hs).lo n&&((a0 e).lo n&&((a0 l).lo n&&((decide (2<n)&&(decide (1<n)&&(decide (0<n)&&true)))&&((ae.cell c1).lo n&&((ae.cell c2).lo n&&((ae.cell c3).lo n&&((ae.cell c4).lo n&&true))))))))=true;rw[k8,k8,k8,h1,h2,h3,h4,decide_eq_true (show 2<n by lia),decide_eq_true (show 1<n by lia),decide_eq_true<|show 0<n by lia];rfl
theorem Qr (h1:hs.length<2^16)(h2:e.length<2^16)(h3:l.length<2^16):aI d cLF (dLF.body.take 1) (lfT hs e l none none none none) .next (lfU hs e l none):=by
 have C:=oJ (ec (d:=d) (c:=cLF) (st:=lfT hs e l none none none none) (T:=lfT hs e l none none none none) (n:=8) (m:=1) (cl:=[]) (P:=λ_=>True) (a:=.cB [.ab 0,.ab 1,.ab 2]) (items:=[.ab 0,.ab 1,.ab 2]) (F:=λi=>[.frame [],.cell<|match i with|0=>none|i+1=>some<|.ab i]) (gs:=[hs,e,l].map λxs=>((j6 xs).map λm:Nat=>(m:Int)).map CV.int) (elt:=HZ) (iter:=kZ lfC) (ifs:=[]) (fJ:=0) (tg:=(uL lfC).target) (pos:=AT lfC) (scope:=fH lfC) ⟨by rfl',by rfl',by rfl',by rfl'⟩ rfl
  (dk (sc:=[]) (by rfl)<|am (by decide:3<=cX) aX) ⟨Vk _⟩ (λ_=>trivial) rfl (aG _) (qv (by decide) rfl rfl rfl rfl) (λi=>rfl) (by rfl) (λi=>⟨[],rfl⟩) rfl (λg hg=>by obtain⟨x,_,rfl⟩:=cu.mp hg;exact NT _) (by decide)
  (λi x hx=>match i,x,hx with
   |0,_,rfl=>i4 (sc:=[]) (by rfl) aX|1,_,rfl=>i4 (sc:=[]) (by rfl) aX|2,_,rfl=>i4 (sc:=[]) (by rfl) aX)
  (λi x hx=>by
   have lo:∀{i x} {g:List ae},i<3->x<3->(g.all λo=>o.lo<|11+i)=true->((lfT hs e l none none none none++ae.list (dX 11 i)::([ae.frame [],ae.cell<|some<|.ab x]++g)).all λo=>o.lo<|11+i)=true:=λ{i x g} hi hx hg=>cC (qv (ah [_] (.g 1 0<|.le (.n 3)<|.a (.n 11) .o) rfl) rfl rfl rfl rfl) (by show(CV.cV (11+i) (dX 11 i)&&(_&&((CV.ab x).lo (11+i)&&(g.all λo=>o.lo<|11+i))))=true;rw[X7<|aG _,hg,show (CV.ab x).lo (11+i)=true from decide_eq_true<|ah [_,_] (.lt .o (.n 3)<|.g 1 0<|.lt .o<|.a (.n 11) .i) rfl hx];rfl);exact match i,x,hx with
   |0,_,rfl=>zj (n:=11) (r:=0) (xs:=hs) rfl (lo (i:=0) (x:=0) (by decide) (by decide) rfl) rfl rfl h1|1,_,rfl=>zj (n:=12) rfl (lo (by decide) (by decide)<|fK _) rfl rfl h2|2,_,rfl=>zj rfl (lo (x:=2) (by decide) (by decide)<|cC (fK _)<|fK _) rfl rfl h3))
 exact aW (sc:=[.c7 (.ab 8) λst=>st++[.list<|dX 9 3,a0<|j6 hs,a0<|j6 e,a0<|j6 l],.c7 (.cB [.ab 9,.ab 10,.ab 11]) id]) (by rfl)<|am (eI (xs:=dX 9 3) rfl)<|am C aX
def lfG:aq:=iL (g7 dLF.body 1)
def P4:aq:=ew lfG 0
def IU:aq:=ew P4 0
abbrev cG1:aY:=cI cLF (fH lfG) 13 [("fore",5),("come",4),("aft",6)]
theorem M2 {t:Nat}{acc:List CV}{G:Nat}(ht:t<7)(ha:CV.cV 12 acc=true)(hG:∃a b,a<=b∧b<=t∧lfZ hs e l a b t=(G:Int))(d6:∀a b,a<=b->b<=t->(G:Int)<=lfZ hs e l a b t):a8 d cG1 P4 (lfU hs e l none++[ae.list acc,ae.frame [],ae.cell (some (af t))]) (af G) (lfU hs e l none++[ae.list acc,ae.frame [],ae.cell (some (af t))]):=by
 have rg:∀{k:Nat} {st:List ae},bk d (.ty "range") [.int<|k+1] [] st (.fW 0 (k+1:Nat) 1) st:=afo;have b9:∀n,12<=n->((lfU hs e l none).all λo=>o.lo n)=true:=λn hn=>cC (qv (ah [_] (.le (.n 12) .o<|.g 1 0<|.le (.n 3) .o) rfl hn) (decide_eq_true<|ah [_] (.le (.n 12) .o<|.g 1 0<|.lt (.n 9) .o) rfl hn) (decide_eq_true<|ah [_] (.le (.n 12) .o<|.g 1 0<|.lt .t .o) rfl hn) (decide_eq_true<|ah [_] (.le (.n 12) .o<|.g 1 0<|.lt (.n 11) .o) rfl hn) rfl) (by show(CV.cV n (dX 9 3)&&((a0 _).lo n&&((a0 _).lo n&&((a0 _).lo n&&true))))=true;rw[X7 (by lia),k8,k8,k8];rfl);have an1:((lfU hs e l none++[ae.list acc,.frame [],.cell<|some<|af t]).all λo=>o.lo 15)=true:=cC (b9 15<|by decide) (by show(CV.cV 15 acc&&_)=true;rw[CV.vh (by lia) acc ha];rfl);have C:=oJ (mL (d:=d) (c:=cG1) (T:=lfU hs e l none++[ae.list acc,.frame [],.cell<|some<|af t]) (st:=lfU hs e l none++[ae.list acc,.frame [],.cell<|some<|af t]) (n:=15) (cl:=[("t",14),("fore",5),("come",4),("aft",6)]) (x1:="b") (x2:="a") (xs:=aK<|t+1) (ys:=λb=>aK<|b+1) (φ1:=af) (φ2:=af) (P:=λ_=>True) (a:=.fW 0 (t+1:Nat) 1) (λb a=>.int<|lfZ hs e l a b t) (λ_ _=>true)
  (elt:=ew IU 0) (iter:=kZ IU) (iter2:=((ep IU).gs.getD 1 default).iter) (ifs2:=[]) (as1:=0) (as2:=0) (scope:=fH IU) (pos:=AT IU) (p1:=AT (uL IU).target) (p2:=AT ((ep IU).gs.getD 1 default).target) ⟨by rfl',by rfl',by rfl',by rfl'⟩ (by rfl) (by rfl) rfl rfl
  (dk (sc:=[.val<|.fW 0 (t+1:Nat) 1]) rfl (am rg<|am yn aX)) (mE (t+1)<|ah [_] (.lt .o (.n 7)<|.g 1 0<|.le (.a .o .j)<|.n<|2^20) rfl ht) (λ_=>trivial) rfl (aG _) an1 (by
   have key:∀k,k<=7->((aK k).flatMap λv=>((aK<|v+1).filter<|λ_=>true).map<|λa=>CV.int<|lfZ hs e l a v t).length<=7*k:=λk=>by induction k with|zero=>intro _;exact aG _|succ k ih=>intro hk;have:=ih<|ah [_,_,_] (.le (.a .o .i) .u<|.g 1 0<|.le .o .u) rfl hk;rw[abK,aag,dJ,aab,aaf,dM,aV];have q:=abZ (λ_:Nat=>true)<|aK<|k+1;rw[fb] at q;exact ah [_,_,_] (.le (.a .o .j) (.n 7)<|.le .i (.m 7 .o)<|.le .u (.a .o .j)<|.g 1 0<|.le (.a .i .u)<|.m 7<|.a .o .j) rfl hk this q
   exact fC (key _<|ah [_,_] (.lt .o .i<|.g 1 0<|.le (.a .o .j) .i) rfl ht)<|ah [_] (.c 7 0 (.lt .o<|.n 7)<|.g 1 0<|.le (.m 7<|.a .o .j)<|.n<|2^20) rfl ht)
  (λb hb oP _=>⟨.fW 0 (b+1:Nat) 1,λ_=>True,dk (sc:=[.val<|.fW 0 (b+1:Nat) 1]) rfl (am rg<|am yn aX),mE (b+1) (by have:=gz.mp hb;exact ah [_,_] (.lt .o (.n 7)<|.lt .i (.a .o .j)<|.g 1 0<|.le (.a .i .j)<|.n<|2^20) rfl ht this),λ_=>trivial⟩)
  (λb hb a hA oP _=>⟨oT,λ_=>by have b7:=gz.mp hb;have a7:=gz.mp hA;have sb:∀{q i:Nat} {xs:List Nat} {st:List ae} {e:aq},st[q]?=some (a0<|j6 xs)->i<7->fF d e (.ab q) (af i) st (af<|Q.less xs i) st:=λh hi=>jL h (Ez hi) (by rw[j6,aV,fb];decide);exact dk (sc:=[.val<|af<|Q.less hs a,.val<|af<|Q.less e b,.val<|af<|Q.less e a,.val<|af<|Q.less l t,.val<|af<|Q.less l b]) rfl (am (sb rfl (ah [_,_,_] (.lt .o (.a .i .j)<|.lt .i .u<|.g 1 0<|.lt .o .u) rfl b7 ht))<|am (sb rfl ht)<|am (sb rfl (ah [_,_,_,_] (.lt .o (.a .i .j)<|.lt .i (.a .u .j)<|.lt .u .w<|.g 1 0<|.lt .o .w) rfl a7 b7 ht))<|am (sb rfl (ah [_,_,_] (.lt .o (.a .i .j)<|.lt .i .u<|.g 1 0<|.lt .o .u) rfl b7 ht))<|am (sb rfl (ah [_,_,_,_] (.lt .o (.a .i .j)<|.lt .i (.a .u .j)<|.lt .u .w<|.g 1 0<|.lt .o .w) rfl a7 b7 ht)) aX),rfl⟩))
 have e1:((aK<|t+1).flatMap λb=>((aK<|b+1).filter<|λ_=>true).map<|λa=>CV.int<|lfZ hs e l a b t)=((aK<|t+1).flatMap λb=>(aK<|b+1).map λa=>lfZ hs e l a b t).map CV.int:=by rw[aak];refine congrArg (aam · _)<|funext λb=>?_;rw[aaj.2<|λ_ _=>rfl,fV];rfl
 rw[e1] at C;have hm:(G:Int)∈(aK<|t+1).flatMap λb=>(aK<|b+1).map λa=>lfZ hs e l a b t:=by obtain⟨a,b,h1,h2,h3⟩:=hG;exact aae.mpr ⟨b,gz.mpr<|ah [_,_] (.le .o .i<|.g 1 0<|.lt .o<|.a .i .j) rfl h2,cu.mpr ⟨a,gz.mpr<|ah [_,_] (.le .o .i<|.g 1 0<|.lt .o<|.a .i .j) rfl h1,h3⟩⟩
 have hl:∀y∈(aK<|t+1).flatMap λb=>(aK<|b+1).map λa=>lfZ hs e l a b t,(G:Int)<=y:=λy hy=>by obtain⟨b,hb,hy⟩:=aae.mp hy;obtain⟨a,hA,rfl⟩:=cu.mp hy;have:=gz.mp hb;have:=gz.mp hA;exact d6 a b (ah [_,_] (.lt .o (.a .i .j)<|.g 1 0<|.le .o .i) rfl this)<|ah [_,_] (.lt .o (.a .i .j)<|.g 1 0<|.le .o .i) rfl (by assumption)
 generalize ((aK<|t+1).flatMap λb=>(aK<|b+1).map λa=>lfZ hs e l a b t)=zs at *;have E:a8 d cG1 P4 (lfU hs e l none++[.list acc,.frame [],.cell<|some<|af t]) (af G) ((lfU hs e l none++[.list acc,.frame [],.cell<|some<|af t])++[.list<|zs.map CV.int]):=
  dk (sc:=[.c7 (.ab 15) λst=>st++[.list<|zs.map CV.int],.val<|af G]) rfl (am (Ed (ns:=zs) rfl hm hl)<|am gP<|am C aX)
 exact E.drop (aG _) an1 rfl
noncomputable def lfV (hs e l G:List Nat)(c4:Option CV):List ae:=lfU hs e l c4++[a0 G]
theorem H4 {n:Nat}{G:List Nat}{c4}(hn:13<=n)(h4:(ae.cell c4).lo n=true):((lfV hs e l G c4).all λo=>o.lo n)=true:=cC (cC (qv (ah [_] (.le (.n 13) .o<|.g 1 0<|.le (.n 3) .o) rfl hn) (decide_eq_true<|ah [_] (.le (.n 13) .o<|.g 1 0<|.lt (.n 9) .o) rfl hn) (decide_eq_true<|ah [_] (.le (.n 13) .o<|.g 1 0<|.lt .t .o) rfl hn) (decide_eq_true<|ah [_] (.le (.n 13) .o<|.g 1 0<|.lt (.n 11) .o) rfl hn) h4)<|by show(CV.cV n (dX 9 3)&&((a0 _).lo n&&((a0 _).lo n&&((a0 _).lo n&&true))))=true;rw[X7 (by lia),k8,k8,k8];rfl)<|fK _
theorem Qs {G:Nat->Nat}(hG:∀t,t<7->(∃a b,a<=b∧b<=t∧lfZ hs e l a b t=(G t:Int))∧∀a b,a<=b->b<=t->(G t:Int)<=lfZ hs e l a b t):aI d cLF ((dLF.body.drop 1).take 1) (lfU hs e l none) .next (lfV hs e l ((aK 7).map G) (some (.ab 12))):=by
 have C:=KB (j5 (d:=d) (c:=cLF) (cl:=[("fore",5),("come",4),("aft",6)]) (T:=lfU hs e l none) (st:=lfU hs e l none) (n:=12) (x:="t") (a:=.fW 0 7 1) (P:=λ_=>True) (iter:=kZ lfG) (ifs:=[]) (fJ:=0) (px:=AT (uL lfG).target) (pos:=AT lfG) (scope:=fH lfG) ⟨by rfl',by rfl',by rfl',by rfl'⟩ (by rfl') (by rfl) (by rfl)
  (dk (sc:=[.val<|.fW 0 7 1]) (by rfl)<|am afo<|am yn aX) (mE 7<|by decide) (λ_=>trivial) rfl (aG _) (cC (qv (by decide) rfl rfl rfl rfl) (by
  show(CV.cV 12 (dX 9 3)&&((a0 _).lo 12&&((a0 _).lo 12&&((a0 _).lo 12&&true))))=true;rw[X7 (by decide),k8,k8,k8];rfl)) (by decide)
  (λt ht acc ha=>⟨oT,λ_=>M2 (gz.mp ht) ha (hG t<|gz.mp ht).1 (hG t<|gz.mp ht).2,rfl⟩))
 rw[aaj.2<|λx y=>rfl,show (aK 7).map (λt=>af<|G t)=((aK 7).map G).map af by rw[fV];rfl,cR] at C;exact aW (sc:=[.c7 (.ab 12) λst=>st++[a0<|(aK 7).map G]]) (by rfl)<|am C aX
def lfR:aq:=iL (g7 dLF.body 2)
theorem Qt {G:Nat->Nat}:aI d cLF (dLF.body.drop 2) (lfV hs e l ((aK 7).map G) (some (.ab 12))) (.ret (.ab 13)) (lfV hs e l ((aK 7).map G) (some (.ab 12))++[a0 ((aK 6).filter λt=>decide (G t<G (t+1)))]):=by
 have C:=oJ (b30 (d:=d) (c:=cLF) (cl:=[("gone",7)]) (T:=lfV hs e l ((aK 7).map G)<|some<|.ab 12) (st:=lfV hs e l ((aK 7).map G)<|some<|.ab 12) (n:=13) (x:="t") (a:=.fW 0 6 1) (P:=λ_=>True) (xs:=aK 6) (λt=>decide (G t<G (t+1))) af af (elt:=ew lfR 0) (iter:=kZ lfR) (ifs:=[wE lfR]) (fJ:=0) (px:=AT (uL lfR).target) (pos:=AT lfR) (scope:=fH lfR) ⟨⟨by rfl',by rfl',by rfl',by rfl',by rfl'⟩,by rfl',
  dk (sc:=[.val<|.fW 0 6 1]) (by rfl) (am afo<|am yn aX),mE 6 (by decide),λ_=>trivial,rfl,aG _,H4 (by decide) rfl,by decide⟩
  (λt ht acc ha=>⟨ms (by
   have t6:=gz.mp ht;have sb:∀{i:Nat} {st:List ae} {e:aq},st[12]?=some (a0<|(aK 7).map G)->i<7->fF d e (.ab 12) (af i) st (af<|G i) st:=λh hi=>jL h (by rw[dN,iS hi];rfl) (by rw[aV,fb];decide);have s1:∀{st:List ae} {e:aq},st[12]?=some (a0<|(aK 7).map G)->fF d e (.ab 12) (.int<|(t:Int)+1) st (af<|G<|t+1) st:=λh=>sb (i:=t+1) h<|ah [_] (.lt .o (.n 6)<|.g 1 0<|.lt (.a .o .j)<|.n 7) rfl t6;have q:decide ((G (t+1):Int)>(G t:Int))=decide (G t<G (t+1)):=by simp
   exact q▸nX (sc:=[.val<|af<|G<|t+1,.val<|af<|G t]) (by rfl) (am (sb rfl (ah [_] (.lt .o (.n 6)<|.g 1 0<|.lt .o<|.n 7) rfl t6))<|am (s1 rfl) aX)),λ_=>dk (sc:=[]) (by rfl) aX,rfl⟩))
 rw[cR] at C;exact aW (sc:=[.c7 (.ab 13) λst=>st++[a0<|(aK 6).filter λt=>decide (G t<G (t+1))]]) (by rfl)<|am C aX
theorem Qu {G:Nat->Nat}(h1:hs.length<2^16)(h2:e.length<2^16)(h3:l.length<2^16)(hG:∀t,t<7->(∃a b,a<=b∧b<=t∧lfZ hs e l a b t=(G t:Int))∧∀a b,a<=b->b<=t->(G t:Int)<=lfZ hs e l a b t):bM (d+2) (.aH 335) [.ab 0,.ab 1,.ab 2] [] [a0 hs,a0 e,a0 l] (.ab 3) ([a0 hs,a0 e,a0 l]++[a0 ((aK 6).filter λt=>decide (G t<G (t+1)))]):=by have B:aI d cLF dLF.body (lfT hs e l none none none none) (.ret<|.ab 13) (lfV hs e l ((aK 7).map G) (some<|.ab 12)++[a0<|(aK 6).filter λt=>decide (G t<G (t+1))]):=jY 1 (Qr h1 h2 h3)<|jY 1 (Qs hG)<|Qt;generalize (aK 6).filter (λt=>decide (G t<G (t+1)))=R at *;have hb:db fLF [a0 hs,a0 e,a0 l] [.ab 0,.ab 1,.ab 2] [] [("hours",.ab 0),("early",.ab 1),("late",.ab 2)] [a0 hs,a0 e,a0 l]:=NL (λv1 v2 v3 S=>by kernel_rfl) gF;have c:=SW.code (tab:=none) (g:=[]) (ag:=lfV hs e l ((aK 7).map G) (some<|.ab 12)++[a0 R]) hb (by kernel_rfl) nofun (by rw[dM];exact B) (.inl rfl) (by show 3<=14;decide) (cC (H4 (by show 13<=14;decide) rfl)<|fK _) rfl;have rn:∀{xs:List Nat} {f},(a0 xs).bI f=some (a0 xs):=λ{xs f}=>fz<|tM<|NT _;exact c.qr<|yk [0,1,2,13] (by decide) (cq rn<|cq rn<|cq rn<|cq rn iF) rfl rfl
end
end
section
variable {d:Nat}
theorem SY:gu 311 dMA fMA:=iM (by kernel_rfl) (by kernel_rfl) (by decide +kernel)
abbrev cMA:aY:=da dMA.scope 1 none
noncomputable def bbV (b:Bool):CV:=.cB [.bool b,.bool b]
noncomputable def kvQ:Option Nat->Option Nat->List (Str×CV)
 |none,_=>[]|some p,none=>[("p",af p)]|some p,some q=>[("p",af p),("q",af q)]
noncomputable def maT (units:List Str)(bs:List Bool)(p q:Option Nat)(mates:List Nat)(asked:List Bool):List ae:=[ax units,.frame (("units",.ab 0)::("signs",.str (bh bs))::("asked",.ab 3)::("mates",.ab 2)::kvQ p q),a0 mates,.list (asked.map bbV)]
theorem M3 {n:Nat}:∀(xs:List Bool),CV.cV n (xs.map bbV)=true
 |[]=>rfl|x::xs=>by rw[eC,CV.uu,M3 xs];rfl
theorem zm {n:Nat}{units bs p q mates asked}(hn:4<=n):((maT units bs p q mates asked).all λo=>o.lo n)=true:=by
 have h:∀i,i<4->(CV.ab i).lo n=true:=λi hi=>decide_eq_true<|ah [_,_,_] (.lt .o .i<|.le .i .u<|.g 1 0<|.lt .o .u) rfl hi hn;have e:((kvQ p q).all λp=>p.2.lo n)=true:=by cases p<;>cases q<;>rfl
 show((ax units).lo n&&(((CV.ab 0).lo n&&(_&&((CV.ab 3).lo n&&((CV.ab 2).lo n&&((kvQ p q).all λp=>p.2.lo n)))))&&((a0 mates).lo n&&((ae.list<|asked.map bbV).lo n&&true))))=true;rw[h 0 (by decide),h 2 (by decide),h 3 (by decide),e,k8,show (ax units).lo n=true from cJ _,show (ae.list<|asked.map bbV).lo n=true from M3 _];rfl
def qF:aq×aq×List bl:=dc dMA.body
def L2:aq×aq×List bl:=dc qF.2.2
noncomputable def dm (bs:List Bool)(tb:Nat->Nat->Bool)(p:Nat)(qs:List Nat):List Nat:=match qs.find? (λq=>bs.getD p false&&(!bs.getD q false&&tb p q)) with
 |some q=>[p,q]|none=>[]
section
variable {units:List Str}{bs:List Bool}{tb:Nat->Nat->Bool}
theorem akP {p q:Nat}(hq:q<bs.length)(hp:p<=q):gD (bh bs) (some (p:Int)) (some ((q:Int)+1))=bh (k9 bs p q):=by rw[Dq,np,show ((q:Int)+1)=((q+1:Nat):Int) from rfl];show(⟨(((bs.map λb=>if b then 40 else 41).drop<|nH bs.length p).take<|nH bs.length (q+1:Nat)-nH bs.length (p:Int)).toArray⟩:Str)=_;rw[uP,uP,zH (by lia),zH (by lia),<-rn,<-oH];rfl
structure H5 (units:List Str)(bs:List Bool)(tb:Nat->Nat->Bool):Prop where
 ul:units.length=bs.length
 n:bs.length<=12
 ux:∀u∈units,u.length<=20
 ck:∀p q,p<=q->q<bs.length->m9 (gY "" (jc units p q))=tb p q
 ev:∀p q,p<=q->q<bs.length->n7 (bh (k9 bs p q))=tb p q
theorem IV (H:H5 units bs tb){p q:Nat}{mates:List Nat}{asked:List Bool}(wA:p<q)(hq:q<bs.length)(hm:mates.length<=2^18)(ha:asked.length<=2^18):∃asked',asked'.length<=asked.length+1∧if(bs.getD p false&&(!bs.getD q false&&tb p q))=true then aI (d+8) cMA L2.2.2 (maT units bs (some p) (some q) mates asked) .brk (maT units bs (some p) (some q) (mates++[p,q]) asked') else aI (d+8) cMA L2.2.2 (maT units bs (some p) (some q) mates asked) .next (maT units bs (some p) (some q) mates asked'):=by
 have Bh:=H.n;have gp:bs[p]?=some (bs.getD p false):=by rw[ed,bA<|Nat.lt_trans wA hq];rfl
 have gq:bs[q]?=some (bs.getD q false):=by rw[ed,bA hq];rfl
 have sp:=λst e=>wS (d:=d+8) (st:=st) (e:=e) (gT bs gp)<|ah [_,_,_] (.lt .o .i<|.lt .i .u<|.le .u (.n 12)<|.g 1 0<|.lt .o<|.n<|2^40) rfl wA hq Bh;have sq:=λst e=>wS (d:=d+8) (st:=st) (e:=e) (gT bs gq)<|ah [_,_] (.lt .o .i<|.le .i (.n 12)<|.g 1 0<|.lt .o<|.n<|2^40) rfl hq Bh;generalize bs.getD p false=bp at *;generalize bs.getD q false=bq at *;have two:(("(":Str)++")").length<=cX:=by decide
 cases bp with
 |false=>
  refine⟨asked,ke _,?_⟩;rw[if_neg<|by simp];cases bq with
  |false=>exact aW (sc:=[.val<|.str ")",.val<|.str ")",.no]) (by rfl') (am (by decide)<|am (by decide:((")":Str)++")").length<=cX)<|am (sq _ _)<|am (sp _ _) aX)|true=>exact aW (sc:=[.val<|.str ")",.val<|.str "(",.no]) (by rfl')<|am (by decide)<|am (by decide:((")":Str)++"(").length<=cX)<|am (sq _ _)<|am (sp _ _) aX
 |true=>
  cases bq with
  |true=>refine⟨asked,ke _,?_⟩;rw[if_neg<|by simp];exact aW (sc:=[.val<|.str "(",.val<|.str "(",.no]) (by rfl') (am (by decide)<|am (by decide:(("(":Str)++"(").length<=cX)<|am (sq _ _)<|am (sp _ _) aX)|false=>
   have EJ:∀u∈jc units p q,u.length<=20:=λu hu=>H.ux u<|Sa<|B4 hu;have g9:(jc units p q).length<=12:=kT<|H.ul▸Bh;have hJ:zU "" (jc units p q)=true:=Hz EJ (by have:=apZ 20 g9;exact ah [_] (.le .o (.m 12<|.n 20)<|.g 1 0<|.le .o<|.n<|2^24) rfl this);have QI:(gY ""<|jc units p q).length<=1000:=by have:=Iy EJ;have:=apZ 20 g9;exact ah [_,_] (.le .o (.m 12<|.n 20)<|.le .i .o<|.g 1 0<|.le .i<|.n 1000) rfl this (by assumption)
   have cj:=λ(st:List ae)(h:st[4]?=some (.list<|(jc units p q).map CV.str))=>AR (d:=d+8) h hJ;have ck:=λ(st:List ae)=>aap (d:=d) (st:=st) (x:=gY ""<|jc units p q) QI;rw[H.ck p q (Nat.le_of_lt wA) hq] at ck;have wx:=λ(st:List ae)(e:aq)(h:st[0]?=some (ax units))=>BN (d:=d+8) (e:=e) (x:=af p) (y:=.int<|(q:Int)+1) (lo:=some (p:Int)) (hi:=some<|(q:Int)+1) h rfl rfl (by have:=H.ul;exact ah [_,_] (.eq .o .i<|.le .i (.n 12)<|.g 1 0<|.le .o<|.n<|2^20) rfl this Bh);have eU:(units.drop<|eZ (some (p:Int)) units.length).take (i5 (some<|(q:Int)+1) units.length-eZ (some (p:Int)) units.length)=jc units p q:=by show(units.drop<|nH units.length (p:Int)).take (nH units.length ((q+1:Nat):Int)-nH units.length (p:Int))=_;rw[uP,uP,H.ul,zH (by lia),zH (by lia),jc]
   rw[eU] at wx;have QJ:=λ(st:List ae)(e:aq)=>yu (d:=d+8) (e:=e) (x:=bh bs) (a:=af p) (b:=.int<|(q:Int)+1) (lo:=some (p:Int)) (hi:=some<|(q:Int)+1) rfl rfl (st:=st) (by have:=yJ (bh bs) (some (p:Int))<|some<|(q:Int)+1;rw[np] at this;show _<=2^24;exact ah [_,_] (.le .o (.n 12)<|.le .i .o<|.g 1 0<|.le .i<|.n<|2^24) rfl Bh this);rw[akP hq<|by lia] at QJ;have evn:=λ(st:List ae)=>aaq (d:=d+6) (st:=st) (x:=bh<|k9 bs p q) (by rw[np];exact kT<|fC Bh<|by decide);rw[H.ev p q (Nat.le_of_lt wA) hq] at evn;generalize gY "" (jc units p q)=J at *;generalize bh (k9 bs p q)=E at *;generalize jc units p q=U at *;generalize tb p q=b at *;have ap:=λ(st:List ae)(h:st[3]?=some (.list<|asked.map bbV))=>mX (d:=d+8) (st:=st) (k:=3) (v:=bbV b) h (by rw[aV];show _<2^24;exact ah [_] (.le .o (.n<|2^18)<|.g 1 0<|.lt .o<|.n<|2^24) rfl ha);rw[show asked.map bbV++[bbV b]=(asked++[b]).map bbV by rw[fU];rfl] at ap;have l1:=λ(st:List ae)(e:aq)(h:st[3]?=some (.list<|(asked++[b]).map bbV))=>uI (d:=d+8) (e:=e) (i:=-1) (j:=asked.length) (v:=bbV b) h (by decide) (by rw[aV,dJ,Kt];exact Mt (by rw[if_pos<|by decide];exact ah [_] (.g 1 1<|.ie (.a (.n<|-1)<|.c<|.a .o .j)<|.c .o) rfl)<|rg _) (by rw[dN,dT<|aG _,fk];rfl);refine⟨asked++[b],by rw[dJ];exact aG _,?_⟩;have rX:∀mates',((maT units bs (some p) (some q) mates'<|asked++[b]).all λo=>o.lo 4)=true:=λ_=>zm<|aG _;cases b with
   |false=>
    rw[if_neg<|by simp];refine aI.drop (g:=[ax U]) ?_ (aG _) (rX _) rfl;exact aW (sc:=[.val<|.str "(",.val<|.str ")",.yes,.bg (.bi "list.append") [.ab 3],.bg (.bi "str.join") [.str ""],.c7 (.ab 4) λst=>st++[ax U],.val<|.str J,.val<|.bool false,.val<|.str E,.val<|.bool false,.c7 .none λst=>st.set 3<|.list<|(asked++[false]).map bbV,.val<|bbV false,.val<|.bool false,.cw]) (by rfl')
     (am (afj (j:=0) (by decide) rfl rfl)<|am (l1 _ _ rfl)<|am (ap _ rfl)<|am gP<|am wM<|am (evn _)<|am (cK QG)<|am (QJ _ _)<|am (ck _)<|am (cK QF)<|am (cj _ rfl)<|am gP<|am (wx _ _ rfl)<|am yx<|am (jX rfl)<|am (by decide)<|am two<|am (sq _ _)<|am (sp _ _) aX)
   |true=>
    rw[if_pos<|by simp];have ex:=λ(st:List ae)(h:st[2]?=some (a0 mates))(h5:st[5]?=some (.list [af p,af q]))=>XF (d:=d+8) (st:=st) (k:=2) (j:=5) h h5 (by rw[aV,aV];show _+2<=_;exact ah [_] (.le .o (.n<|2^18)<|.g 1 0<|.le (.a .o<|.n 2)<|.n<|2^20) rfl hm);rw[show (mates.map λm:Nat=>(m:Int)).map CV.int++[af p,af q]=((mates++[p,q]).map λm:Nat=>(m:Int)).map CV.int by rw[fU,fU];rfl] at ex;refine aI.drop (g:=[ax U,.list [af p,af q]]) ?_ (aG _) (rX _) rfl;exact aW (sc:=[.val<|.str "(",.val<|.str ")",.yes,.bg (.bi "list.append") [.ab 3],.bg (.bi "str.join") [.str ""],.c7 (.ab 4) λst=>st++[ax U],.val<|.str J,.val<|.bool true,.val<|.str E,.val<|.bool true,.c7 .none λst=>st.set 3<|.list<|(asked++[true]).map bbV,.val<|bbV true,.val<|.bool true,.cw,.bg (.bi "list.extend") [.ab 2],.c7 .none λst=>st.set 2<|a0<|mates++[p,q]]) (by rfl')
     (am (ex _ rfl rfl)<|am gP<|am wM<|am (Nz rfl)<|am (afj (j:=0) (by decide) rfl rfl)<|am (l1 _ _ rfl)<|am (ap _ rfl)<|am gP<|am wM<|am (evn _)<|am (cK QG)<|am (QJ _ _)<|am (ck _)<|am (cK QF)<|am (cj _ rfl)<|am gP<|am (wx _ _ rfl)<|am yx<|am (jX rfl)<|am (by decide)<|am two<|am (sq _ _)<|am (sp _ _) aX)
theorem t9 (H:H5 units bs tb){p:Nat}{mates:List Nat}(hm:mates.length<=2^17):∀k q0 kq asked,p<q0->q0+k=bs.length->asked.length+k<=2^17->∃kq' asked',asked'.length<=asked.length+k∧fG (d+8) cMA L2.1 L2.2.2 (λ_=>True) ((fc q0 k).map af) (maT units bs (some p) kq mates asked) .next (maT units bs (some p) kq' (mates++dm bs tb p (fc q0 k)) asked')
 |0,q0,kq,asked,_,_,_=>⟨kq,asked,aG _,by show fG _ _ _ _ _ [] _ _ (maT _ _ _ _ (mates++[]) _);rw[dM];exact .nil trivial⟩|k+1,q0,kq,asked,h1,h2,h3=>by
  obtain⟨asked1,l1,T⟩:=IV (d:=d) H (mates:=mates) (asked:=asked) h1 (h2▸Nat.lt_add_of_pos_right (Nat.succ_pos k)) (ah [_] (.le .o (.n<|2^17)<|.g 1 0<|.le .o<|.n<|2^18) rfl hm)<|ah [_,_] (.le (.a .o .i) (.n<|2^17)<|.g 1 0<|.le .o<|.n<|2^18) rfl h3;have A:dj (d+8) cMA L2.1 (af q0) (maT units bs (some p) kq mates asked) (maT units bs (some p) (some q0) mates asked):=by cases kq<;>exact i4 (sc:=[]) rfl aX
  rw[mO,eC];unfold dm;rw[vV];cases z:(bs.getD p false&&(!bs.getD q0 false&&tb p q0)) with|true=>rw[z,if_pos rfl] at T;exact⟨_,asked1,by exact ah [_,_,_,_] (.le .o (.a .i .u)<|.g 1 0<|.le .o<|.a .i<|.a .w .u) rfl l1,.brk trivial A T⟩|false=>rw[z,if_neg fL] at T;obtain⟨kq',asked',l2,L⟩:=t9 H hm k (q0+1) (some q0) asked1 (Nat.lt_succ_of_lt h1) ((Nat.add_right_comm q0 1 k).trans h2)<|ah [_,_,_] (.le .o (.a .i .j)<|.le (.a .i<|.a .u .j) (.n<|2^17)<|.g 1 0<|.le (.a .o .u)<|.n<|2^17) rfl l1 h3;exact⟨kq',asked',by exact ah [_,_,_,_,_] (.le .o (.a .i .u)<|.le .i (.a .w .x)<|.g 1 0<|.le .o<|.a .w<|.a .u .x) rfl l2 l1,.cons trivial A T (.inl rfl) L⟩
theorem EB {p:Nat}{qs:List Nat}:(dm bs tb p qs).length<=2:=by unfold dm;split;exact aG 2;exact dQ 2
theorem uj (H:H5 units bs tb):∀k p0 kp kq mates asked,p0+k=bs.length->mates.length+2*k<=2^16->asked.length+12*k<=2^16->∃kp' kq' asked',asked'.length<=asked.length+12*k∧fG (d+8) cMA qF.1 qF.2.2 (λ_=>True) ((fc p0 k).map af) (maT units bs kp kq mates asked) .next (maT units bs kp' kq' (mates++(fc p0 k).flatMap λp=>dm bs tb p (fc (p+1) (bs.length-(p+1)))) asked')
 |0,p0,kp,kq,mates,asked,_,_,_=>⟨kp,kq,asked,aG _,by show fG _ _ _ _ _ [] _ _ (maT _ _ _ _ (mates++[]) _);rw[dM];exact .nil trivial⟩|k+1,p0,kp,kq,mates,asked,h1,h2,h3=>by
  have Bh:=H.n;have le:p0+1<=bs.length:=h1▸Nat.add_le_add_left (Nat.succ_le_succ<|dQ _) p0;have e:(bs.length:Int)=((p0+1+(bs.length-(p0+1)):Nat):Int):=congrArg Nat.cast (Nat.add_sub_of_le le).symm;obtain⟨kq1,asked1,l1,L1⟩:=t9 (d:=d) H (p:=p0) (mates:=mates) (fC (Nat.le_of_add_right_le h2)<|by decide) (bs.length-(p0+1)) (p0+1) (kp.bind λ_=>kq) asked (Nat.lt_succ_self p0) (Nat.add_sub_of_le le) (fC (Nat.add_le_add (Nat.le_of_add_right_le h3)<|fC (Nat.sub_le _ _) Bh)<|by decide);have l1:=fC l1<|Nat.add_le_add_left (fC (Nat.sub_le _ _) Bh) asked.length;have lf:=EB (bs:=bs) (tb:=tb) (p:=p0) (qs:=fc (p0+1)<|bs.length-(p0+1));obtain⟨kp',kq',asked',l2,L⟩:=uj H k (p0+1) (some p0) kq1 (mates++dm bs tb p0 (fc (p0+1)<|bs.length-(p0+1))) asked1 ((Nat.add_right_comm p0 1 k).trans h1) (by rw[dJ];exact ah [_,_,_] (.le (.a .o<|.m 2<|.a .i .j) (.n<|2^16)<|.le .u (.n 2)<|.g 1 0<|.le (.a (.a .o .u)<|.m 2 .i)<|.n<|2^16) rfl h2 lf)<|ah [_,_,_] (.le .o (.a .i<|.n 12)<|.le (.a .i<|.m 12<|.a .u .j) (.n<|2^16)<|.g 1 0<|.le (.a .o<|.m 12 .u)<|.n<|2^16) rfl l1 h3;have A:dj (d+8) cMA qF.1 (af p0) (maT units bs kp kq mates asked) (maT units bs (some p0) (kp.bind λ_=>kq) mates asked):=by cases kp<;>cases kq<;>exact i4 (sc:=[]) (by rfl') aX
  generalize (kp.bind λ_=>kq)=kq0 at *;have it:a8 (d+8) cMA L2.2.1 (maT units bs (some p0) kq0 mates asked) (.fW ((p0+1:Nat):Int) (bs.length:Int) 1) (maT units bs (some p0) kq0 mates asked):=by
   have ln:∀st:List ae,bk (d+8) (.bi "len") [.str<|bh bs] [] st (.int bs.length) st:=λst=>by have:=afn (d:=d+8) (st:=st) (x:=bh bs) (by rw[np];exact ah [_] (.le .o (.n 12)<|.g 1 0<|.it (.c .o)<|.n<|2^63) rfl Bh);rwa[np] at this
   cases kq0<;>exact dk (sc:=[.val<|.int bs.length,.val<|.fW ((p0+1:Nat):Int) (bs.length:Int) 1]) (by rfl')<|am afp<|am yn<|am (ln _)<|am gP aX
  rw[e] at it;have F:dB (d+8) cMA (g7 qF.2.2 0) (maT units bs (some p0) kq0 mates asked) .next (maT units bs (some p0) kq1 (mates++dm bs tb p0 (fc (p0+1)<|bs.length-(p0+1))) asked1):=
   (OM (p0+1) (bs.length-(p0+1))<|by rw[Nat.add_sub_of_le le];exact fC Bh<|by decide).elim λS=>mq S rfl it trivial L1
  have B:aI (d+8) cMA qF.2.2 (maT units bs (some p0) kq0 mates asked) .next (maT units bs (some p0) kq1 (mates++dm bs tb p0 (fc (p0+1)<|bs.length-(p0+1))) asked1):=
   aW (sc:=[.iX .next (maT units bs (some p0) kq1 (mates++dm bs tb p0 (fc (p0+1)<|bs.length-(p0+1))) asked1)]) (by rfl') (am F aX)
  rw[mO,eC,aab,<-eJ];exact⟨kp',kq',asked',ah [_,_,_,_] (.le .o (.a .i<|.m 12 .u)<|.le .i (.a .w<|.n 12)<|.g 1 0<|.le .o<|.a .w<|.m 12<|.a .u .j) rfl l2 l1,.cons trivial A B (.inl rfl) L⟩
noncomputable def j8 (bs:List Bool)(tb:Nat->Nat->Bool):List Nat:=(aK bs.length).flatMap λp=>dm bs tb p (fc (p+1) (bs.length-(p+1)))
theorem Qv (H:H5 units bs tb):bM (d+10) (.aH 311) [.str (bh bs),.ab 0] [] [ax units] (.cB [.ab 1,.ab 2]) ([ax units]++[a0 (j8 bs tb),.list []]):=by
 have Bh:=H.n;obtain⟨p,q,asked,l1,L⟩:=uj (d:=d) H bs.length 0 none none [] [] (ah [_] (.g 1 1<|.eq (.a .k .o) .o) rfl) (by show 0+2*_<=_;exact ah [_] (.c 2 0 (.le .o<|.n 12)<|.g 1 0<|.le (.a .k<|.m 2 .o)<|.n<|2^16) rfl Bh) (by show 0+12*_<=_;exact ah [_] (.c 12 0 (.le .o<|.n 12)<|.g 1 0<|.le (.a .k<|.m 12 .o)<|.n<|2^16) rfl Bh);have l1:asked.length<=12*bs.length:=by simpa using l1
 rw[<-pW,xL] at L;have L:fG (d+8) cMA qF.1 qF.2.2 (λ_=>True) ((aK bs.length).map af) (maT units bs none none [] []) .next (maT units bs p q (j8 bs tb) asked):=L;generalize j8 bs tb=M at *;have ln:∀st:List ae,bk (d+8) (.bi "len") [.str<|bh bs] [] st (.int bs.length) st:=λst=>by have:=afn (d:=d+8) (st:=st) (x:=bh bs) (by rw[np];exact ah [_] (.le .o (.n 12)<|.g 1 0<|.it (.c .o)<|.n<|2^63) rfl Bh);rwa[np] at this
 have F:dB (d+8) cMA (g7 dMA.body 1) (maT units bs none none [] []) .next (maT units bs p q M asked):=
  (mE bs.length<|ah [_] (.le .o (.n 12)<|.g 1 0<|.le .o<|.n<|2^20) rfl Bh).elim λS=>mq S rfl (dk (sc:=[.val<|.int bs.length,.val<|.fW 0 bs.length 1]) (by rfl')<|am afo<|am yn<|am (ln _)<|am gP aX) trivial L
 have C:a8 (d+8) cMA (ew (iL<|g7 dMA.body 2) 1) (maT units bs p q M asked) (.ab 4) (maT units bs p q M asked++[.list []]):=by
  have:=oJ (b30 (d:=d+8) (c:=cMA) (cl:=[]) (T:=maT units bs p q M asked) (st:=maT units bs p q M asked) (n:=4) (x:="one") (a:=.ab 3) (P:=λst=>st[3]?=some (.list<|asked.map bbV)) (xs:=asked) (λ_=>false) bbV bbV (elt:=ew (ew (iL<|g7 dMA.body 2) 1) 0) (iter:=kZ<|ew (iL<|g7 dMA.body 2) 1) (ifs:=[wE<|ew (iL<|g7 dMA.body 2) 1]) (fJ:=0) (px:=AT (uL<|ew (iL<|g7 dMA.body 2) 1).target) (pos:=AT<|ew (iL<|g7 dMA.body 2) 1) (scope:=fH<|ew (iL<|g7 dMA.body 2) 1) ⟨⟨by rfl',by rfl',by rfl',by rfl',by rfl'⟩,by rfl',
   dk (sc:=[]) (by cases p<;>cases q<;>rfl') aX,⟨rI 3 _⟩,λ_=>rfl,rfl,aG _,zm<|aG _,by rw[aV];exact ah [_,_] (.le .o (.m 12 .i)<|.c 12 0 (.le .i<|.n 12)<|.g 1 0<|.le .o<|.n<|2^20) rfl l1 Bh⟩
   (λb _ acc _=>⟨ms (by exact nX (sc:=[.val<|.bool b,.val<|.bool b,.val<|.bool false]) (by rfl')<|am (by have:=yq (d:=d+8) (st:=maT units bs p q M asked++[.list acc,.frame [("one",bbV b)]]) (a:=.bool b) (b:=.bool b) (r:=true) (by cases b<;>rfl);exact this)<|am (afj (j:=1) (by decide) rfl rfl)<|am (afj (j:=0) (by decide) rfl rfl) aX),nofun,rfl⟩))
  rw[aac.mpr<|λ_ _=>fL] at this;exact this
 have B:aI (d+8) cMA dMA.body [ax units,.frame [("units",.ab 0),("signs",.str<|bh bs)]] (.ret<|.cB [.ab 2,.ab 4]) (maT units bs p q M asked++[.list []]):=
  aW (sc:=[.iX .next (maT units bs p q M asked),.aE (.ab 4)<|maT units bs p q M asked++[.list []]]) (by cases p<;>cases q<;>rfl') (am wM<|am C<|am F<|am wM<|am (by decide:0<=cX)<|am (by decide:0<=cX) aX)
 have hb:db fMA [ax units] [.str<|bh bs,.ab 0] [] [("signs",.str<|bh bs),("units",.ab 0)] [ax units]:=qA (λv1 v2 S=>by kernel_rfl) gF;have c:=SY.code (tab:=none) (g:=[]) (ag:=maT units bs p q M asked++[.list []]) hb (by kernel_rfl) nofun (by rw[dM];exact B) (.inl rfl) (by show 1<=5;decide) (cC (zm<|by show 4<=5;decide) rfl) rfl;exact c.qr<|yk [0,2,4] (by decide) (cq (fz<|yM _ _)<|cq (fz<|tM<|NT _)<|cq rfl iF) rfl rfl
end
end
section
variable {d:Nat}
theorem S0:gu 323 dRU fRU:=iM (by kernel_rfl) (by kernel_rfl) (by decide +kernel)
abbrev cRU:aY:=da dRU.scope 25 none
noncomputable def kvH:Option Nat->Option Str->List (Str×CV)
 |none,_=>[]|some h,none=>[("hour",af h)]|some h,some n=>[("hour",af h),("name",.str n)]
def ruA (c:Nat->List Str)(l1 l2:Int)(e l:List Nat)(q1 q2:List Str):List ae:=[.list (dX 1 6),ax (c 0),ax (c 1),ax (c 2),ax (c 3),ax (c 4),ax (c 5)]++lg 7 [] l1 q1++lg 15 [] l2 q2++[a0 e,a0 l]
def ruT (c:Nat->List Str)(l1 l2:Int)(e l:List Nat)(h:Option Nat)(n:Option Str)(q1 q2:List Str)(hs:List (Str×Str)):List ae:=ruA c l1 l2 e l q1 q2++[.frame (("late",.ab 24)::("early",.ab 23)::("second",.ab 21)::("first",.ab 13)::("comers",.ab 0)::("left",.ab 27)::kvH h n),.bt [("_headers",.ab 28)],.bE 281 26,.list (hs.map br)]
def gX:aq×aq×List bl:=dc dRU.body
def M4:aq×aq×List bl:=dc gX.2.2
section
variable {c:Nat->List Str}{l1 l2:Int}{e l:List Nat}{h:Option Nat}{n:Option Str}{q1 q2:List Str}{hs:List (Str×Str)}
theorem IW (g:List ae):t5 (ruT c l1 l2 e l h n q1 q2 hs++g) 7 [] l1 q1:=D3 rfl rfl rfl rfl rfl rfl rfl rfl
theorem IX (g:List ae):t5 (ruT c l1 l2 e l h n q1 q2 hs++g) 15 [] l2 q2:=D3 rfl rfl rfl rfl rfl rfl rfl rfl
theorem S2 (g:List ae):om (ruT c l1 l2 e l h n q1 q2 hs++g) 26 27 28 hs:=⟨rfl,rfl,rfl⟩
theorem Qw:∀k<6,(ruT c l1 l2 e l h n q1 q2 hs)[1+k]?=some (ax (c k))
 |0,_=>rfl|1,_=>rfl|2,_=>rfl|3,_=>rfl|4,_=>rfl|5,_=>rfl|k+6,z=>absurd z<|ah [_,_] (.g 1 0<|.no<|.lt (.a .o .i) .i) rfl
theorem IY {k:Nat}{x:Str}(hq:q1.length<=1000):aI (d+7) cRU M4.2.2 (ruT c l1 l2 e l (some k) (some x) q1 q2 hs) .next (ruT c l1 l2 e l (some k) (some x) (q1++[x]) q2 hs):=by have D:=IW (c:=c) (l1:=l1) (l2:=l2) (e:=e) (l:=l) (h:=some k) (n:=some x) (q1:=q1) (q2:=q2) (hs:=hs) [];rw[dM] at D;exact aW (sc:=[.bg (.aH 73) [.ab 13],.c7 .none λst=>vB st 7 [] l1<|q1++[x]]) (by rfl)<|am (anu D<|ah [_] (.le .o (.n 1000)<|.g 1 0<|.le .o<|.n 1000000) rfl hq)<|am (cK anq)<|am (ans D) aX
theorem qH {k:Nat}(hk:k<6):∀xs q n,q.length+xs.length<=1000->∃n',fG (d+7) cRU M4.1 M4.2.2 (λst=>st[1+k]?=some (ax (c k))) (xs.map CV.str) (ruT c l1 l2 e l (some k) n q q2 hs) .next (ruT c l1 l2 e l (some k) n' (q++xs) q2 hs)
 |[],q,n,_=>⟨n,by rw[dM];exact .nil<|Qw k hk⟩|x::xs,q,n,hq=>by
  rw[dO] at hq;obtain⟨n',L⟩:=qH hk xs (q++[x]) (some x) (by rw[dJ,Kt];exact ah [_,_,_,_] (.le (.a .o<|.a .i .u) .w<|.g 1 0<|.le (.a (.a .o .u) .i) .w) rfl hq);rw[eJ] at L;have A:dj (d+7) cRU M4.1 (.str x) (ruT c l1 l2 e l (some k) n q q2 hs) (ruT c l1 l2 e l (some k) (some x) q q2 hs):=by cases n<;>exact i4 (sc:=[]) rfl aX
  exact⟨n',.cons (Qw k hk) A (IY<|ah [_,_,_] (.le (.a .o .i) .u<|.g 1 0<|.le .o .u) rfl hq) (.inl rfl) L⟩
theorem cn {xs:List Nat}:CV.g6 ((xs.map λm:Nat=>(m:Int)).map CV.int)=true∧CV.jV ((xs.map λm:Nat=>(m:Int)).map CV.int)=0:=⟨lJ.mpr λy hy=>by obtain⟨z,_,rfl⟩:=cu.mp hy;rfl,vj λy hy=>by obtain⟨z,_,rfl⟩:=cu.mp hy;rfl⟩
theorem j9 {st:List ae}{k h:Nat}{xs:List Nat}(hk:st[k]?=some (a0 xs)):jj (d+1) .In (af h) (.ab k) st (.bool (xs.contains h)) st:=by
 have C:=aff (d:=d) (a:=af h) hk cn.1 rfl (by rw[cn.2];exact dQ _);have e:(((xs.map λm:Nat=>(m:Int)).map CV.int).any λx=>gQ x<|af h)=xs.contains h:=by rw[aau,aau,aaJ];refine congrArg (List.any xs)<|funext λx=>?_;show((x:Int)==(h:Int))=(h==x);rw[aad,beq_iff_eq,beq_iff_eq];lia
 rwa[e] at C
theorem zn {st:List ae}{m:Nat}{ln:Int}(D:t5 st m [] ln []):bk (d+7) (.aH 66) [.ab (m+6)] [] st (.str "") (vB st m [] ln []):=by exact JH D (dQ _)<|dQ _
theorem zr {st:List ae}{m:Nat}{ln:Int}{x:Str}{r:List Str}(D:t5 st m [] ln (x::r))(hr:(x::r).length<=1000000):bk (d+7) (.aH 66) [.ab (m+6)] [] st (.str x) (vB st m [] ln r):=JH D (dQ _) hr
theorem IZ {x:Str}(h:x≠""):(!d4 x "")=true:=by have:d4 x ""=(x==""):=SeqAt.str_beq x "";rw[this,E0];exact beq_eq_false_iff_ne.mpr h
theorem M5 {k:Nat}(h1:q1.length<=1000)(h2:q2.length<=1000)(hx:∀x∈q1,x≠""):∃n',aI (d+7) cRU ((gX.2.2.drop 1).take 2) (ruT c l1 l2 e l (some k) n q1 q2 hs) .next (ruT c l1 l2 e l (some k) (some n') (cond (e.contains k) q1.tail q1) (cond (e.contains k) (q2++q1.head?.toList) q2) hs):=by
 have I:=λst h=>j9 (d:=d+6) (st:=st) (k:=23) (h:=k) (xs:=e) h;have D1:=IW (c:=c) (l1:=l1) (l2:=l2) (e:=e) (l:=l) (h:=some k) (n:=n) (q1:=q1) (q2:=q2) (hs:=hs) [];rw[dM] at D1;cases hE:e.contains k with
 |false=>rw[hE] at I;exact⟨"",by cases n<;>exact aW (sc:=[.val<|.bool false,.no,.no]) rfl (am rfl (am rfl (am (I _ rfl) aX)))⟩|true=>rw[hE] at I;cases q1 with|nil=>refine⟨"",?_⟩;show aI _ _ _ _ _ (ruT c l1 l2 e l (some k) (some "") [] (q2++[]) hs);rw[dM];cases n<;>exact aW (sc:=[.val<|.bool true,.yes,.bg (.aH 66) [.ab 13],.c7 (.str "") λst=>vB st 7 [] l1 [],.no]) rfl (am rfl (am (zn D1)<|am (cK JF)<|am (JG D1)<|am rfl (am (I _ rfl) aX)))|cons x r=>have nx:=IZ<|hx x<|.head _;have D2:=IX (c:=c) (l1:=l1) (l2:=l2) (e:=e) (l:=l) (h:=some k) (n:=some x) (q1:=r) (q2:=q2) (hs:=hs) [];rw[dM] at D2;refine⟨x,?_⟩;cases n<;>exact aW (sc:=[.val<|.bool true,.yes,.bg (.aH 66) [.ab 13],.c7 (.str x) λst=>vB st 7 [] l1 r,.yes,.bg (.aH 73) [.ab 21],.c7 .none λst=>vB st 15 [] l2<|q2++[x]]) rfl (am (anu D2<|ah [_] (.le .o (.n 1000)<|.g 1 0<|.le .o<|.n 1000000) rfl h2)<|am (cK anq)<|am (ans D2)<|am nx<|am (zr D1<|ah [_] (.le .o (.n 1000)<|.g 1 0<|.le .o<|.n 1000000) rfl h1)<|am (cK JF)<|am (JG D1)<|am rfl (am (I _ rfl) aX))
def zt (k:Nat):Str:=(cQ "abcdef").getD k ""
theorem M6 {k:Nat}(hk:k<6)(h2:q2.length<=1000)(hx:∀x∈q2,x≠""∧dH x)(hh:hs.length<=1000):∃n',aI (d+7) cRU (gX.2.2.drop 3) (ruT c l1 l2 e l (some k) n q1 q2 hs) .next (ruT c l1 l2 e l (some k) (some n') q1 (cond (l.contains k) q2.tail q2) (cond (l.contains k) (hs++(q2.head?.map (zt k,·)).toList) hs)):=by
 have I:=λst h=>j9 (d:=d+6) (st:=st) (k:=24) (h:=k) (xs:=l) h;have D1:=IX (c:=c) (l1:=l1) (l2:=l2) (e:=e) (l:=l) (h:=some k) (n:=n) (q1:=q1) (q2:=q2) (hs:=hs) [];rw[dM] at D1;cases hE:l.contains k with
 |false=>rw[hE] at I;exact⟨"",by cases n<;>exact aW (sc:=[.val<|.bool false,.no,.no]) (by rfl)<|am (by decide)<|am rfl (am (I _ rfl) aX)⟩|true=>
  rw[hE] at I;cases q2 with
  |nil=>refine⟨"",?_⟩;show aI _ _ _ _ _ (ruT c l1 l2 e l (some k) (some "") q1 []<|hs++[]);rw[dM];cases n<;>exact aW (sc:=[.val<|.bool true,.yes,.bg (.aH 66) [.ab 21],.c7 (.str "") λst=>vB st 15 [] l2 [],.no]) (by rfl) (am rfl (am (zn D1)<|am (cK JF)<|am (JG D1)<|am rfl (am (I _ rfl) aX)))|cons x r=>
   have tK:=hx x<|.head _;have nx:=IZ tK.1;have lk:(cQ "abcdef")[k]?=some (zt k)∧bY (zt k):=by
    have:∀j,j<6->(cQ "abcdef")[j]?=some (zt j)∧qC.contains (zt j)=true:=by decide +kernel
    exact this k hk
   have HA:=S2 (c:=c) (l1:=l1) (l2:=l2) (e:=e) (l:=l) (h:=some k) (n:=some x) (q1:=q1) (q2:=r) (hs:=hs) [];rw[dM] at HA;generalize zt k=y at *;refine⟨x,?_⟩;cases n<;>exact aW (sc:=[.val<|.bool true,.yes,.bg (.aH 66) [.ab 21],.c7 (.str x) λst=>vB st 15 [] l2 r,.yes,.bg (.aH 278) [.ab 27],.val<|.str y,.c7 .none λst=>st.set 28<|.list<|(hs++[(y,x)]).map br]) rfl (am (Yh (d:=d+3) HA lk.2 tK.2<|ah [_] (.le .o (.n 1000)<|.g 1 0<|.le .o<|.n 1000000) rfl hh)<|am (cK Yd)<|am (wS lk.1<|ah [_] (.lt .o (.n 6)<|.g 1 0<|.lt .o<|.n<|2^40) rfl hk)<|am (Yf HA)<|am nx<|am (zr D1<|ah [_] (.le .o (.n 1000)<|.g 1 0<|.le .o<|.n 1000000) rfl h2)<|am (cK JF)<|am (JG D1)<|am rfl (am (I _ rfl) aX))
end
end
section
variable {d:Nat}
section
variable {c:Nat->List Str}{l1 l2:Int}{e l:List Nat}
noncomputable def g5 (p:List (Nat×Str)):List (Str×Str):=p.map λp=>(zt p.1,p.2)
noncomputable abbrev ruZ (c:Nat->List Str)(e l:List Nat)(t:Nat):Q.St Str:=Q.runS c e.contains l.contains t
noncomputable def ruS (c:Nat->List Str)(l1 l2:Int)(e l:List Nat)(h:Option Nat)(n:Option Str)(z:Q.St Str):List ae:=ruT c l1 l2 e l h n z.q1 z.q2 (g5 z.left)
structure y7 (c:Nat->List Str):Prop where
 x:∀t,t<6->∀x∈c t,x≠""∧dH x
 n:(Q.ord c 6).length<=5
theorem H8 (t:Nat){k:Nat}:(Q.ord c t).length<=(Q.ord c (t+k)).length:=by induction k with|zero=>exact aG _|succ k ih=>exact fC ih<|Q.A_mono c<|t+k
theorem I0 (H:y7 c):∀t,t<=6->∀x∈Q.ord c t,x≠""∧dH x
 |0,_,x,h=>nomatch h|t+1,q,x,h=>(f7.mp h).elim (I0 H t (ah [_,_,_] (.le (.a .o .i) .u<|.g 1 0<|.le .o .u) rfl q) x)<|H.x t (ah [_,_] (.le (.a .o .j) .i<|.g 1 0<|.lt .o .i) rfl q) x
theorem SF {α:Type}:∀(o:Option α),o.toList.length<=1
 |none=>dQ _|some _=>aG _
theorem zu {E L:Nat->Bool}:∀t,(Q.gone c E L t).length<=t
 |0=>aG _|t+1=>by
  have:=zu (E:=E) (L:=L) t;rw[Q.gone,dJ];split
  ·exact Nat.add_le_add this<|SF _
  exact Nat.le_succ_of_le this
structure S3 (z:Q.St Str):Prop where
 n:z.q1.length+z.q2.length<=5
 x1:∀x∈z.q1,x≠""∧dH x
 x2:∀x∈z.q2,x≠""∧dH x
 l:z.left.length<=6
theorem M7 (H:y7 c){t:Nat}(ht:t<=6):S3 (ruZ c e l t):=by have o:=H8 (c:=c) t (k:=6-t);rw[Nat.add_sub_of_le ht] at o;rw[ruZ,Q.run_eq c e.contains l.contains t];refine⟨?_,λx hx=>I0 H t ht x<|Sa hx,λx hx=>I0 H t ht x<|B4<|Sa hx,fC (zu t) ht⟩;rw[jA,jA,nG];exact fC (kM _ _ _)<|fC o H.n
theorem I3 (H:y7 c){t:Nat}{n:Option Str}(ht:t<6):∃n',aI (d+7) cRU gX.2.2 (ruS c l1 l2 e l (some t) n (ruZ c e l t)) .next (ruS c l1 l2 e l (some t) (some n') (ruZ c e l (t+1))):=by
 have I:=M7 (e:=e) (l:=l) H<|Ff ht;have o:=H8 (c:=c) (t+1) (k:=6-(t+1));rw[Nat.add_sub_of_le ht] at o;have cl:(c t).length<=5:=by have:=H.n;have e1:(Q.ord c<|t+1).length=(Q.ord c t).length+(c t).length:=dJ;exact ah [_,_,_,_,_] (.c (-1) 0 (.eq .o<|.a .i .u)<|.le .o .w<|.le .w .x<|.g 1 0<|.le .u .x) rfl e1 o this
 have S1:ruZ c e l (t+1)=Q.serve2 (l.contains t) t (Q.serve1 (e.contains t) {ruZ c e l t with q1:=(ruZ c e l t).q1++c t}):=rfl;rw[S1];have hx:=H.x t ht;generalize ruZ c e l t=z at *;obtain⟨q1,q2,lf⟩:=z;have n5:q1.length+q2.length<=5:=I.n;have lf6:lf.length<=6:=I.l;obtain⟨n1,L⟩:=qH (d:=d) (l1:=l1) (l2:=l2) (e:=e) (l:=l) (q2:=q2) (hs:=g5 lf) ht (c t) q1 n<|ah [_,_,_] (.le (.a .o .i) (.n 5)<|.le .u (.n 5)<|.g 1 0<|.le (.a .o .u)<|.n 1000) rfl n5 cl;have F:dB (d+7) cRU (g7 gX.2.2 0) (ruT c l1 l2 e l (some t) n q1 q2<|g5 lf) .next (ruT c l1 l2 e l (some t) n1 (q1++c t) q2<|g5 lf):=
  mq (rI (1+t) _) rfl (by have sb:=λst h=>uI (d:=d+7) (st:=st) (e:=kZ<|.ListComp default [⟨default,M4.2.1,[],0⟩] default default) (k:=0) (xs:=dX 1 6) (i:=(t:Int)) (j:=t) (v:=.ab<|1+t) h (by lia) (rM ht)<|X2 ht;cases n<;>exact dk (sc:=[.val<|.ab<|1+t]) (by rfl')<|am (λA own s x y q S ra rb=>sb _ rfl A own s x y q S ra rb) aX) (Qw t ht) L
 obtain⟨n2,B1⟩:=M5 (d:=d) (c:=c) (l1:=l1) (l2:=l2) (e:=e) (l:=l) (n:=n1) (q1:=q1++c t) (q2:=q2) (by rw[dJ];exact ah [_,_,_] (.le (.a .o .i) (.n 5)<|.le .u (.n 5)<|.g 1 0<|.le (.a .o .u)<|.n 1000) rfl n5 cl) (ah [_,_] (.le (.a .o .i) (.n 5)<|.g 1 0<|.le .i<|.n 1000) rfl n5)<|λx h=>(f7.mp h).elim (λh=>(I.x1 x h).1)<|λh=>(hx x h).1;obtain⟨n3,B2⟩:=M6 (q1:=cond (e.contains t) (q1++c t).tail<|q1++c t) (q2:=cond (e.contains t) (q2++(q1++c t).head?.toList) q2) (hs:=g5 lf) ht (by
  cases e.contains t
  ·exact fC (Nat.le_add_left _ _) (fC n5<|by decide)
  ·show(q2++_).length<=_;rw[dJ];have:=SF (q1++c t).head?;exact ah [_,_,_] (.le (.a .o .i) (.n 5)<|.le .u .j<|.g 1 0<|.le (.a .i .u)<|.n 1000) rfl n5 this) (λx h=>by
  cases hE:e.contains t with
  |false=>rw[hE] at h;exact I.x2 x h|true=>
   rw[hE] at h;rcases f7.mp h with h|h
   ·exact I.x2 x h
   have:x∈q1++c t:=List.mem_of_mem_head? (by simpa using h);exact(f7.mp this).elim (I.x1 x)<|hx x) (by rw[g5,aV];exact ah [_] (.le .o (.n 6)<|.g 1 0<|.le .o<|.n 1000) rfl lf6)
 refine⟨n3,jY 1 (aW (sc:=[.iX .next (ruT c l1 l2 e l (some t) n1 (q1++c t) q2<|g5 lf)]) (by rfl')<|am F aX) ?_⟩;have B:=iH B1 B2;cases h1:e.contains t<;>cases h2:l.contains t<;>rw[h1,h2] at B
 ·exact B
 ·have:g5 lf++(q2.head?.map (zt t,·)).toList=g5 (lf++(q2.head?.map (t,·)).toList):=by rw[g5,g5,fU];cases q2<;>rfl
  have B:aI (d+7) cRU (gX.2.2.drop 1) (ruT c l1 l2 e l (some t) n1 (q1++c t) q2<|g5 lf) .next (ruT c l1 l2 e l (some t) (some n3) (q1++c t) q2.tail<|g5 lf++(q2.head?.map (zt t,·)).toList):=B;rwa[this] at B
 ·exact B
 have B:aI (d+7) cRU (gX.2.2.drop 1) (ruT c l1 l2 e l (some t) n1 (q1++c t) q2<|g5 lf) .next (ruT c l1 l2 e l (some t) (some n3) (q1++c t).tail (q2++(q1++c t).head?.toList).tail<|g5 lf++((q2++(q1++c t).head?.toList).head?.map (zt t,·)).toList):=B;have:∀q:List Str,g5 lf++(q.head?.map (zt t,·)).toList=g5 (lf++(q.head?.map (t,·)).toList):=λq=>by rw[g5,g5,fU];cases q<;>rfl
 rwa[this] at B
theorem u5 (H:y7 c):∀k t h n,t+k=6->∃h' n',fG (d+7) cRU gX.1 gX.2.2 (λ_=>True) ((fc t k).map af) (ruS c l1 l2 e l h n (ruZ c e l t)) .next (ruS c l1 l2 e l h' n' (ruZ c e l 6))
 |0,t,h,n,q=>⟨h,n,by obtain rfl:t=6:=q;exact .nil trivial⟩|k+1,t,h,n,q=>by
  obtain⟨n1,B⟩:=I3 H (t:=t)<|ah [_,_,_] (.eq (.a .o<|.a .i .j) .u<|.g 1 0<|.lt .o .u) rfl q;obtain⟨h',n',L⟩:=u5 H k (t+1) (some t) (some n1)<|ah [_,_,_,_] (.c 1 (-1) (.eq (.a .o<|.a .i .u) .w)<|.g 1 1<|.eq (.a (.a .o .u) .i) .w) rfl q;have A:dj (d+7) cRU gX.1 (af t) (ruS c l1 l2 e l h n<|ruZ c e l t) (ruS c l1 l2 e l (some t) (h.bind λ_=>n)<|ruZ c e l t):=by cases h<;>cases n<;>exact i4 (sc:=[]) rfl aX
  exact mO▸eC▸⟨h',n',.cons trivial A B (.inl rfl) L⟩
end
end
section
variable {d:Nat}
noncomputable def cS (q:List Str):List Str:=(aK 5).map λi=>q.getD i ""
theorem zw {f:Str->Bool}(h0:f ""=false):∀k q,q.length<=k->(∀x∈q,f x=true)->((aK k).map λi=>q.getD i "").filter f=q
 |0,q,h,_=>by rw[aqn.mp<|aas.mp h];rfl|k+1,[],_,_=>by have:=zw h0 k [] (dQ _)<|λ_ h=>nomatch h;rw[abK,fU,aqP,this];show [].append (Fo f [""])=[];rw[sR,h0];rfl|k+1,x::q,h,hx=>by have:=zw h0 k q (Nat.le_of_succ_le_succ h)<|λy hy=>hx y<|.tail _ hy;rw[aaH,eC,fV,sR];show(if f x=true then x::Fo f ((aK k).map λi=>q.getD i "") else _)=_;rw[if_pos<|hx x<|.head _,this]
def ruR:aq:=iL (g7 dRU.body 2)
abbrev cRR:aY:=cI cRU (fH ruR) 30 []
noncomputable def zx (m:Nat)(v:CV):List (Str×CV):=[("step",v),("desk",.ab (m+6))]
section
variable {D:List Str->List ae}{m:Nat}{ln:Int}
theorem zy (hD:∀q g,t5 (D q++g) m [] ln q)(hs:∀q q' g,vB (D q++g) m [] ln q'=D q'++g)(hl:∀q,(D q).length=29){q:List Str}(hq:q.length<=5){acc:List CV}{w:List (Str×CV)}(hw:fj ["step"] w=zx m .any)(ha:CV.cV 0 acc=true)(hb:acc.length<=2^19):∃w',fj ["step"] w'=zx m .any∧jS (d+7) cRR ruR 29 1 (λ_=>True) ((aK 5).map af) (D q++[ae.list acc,ae.frame w]) (D []++[ae.list (acc++(cS q).map CV.str),ae.frame w']):=by
 obtain⟨F',⟨w',e1,e2⟩,r⟩:=lv (d:=d+7) (c:=cRR) (e:=ruR) (k:=29) (n:=1) (P:=λ_=>True) (xs:=aK 5) (φ:=af) (out:=λi _=>[.str<|q.getD i ""]) (T:=λi=>D<|q.drop i) (m:=0) (Fr:=λF=>∃w,F=[.frame w]∧fj ["step"] w=zx m .any) (λ_ _ _=>trivial) (λ_ _ _=>rfl) (λi v acc F hv _ ha ⟨w,e1,e2⟩=>by
  subst e1;refine⟨_,⟨(zx m<|af v),rfl,rfl⟩,λzs ag r=>dZ ["step"] (hl _) trivial e2 ?_⟩;have A:dj (d+7) cRR (.Name "step"<|AT ((ep ruR).gs.getD 1 default).target) (af v) (D (q.drop i)++[.list acc,.frame<|zx m .any]) (D (q.drop i)++[.list acc,.frame<|zx m<|af v]):=by have:=y4 (d:=d+7) (c:=cRR) (x:="step") (pos:=AT ((ep ruR).gs.getD 1 default).target) (g:=[]) (o:=.list acc) (fv:=zx m .any) (v:=af v) (hl<|q.drop i) rfl (by rfl);rwa[zx,OT] at this
  have E:a8 (d+7) cRR (ew ruR 0) (D (q.drop i)++[.list acc,.frame<|zx m<|af v]) (.str<|q.getD i "") (D (q.drop<|i+1)++[.list acc,.frame<|zx m<|af v]):=by
   have DD:=hD (q.drop i) [.list acc,.frame<|zx m<|af v];refine Lu (by rfl) (by decide) (nh rfl rfl (hl _) rfl (by rfl) rfl rfl) (JG DD) sW F8 (cK JF) ?_ (by rfl);cases z:q.drop i with
   |nil=>
    rw[z] at DD;have g:=zn (d:=d) DD;rw[hs] at g;have e1:q.getD i ""="":=by rw[ed,B5<|ap'.mp z];rfl
    rwa[e1,<-Ki,z]
   |cons x r=>
    rw[z] at DD;have g:=zr (d:=d) DD (by have:=congrArg oG z;rw[jA] at this;omega);rw[hs] at g;have e1:q.getD i ""=x:=by have:=sL (xs:=q) (i:=i) (j:=0);rw[z] at this;rw[ed,show q[i]?=some x by simpa using this.symm];rfl
    rwa[e1,<-Ki,z]
  have M:=GO (gens:=l9 ruR) (sc:=fH ruR) (pos:=AT ruR) E (ajt<|hl _) (show acc.length<2^24 by have:=ha;exact ah [_,_] (.le (.a .o .i) (.n<|2^20)<|.g 1 0<|.lt .o<|.n<|2^24) rfl this);rw[X3<|hl _] at M;exact .wk trivial (g:=⟨.Name "step"<|AT ((ep ruR).gs.getD 1 default).target,((ep ruR).gs.getD 1 default).iter,[],0⟩) (by rfl) rfl A oT (by exact M) r) (aK 5) 0 acc [.frame w] rfl ⟨w,rfl,hw⟩ ha (by show acc.length+5<=_;exact ah [_] (.le .o (.n<|2^19)<|.g 1 0<|.le (.a .o<|.n 5)<|.n<|2^20) rfl hb)
 subst e1;have r:jS (d+7) cRR ruR 29 1 (λ_=>True) ((aK 5).map af) (D q++[.list acc,.frame w]) (D (q.drop 5)++[.list<|acc++(cS q).map CV.str,.frame w']):=r;rw[Fn hq] at r;exact⟨w',e2,r⟩
end
section
variable {c:Nat->List Str}{l1 l2:Int}{e l:List Nat}{h:Option Nat}{n:Option Str}{q1 q2:List Str}{hs:List (Str×Str)}
theorem zB {n m:Nat}{ln q}(h:n+8<=m):((lg n [] ln q).all λo=>o.lo m)=true:=by have o:∀i,i<8->(CV.ab<|n+i).lo m=true:=λi hi=>decide_eq_true (by omega);have k:∀i,i<8->decide (n+i<m)=true:=λi hi=>decide_eq_true (by omega);show((CV.ab<|n+1).lo m&&(true&&(decide (n+4<m)&&((decide (n+0<m)&&true)&&true&&(((CV.ab<|n+3).lo m&&true)&&((true&&((CV.ab<|n+2).lo m&&(true&&((CV.ab<|n+7).lo m&&true))))&&(decide (n+5<m)&&((ax q).lo m&&true))))))))=true;rw[o 1 (by decide),k 4 (by decide),k 0 (by decide),o 3 (by decide),o 2 (by decide),o 7 (by decide),k 5 (by decide),show (ax q).lo m=true from cJ _];rfl
theorem Ia {m:Nat}(hm:25<=m):((ruA c l1 l2 e l q1 q2).all λo=>o.lo m)=true:=by
 refine cC (cC (cC ?_<|zB<|ah [_] (.le (.n 25) .o<|.g 1 0<|.le (.a (.n 7)<|.n 8) .o) rfl hm)<|zB<|ah [_] (.le (.n 25) .o<|.g 1 0<|.le (.a (.n 15)<|.n 8) .o) rfl hm) ?_
 ·show(CV.cV m (dX 1 6)&&((ax _).lo m&&((ax _).lo m&&((ax _).lo m&&((ax _).lo m&&((ax _).lo m&&((ax _).lo m&&true)))))))=true;rw[X7 (by lia),show (ax<|c 0).lo m=true from cJ _,show (ax<|c 1).lo m=true from cJ _,show (ax<|c 2).lo m=true from cJ _,show (ax<|c 3).lo m=true from cJ _,show (ax<|c 4).lo m=true from cJ _,show (ax<|c 5).lo m=true from cJ _];rfl
 show((a0 e).lo m&&((a0 l).lo m&&true))=true;rw[k8,k8];rfl
noncomputable def ruW (c:Nat->List Str)(l1 l2:Int)(e l:List Nat)(h:Option Nat)(n:Option Str)(hs:List (Str×Str))(r:List (Str×CV)):List ae:=ruA c l1 l2 e l [] []++[.frame (("late",.ab 24)::("early",.ab 23)::("second",.ab 21)::("first",.ab 13)::("comers",.ab 0)::("left",.ab 27)::(kvH h n++r)),.bt [("_headers",.ab 28)],.bE 281 26,.list (hs.map br)]
theorem zC {m:Nat}{r:List (Str×CV)}(hm:29<=m)(hr:(r.all λp=>p.2.lo m)=true):((ruW c l1 l2 e l h n hs r).all λo=>o.lo m)=true:=by
 refine cC (Ia<|ah [_] (.le (.n 29) .o<|.g 1 0<|.le (.n 25) .o) rfl hm) ?_;have k:((kvH h n++r).all λp=>p.2.lo m)=true:=by rw[RO,hr];cases h<;>cases n<;>rfl
 have o:∀i,i<29->(CV.ab i).lo m=true:=λi hi=>decide_eq_true<|ah [_,_,_] (.lt .o .i<|.le .i .u<|.g 1 0<|.lt .o .u) rfl hi hm;show(((CV.ab 24).lo m&&((CV.ab 23).lo m&&((CV.ab 21).lo m&&((CV.ab 13).lo m&&((CV.ab 0).lo m&&((CV.ab 27).lo m&&((kvH h n++r).all λp=>p.2.lo m)))))))&&(((CV.ab 28).lo m&&true)&&((CV.ab 26).lo m&&(CV.cV m (hs.map br)&&true))))=true;rw[o 24 (by decide),o 23 (by decide),o 21 (by decide),o 13 (by decide),o 0 (by decide),o 27 (by decide),o 28 (by decide),o 26 (by decide),k,HJ];rfl
theorem kb (q:List Str):(cS q).length=5:=by rw[cS,aV,fb]
theorem Qx (h1:q1.length<=5)(h2:q2.length<=5):aI (d+7) cRU ((dRU.body.drop 2).take 1) (ruT c l1 l2 e l h n q1 q2 hs) .next (ruW c l1 l2 e l h n hs [("rest",.ab 29)]++[ax (cS q2++cS q1)]):=by
 obtain⟨w1,e1,R1⟩:=zy (d:=d) (D:=λq=>ruT c l1 l2 e l h n q1 q hs) (m:=15) (ln:=l2) (λq g=>IX g) (λq q' g=>by rfl') (λq=>rfl) h2 (acc:=[]) (w:=[("desk",.ab 21)]) rfl rfl (dQ _);obtain⟨w2,e2,R2⟩:=zy (d:=d) (D:=λq=>ruT c l1 l2 e l h n q [] hs) (m:=7) (ln:=l1) (λq g=>IW g) (λq q' g=>by rfl') (λq=>rfl) h1 (acc:=[]++(cS q2).map CV.str) (w:=[("desk",.ab 13),("step",.any)]) rfl (cJ _) (by rw[xL,aV,kb];decide);have A1:∀{v:CV} {acc fv T},T.length=29->dj (d+7) cRR (.Name "desk"<|AT (uL ruR).target) v (T++[.list acc,.frame fv]) (T++[.list acc,.frame<|mj fv "desk" v]):=λ{v acc fv T} hT=>y4 (g:=[]) (o:=.list acc) hT rfl (by rfl');have I:∀{T acc q},a8 (d+7) cRR ((ep ruR).gs.getD 1 default).iter (T++[ae.list acc,.frame q]) (.fW 0 5 1) (T++[ae.list acc,.frame q]):=dk (sc:=[.val<|.fW 0 5 1]) (by rfl')<|am afo<|am yn aX;have run:jS (d+7) cRR ruR 29 0 (λ_=>True) [.ab 21,.ab 13] (ruT c l1 l2 e l h n q1 q2 hs++[.list [],.frame []]) (ruT c l1 l2 e l h n [] [] hs++[.list<|[]++(cS q2).map CV.str++(cS q1).map CV.str,.frame w2]):=by
  have L:=jS.LY (d:=d+7) (c:=cRR) (e:=ruR) (k:=29) (n:=0) (P:=λ_=>True) (x:=.ab 13) (xs:=[]) (st:=ruT c l1 l2 e l h n q1 [] hs++[.list<|[]++(cS q2).map CV.str,.frame [("desk",.any),("step",.any)]]) (g:=⟨.Name "desk"<|AT (uL ruR).target,kZ ruR,[],0⟩) (g':=(ep ruR).gs.getD 1 default) trivial (by rfl') (by rfl') (A1 rfl) oT I (mE 5<|by decide) trivial R2 (.nil trivial);have hw:fj ["desk","step"] w1=([("desk",.any),("step",.any)]:List (Str×CV)):=by rw[<-pX (more:=["step"]) (ns:=["desk","step"]) (λz hz=>.tail _ hz),e1];rfl
  exact jS.LY (g:=⟨.Name "desk"<|AT (uL ruR).target,kZ ruR,[],0⟩) (g':=(ep ruR).gs.getD 1 default) trivial (by rfl) (by rfl) (A1 rfl) oT I (mE 5<|by decide) trivial R1 (dZ ["desk","step"] rfl trivial hw L)
 have C:=KB<|gw (d:=d+7) (c:=cRU) (elt:=ew ruR 0) (g:=⟨.Name "desk"<|AT (uL ruR).target,kZ ruR,[],0⟩) (gs:=(ep ruR).gs.drop 1) (scope:=fH ruR) (pos:=AT ruR) (st:=ruT c l1 l2 e l h n q1 q2 hs) (T:=ruT c l1 l2 e l h n q1 q2 hs) (T':=ruT c l1 l2 e l h n [] [] hs) (n:=29) (items:=[.ab 21,.ab 13]) (out:=([]++(cS q2).map CV.str)++(cS q1).map CV.str) (P:=λ_=>True) (a:=.cB [.ab 21,.ab 13]) (cl:=[]) ⟨by rfl',by rfl',by rfl',by rfl'⟩ (by cases h<;>cases n<;>exact dk (sc:=[]) (by rfl)<|am wM aX) ⟨Vk _⟩ trivial rfl rfl (aG _) (by have:=zC (c:=c) (l1:=l1) (l2:=l2) (e:=e) (l:=l) (h:=h) (n:=n) (hs:=hs) (r:=[]) (aG 29) rfl;rwa[ruW,dM] at this) (eR (eR rfl (cJ _))<|cJ _) ⟨_,⟨w2,rfl⟩,by exact run⟩;rw[xL,<-fU] at C;cases h<;>cases n<;>exact aW (sc:=[.c7 (.ab 29) λst=>(st.set 14<|ax []).set 22 (ax [])++[ax<|cS q2++cS q1]]) (by rfl)<|am C aX
def ruN:aq:=ew (iL (g7 dRU.body 3)) 1
theorem Qy {ns:List Str}(hh:hs.length<=1000)(hn:ns.length<=10)(hx:∀x∈ns,x.length<=1000):aI (d+7) cRU (dRU.body.drop 3) (ruW c l1 l2 e l h n hs [("rest",.ab 29)]++[ax ns]) (.ret (.cB [.ab 30,.ab 31])) (ruW c l1 l2 e l h n hs [("rest",.ab 29)]++[ax ns]++[.list (hs.map br)]++[ax (ns.filter λx=>!d4 x "")]):=by
 have HA:om (ruW c l1 l2 e l h n hs [("rest",.ab 29)]++[ax ns]) 26 27 28 hs:=⟨rfl,rfl,rfl⟩;have C:=oJ (b30 (d:=d+7) (c:=cRU) (cl:=[]) (T:=ruW c l1 l2 e l h n hs [("rest",.ab 29)]++[ax ns]++[.list<|hs.map br]) (st:=ruW c l1 l2 e l h n hs [("rest",.ab 29)]++[ax ns]++[.list<|hs.map br]) (n:=31) (x:="name") (a:=.ab 29) (P:=λst=>st[29]?=some (ax ns)) (xs:=ns) (λx=>!d4 x "") CV.str CV.str (elt:=ew ruN 0) (iter:=kZ ruN) (ifs:=[wE ruN]) (fJ:=0) (px:=AT (uL ruN).target) (pos:=AT ruN) (scope:=fH ruN) ⟨⟨by rfl',by rfl',by rfl',by rfl',by rfl'⟩,by rfl',
  by cases h<;>cases n<;>exact dk (sc:=[]) (by rfl) aX,⟨rI 29 _⟩,λ_=>rfl,rfl,aG _,cC (cC (zC (by decide) rfl)<|BS<|cJ _)<|BS (o:=.list<|hs.map br)<|HJ _,by rw[aV];exact ah [_] (.le .o .t<|.g 1 0<|.le .o<|.n<|2^20) rfl hn⟩
  (λx _ acc _=>⟨ms (by
   cases q:(!d4 x "")
   ·exact nX (sc:=[]) (by rw[<-q];rfl') aX
   exact nX (sc:=[]) (by rw[<-q];rfl') aX),λ_=>dk (sc:=[]) (by rfl) aX,rfl⟩))
 have C:a8 (d+7) cRU ruN (ruW c l1 l2 e l h n hs [("rest",.ab 29)]++[ax ns]++[.list<|hs.map br]) (.ab 31) (ruW c l1 l2 e l h n hs [("rest",.ab 29)]++[ax ns]++[.list<|hs.map br]++[ax<|ns.filter λx=>!d4 x ""]):=C;generalize ns.filter (λx=>!d4 x "")=r at *;cases h<;>cases n<;>exact aW (sc:=[.bg (.aH 245) [.ab 27],.c7 (.ab 30) λst=>st++[.list<|hs.map br],.c7 (.ab 31) λst=>st++[ax r]]) rfl (am wM<|am C<|am (Ig (d:=d+5) HA<|ah [_] (.le .o (.n 1000)<|.g 1 0<|.le .o<|.n 1000000) rfl hh)<|am (cK Ib)<|am (Ie HA) aX)
theorem QA:∀x,dH x->x.length=1:=λx hx=>by exact mP (dI.mp (by decide +kernel:(DC.all λx=>bT x.length 1)=true) x<|by simpa [dH] using hx)
theorem QB (H:y7 c):bM (d+9) (.aH 323) [.ab 0,.ab 13,.ab 21,.ab 23,.ab 24] [] (ruA c l1 l2 e l [] []) (.cB [.ab 25,.ab 26]) (ruA c l1 l2 e l [] []++[.list ((g5 (ruZ c e l 6).left).map br),ax ((ruZ c e l 6).q2++(ruZ c e l 6).q1)]):=by
 obtain⟨h,n,L⟩:=u5 (d:=d) (l1:=l1) (l2:=l2) (e:=e) (l:=l) H 6 0 none none rfl;have I:=M7 (e:=e) (l:=l) H<|aG 6;have L:fG (d+7) cRU gX.1 gX.2.2 (λ_=>True) ((aK 6).map af) (ruT c l1 l2 e l none none [] [] []) .next (ruS c l1 l2 e l h n<|ruZ c e l 6):=L;generalize ruZ c e l 6=z at *;obtain⟨q1,q2,lf⟩:=z;have i1:q1.length+q2.length<=5:=I.n;have i4:lf.length<=6:=I.l;have i2:∀x∈q1,x≠""∧dH x:=I.x1;have i3:∀x∈q2,x≠""∧dH x:=I.x2;have hl:(g5 lf).length<=6:=by rwa[g5,aV]
 have rf:∀q:List Str,q.length<=5->(∀x∈q,x≠""∧dH x)->(cS q).filter (λx=>!d4 x "")=q:=λq h1 h2=>zw (f:=λx=>!d4 x "") (by decide) 5 q h1<|λx hx=>IZ (h2 x hx).1;have rx:∀q:List Str,(∀x∈q,x≠""∧dH x)->∀x∈cS q,x.length<=1000:=λq h2 x hx=>by obtain⟨i,_,rfl⟩:=cu.mp hx;rw[ed];cases g:q[i]? with|none=>decide|some y=>have:=QA y (h2 y<|c8 g).2;show y.length<=1000;exact ah [_] (.eq .o .j<|.g 1 0<|.le .o<|.n 1000) rfl this
 have L:fG (d+7) cRU gX.1 gX.2.2 (λ_=>True) ((aK 6).map af) (ruT c l1 l2 e l none none [] [] []) .next (ruT c l1 l2 e l h n q1 q2<|g5 lf):=L;show bM (d+9) (.aH 323) _ [] (ruA c l1 l2 e l [] []) _ (ruA c l1 l2 e l [] []++[.list<|(g5 lf).map br,ax<|q2++q1]);generalize g5 lf=hs at *;have B0:aI (d+7) cRU (dRU.body.take 1) (ruA c l1 l2 e l [] []++[.frame [("late",.ab 24),("early",.ab 23),("second",.ab 21),("first",.ab 13),("comers",.ab 0)]]) .next (ruT c l1 l2 e l none none [] [] []):=
  aW (sc:=[.c7 (.ab 27) λst=>st++H9 26]) (by rfl') (am (ajE (d:=d+2))<|am (cK Yc) aX)
 have F:dB (d+7) cRU (g7 dRU.body 1) (ruT c l1 l2 e l none none [] [] []) .next (ruT c l1 l2 e l h n q1 q2 hs):=
  (mE 6<|by decide).elim λS=>mq S rfl (dk (sc:=[.val<|.fW 0 6 1]) (by rfl)<|am afo<|am yn aX) trivial L
 have B1:aI (d+7) cRU ((dRU.body.drop 1).take 1) (ruT c l1 l2 e l none none [] [] []) .next (ruT c l1 l2 e l h n q1 q2 hs):=aW (sc:=[.iX .next (ruT c l1 l2 e l h n q1 q2 hs)]) (by rfl)<|am F aX;have B2:=Qx (d:=d) (c:=c) (l1:=l1) (l2:=l2) (e:=e) (l:=l) (h:=h) (n:=n) (q1:=q1) (q2:=q2) (hs:=hs) (ah [_,_,_] (.le (.a .o .i) .u<|.g 1 0<|.le .o .u) rfl i1)<|ah [_,_,_] (.le (.a .o .i) .u<|.g 1 0<|.le .i .u) rfl i1;have B3:=Qy (d:=d) (c:=c) (l1:=l1) (l2:=l2) (e:=e) (l:=l) (h:=h) (n:=n) (hs:=hs) (ns:=cS q2++cS q1) (ah [_] (.le .o (.n 6)<|.g 1 0<|.le .o<|.n 1000) rfl hl) (by rw[dJ,kb,kb];decide)<|λx hx=>(f7.mp hx).elim (rx q2 i3 x)<|rx q1 i2 x;rw[aqP,rf q2 (ah [_,_,_] (.le (.a .o .i) .u<|.g 1 0<|.le .i .u) rfl i1) i3,rf q1 (ah [_,_,_] (.le (.a .o .i) .u<|.g 1 0<|.le .o .u) rfl i1) i2] at B3;have B:=jY 1 B0<|iH B1<|iH B2 B3;have hb:db fRU (ruA c l1 l2 e l [] []) [.ab 0,.ab 13,.ab 21,.ab 23,.ab 24] [] [("comers",.ab 0),("first",.ab 13),("second",.ab 21),("early",.ab 23),("late",.ab 24)] (ruA c l1 l2 e l [] []):=Hp (args:=[.ab 0,.ab 13,.ab 21,.ab 23,.ab 24]) ["comers","first","second","early","late"] (rest:=[]) (i6:=[]) (kE λv1=>kE λv2=>kE λv3=>kE λv4=>kE λv5=>yN λS=>by kernel_rfl) gF;generalize cS q2++cS q1=r at *;have c1:=S0.code (tab:=none) (g:=[]) (ag:=ruW c l1 l2 e l h n hs [("rest",.ab 29)]++[ax r]++[.list<|hs.map br]++[ax<|q2++q1]) hb (by kernel_rfl) nofun (by rwa[dM]) (.inl rfl) (by show 25<=32;decide) (cC (cC (cC (zC (by show 29<=32;decide) rfl)<|BS<|cJ _)<|BS (o:=.list<|hs.map br)<|HJ _)<|BS<|cJ _) rfl;exact c1.qr<|yk (aK 25++[30,31]) (by decide) (aoS (T:=ruA c l1 l2 e l [] []) (n:=25) rfl (Ia<|aG _) (by decide) (cq (gq (o:=.list<|hs.map br) rfl (fz<|na _ _))<|cq (gq (o:=ax<|q2++q1) rfl (fz<|yM _ _)) iF)) rfl rfl
end
end
section
variable {d:Nat}
noncomputable def flL (ns:List (Bool×Bool)):ae:=.list (ns.map flC)
theorem hZ {n:Nat}:∀(ns:List (Bool×Bool)),CV.cV n (ns.map flC)=true
 |[]=>rfl|(a,b)::ns=>by rw[eC,CV.uu,hZ ns];cases a<;>rfl
noncomputable def flF (r:Bool)(x v:Bool×Bool):Bool:=cond r (!(!x.2&&v.2)) (!v.2&&x.2)
noncomputable def pA (ns:List (Bool×Bool))(x:Bool×Bool)(lo hi:Nat)(m:Option Int):List ae:=[flL ns,im (flC x) lo hi m]
noncomputable def flW (r:Bool):List bl:=(mx (rO (b02 r).body 2)).2
section
variable {ns:List (Bool×Bool)}{x:Bool×Bool}
theorem I4 {lo hi:Nat}{m:Option Int}{v:Bool×Bool}(r)(hb:ns.length<2^17)(hv:ns[(lo+hi)/2]?=some v)(h1:lo<hi)(h2:hi<=ns.length):aI d (da (b02 r).scope 1 none) (flW r) (pA ns x lo hi m) .next (if flF r x v=true then pA ns x ((lo+hi)/2+1) hi (some ((lo+hi)/2:Nat)) else pA ns x lo ((lo+hi)/2) (some ((lo+hi)/2:Nat))):=by
 have hm:=Hs lo hi;have hp:=Ht (Ft)<|Fu (show ns.length<2^40 by lia) h1 h2;have B1:aI d (da (b02 r).scope 1 none) ((flW r).take 1) (pA ns x lo hi m) .next (pA ns x lo hi<|some ((lo+hi)/2:Nat)):=by rw[<-hm];cases r<;>cases m<;>exact aW (sc:=[]) (by rfl)<|am (And.intro (show(2:Int)≠0 by decide) hp) aX
 have sb:∀e,fF d e (.ab 0) (af<|(lo+hi)/2) (pA ns x lo hi<|some ((lo+hi)/2:Nat)) (flC v) (pA ns x lo hi<|some ((lo+hi)/2:Nat)):=λe=>by have aZ:=(bV.mp hv).1;exact uI rfl (by lia) (by rw[aV];exact rM aZ) (by rw[dN,hv];rfl)
 have T:fx d (da (b02 r).scope 1 none) (sp<|g7 (flW r) 1).e (pA ns x lo hi<|some ((lo+hi)/2:Nat)) (cond r (!x.2&&v.2)<|!v.2&&x.2) (pA ns x lo hi<|some ((lo+hi)/2:Nat)):=by
  have X:∀{p:Pos},a8 d (da (b02 r).scope 1 none) (.Name "x" p) (pA ns x lo hi<|some<|(lo+hi)/2) (flC x) (pA ns x lo hi<|some<|(lo+hi)/2):=by
   intro p;refine eu rfl rfl ?_;have:(flC x).uw=false:=by obtain⟨a,b⟩:=x;cases a<;>rfl
   cases r<;>exact CG (by rfl) (by rfl') rfl this
  have Y:∀{p q t:Pos},a8 d (da (b02 r).scope 1 none) (.Subscript (.Name "a" p) (.Name "mid" q) t) (pA ns x lo hi<|some<|(lo+hi)/2) (flC v) (pA ns x lo hi<|some<|(lo+hi)/2):=by intro p q t;cases r<;>exact dk (sc:=[.val<|flC v]) rfl (am (sb _) aX)
  cases r
  ·exact F9 rfl Y X y9
  exact F9 rfl X Y y9
 have I:dB d (da (b02 r).scope 1 none) (g7 (flW r) 1) (pA ns x lo hi<|some<|(lo+hi)/2) .next (if flF r x v=true then pA ns x ((lo+hi)/2+1) hi (some<|(lo+hi)/2) else pA ns x lo ((lo+hi)/2) (some<|(lo+hi)/2)):=by
  have e1:flF r x v=cond r (!(!x.2&&v.2)) (!v.2&&x.2):=rfl;rw[e1];cases r
  ·cases hq:(!v.2&&x.2)
   ·rw[show cond false (!x.2&&v.2) (!v.2&&x.2)=false from hq] at T;exact U3 T (λe=>nB e)<|λ_=>aW (sc:=[]) rfl aX
   rw[show cond false (!x.2&&v.2) (!v.2&&x.2)=true from hq] at T;exact U3 T (λ_=>aW (sc:=[]) rfl aX) (λe=>by exact nB' e)
  cases hq:(!x.2&&v.2)
  ·rw[show cond true (!x.2&&v.2) (!v.2&&x.2)=false from hq] at T;exact U3 T (λe=>by exact nB e)<|λ_=>aW (sc:=[]) rfl aX
  rw[show cond true (!x.2&&v.2) (!v.2&&x.2)=true from hq] at T;exact U3 T (λ_=>aW (sc:=[]) rfl aX) (λe=>by exact nB' e)
 refine jY 1 B1 ?_;cases r<;>exact U5 I U4
theorem M8 (r)(bn:ns.length<2^17)(hb:db (cond r xR Ae) [flL ns] args kw (nZ (flC x) 0 .none) [flL ns]):bM (d+3) (.aH (cond r 98 116)) args kw [flL ns] (.int (cM (flF r x) ns (ns.length+1) 0 ns.length)) [flL ns]:=by
 obtain⟨m',W⟩:=i00 (d:=d+1) (c:=da (b02 r).scope 1 none) (t:=(mx<|rO (b02 r).body 2).1) (b:=flW r) (ns:=ns) (f:=flF r x) (S:=pA ns x) (λlo hi m=>by cases r<;>exact nX (sc:=[]) (by rfl') aX) (I4 r bn) ns.length 0 ns.length none FB (aG _)<|dQ _;let z:List ae:=[flL ns,.frame [("key",.none),("hi",.none),("lo",.int 0),("x",flC x),("a",.ab 0)]];have L:bk (d+1) (.bi "len") [.ab 0] [] z (.int ns.length) z:=by have:=uJ (d:=d+1) (st:=z) (k:=0) (xs:=ns.map flC) rfl (by rw[aV];exact ah [_] (.lt .o (.n<|2^17)<|.g 1 0<|.it (.c .o)<|.n<|2^63) rfl bn);rwa[aV] at this
 generalize cM (flF r x) ns (ns.length+1) 0 ns.length=q at *;cases r<;>exact(b08 _).code hb (by kernel_rfl) (λq h=>nS h) (aW (sc:=[.val<|.bool true,.cw,.val<|.int ns.length,.val<|.bool true,.cw,.iX .next (pA ns x q q m')]) (by rfl')
  (am (CY W)<|am (ky rfl)<|am L<|am gP<|am (ky rfl) aX)) (.inl rfl) (aG _) (BS<|hZ ns) rfl
noncomputable def dv {α:Type}(f:α->Bool)(x:α)(ns:List α):List α:=ns.take (cM f ns (ns.length+1) 0 ns.length)++x::ns.drop (cM f ns (ns.length+1) 0 ns.length)
theorem u8 {α:Type}{f:α->Bool}{x:α}{ns:List α}:(dv f x ns).length=ns.length+1:=by rw[dv,dJ,dO,nG,jA];exact kN _ _
theorem Ic (r)(bn:ns.length<2^16)(y2:db (cond r xR Ae) [flL ns] [.ab 0,flC x,.int 0,.none] [] (nZ (flC x) 0 .none) [flL ns])(hb:db (cond r K5 K6) [flL ns] [.ab 0,flC x] [] [("a",.ab 0),("x",flC x),("lo",.int 0),("hi",.none),("key",.none)] [flL ns]):bM (d+5) (.aH (cond r 89 107)) [.ab 0,flC x] [] [flL ns] .none [flL (dv (flF r x) x ns)]:=by
 have hq:=DR (right:=flF r x) (xs:=ns) (ns.length+1) 0 ns.length (dQ _)<|aG _;have hx:(flC x).lo 1=true:=by obtain⟨a,b⟩:=x;cases a<;>rfl
 have C1:=(M8 (d:=d) r (ah [_] (.lt .o (.n<|2^16)<|.g 1 0<|.lt .o<|.n<|2^17) rfl bn) y2).call.wide (g:=[.frame [("key",.none),("hi",.none),("lo",.int 0),("x",flC x),("a",.ab 0)]]) rfl (BS<|hZ ns) (BS<|hZ ns) (by cases r<;>rfl) (by show(_&&((flC x).lo 1&&_))=true;rw[hx];rfl) rfl rfl;have hl:(ns.map flC).length=ns.length:=aV _;have e:flL (dv (flF r x) x ns)=.list ((ns.map flC).take (cM (flF r x) ns (ns.length+1) 0 ns.length)++flC x::(ns.map flC).drop (cM (flF r x) ns (ns.length+1) 0 ns.length)):=by rw[flL,dv,fU,eC,oH,rn]
 have hr:((flL<|dv (flF r x) x ns).lo 1&&true)=true:=by rw[show (flL<|dv (flF r x) x ns).lo 1=true from hZ _];rfl
 rw[e] at hr ⊢;generalize cM (flF r x) ns (ns.length+1) 0 ns.length=q at *;have N:gu (cond r 89 107) (b16 r) (cond r K5 K6):=by cases r;exact ahB;exact ahA
 obtain⟨xa,xb⟩:=x;cases r<;>cases xa<;>exact N.code hb (by kernel_rfl) (λq h=>nS h) (aW (sc:=[.val<|.bool true,.cw,.val<|.int q,.bg (.bi "list.insert") [.ab 0],.aE .none [.list<|(ns.map flC).take q++flC _::(ns.map flC).drop q,.frame [("key",.none),("hi",.none),("lo",.int q),("x",flC _),("a",.ab 0)]]]) (by rfl')
  (am (V6 rfl (ah [_,_] (.lt .o (.n<|2^16)<|.le .i .o<|.g 1 0<|.it (.c .i)<|.n<|2^63) rfl bn hq) (by rwa[hl]) (by rw[hl];have:cX=2^24:=rfl;exact ah [_,_] (.lt .o (.n<|2^16)<|.c (-1) 0 (.eq .i<|.n<|2^24)<|.g 1 0<|.le .o .i) rfl bn this))<|am gP<|am (WY rfl)<|am C1<|am (cK<|iG<|by kernel_rfl)<|am (ky rfl) aX)) (.inr ⟨rfl,rfl⟩) (aG _) hr rfl
theorem zD {st:List ae}{k:Nat}(r)(hk:st[k]?=some (flL ns))(bn:ns.length<2^16):bk (d+5) (.aH (cond r 89 107)) [.ab k,flC x] [] st .none (st.set k (flL (dv (flF r x) x ns))):=by
 have hx:CV.cV 0 [flC x]=true:=by obtain⟨a,b⟩:=x;cases a<;>rfl
 cases r
 ·exact((Ic false bn (ahg (λv1 v2 v3 v4 S=>by kernel_rfl)<|tz gF)<|qA (i6:=[("lo",.int 0 378),("hi",.none),("key",.none)]) (λv1 v2 S=>by kernel_rfl)<|W'<|tz<|tz gF).ajr hk (hZ _) (hZ _) hx rfl).call
 exact((Ic true bn (ahg (λv1 v2 v3 v4 S=>by kernel_rfl)<|tz gF)<|qA (i6:=[("lo",.int 0 351),("hi",.none),("key",.none)]) (λv1 v2 S=>by kernel_rfl)<|W'<|tz<|tz gF).ajr hk (hZ _) (hZ _) hx rfl).call
end
end
section
variable {d:Nat}
def sk:aq×aq×List bl:=dc dCO.body
def Id:aq:=iL (g7 sk.2.2 0)
def EC:G1:=MT (ep (Wx Id))
noncomputable def rwV (p:Nat×Str):CV:=.cB [af p.1,.str p.2]
noncomputable def rwL (ns:List (Nat×Str)):ae:=.list (ns.map rwV)
def rwK:ae:=.d3 EC.args EC.body EC.scope [] none
theorem ED {n:Nat}:∀(ns:List (Nat×Str)),CV.cV n (ns.map rwV)=true
 |[]=>rfl|x::ns=>by rw[eC,CV.uu,ED ns];rfl
theorem M9 {st:List ae}{j:Nat}{v:Nat×Str}(hj:st[j]?=some rwK)(b9:(st.all λo=>o.lo st.length)=true):bk (d+2) (.ab j) [rwV v] [] st (af v.1) st:=by
 have c2:ji {scope:=EC.scope,locals:=st.length,cells:=[]} (st++[ae.frame [("one",rwV v)]]) "one"=some (rwV v):=
  CG (by rfl') (by rw[dT<|aG _,fk];rfl) rfl rfl
 refine(Hj (g:=[.frame [("one",rwV v)]]) hj (λnm qu cl pm cv ct=>pe (x1:="one") (λv1 S=>by kernel_rfl) gF) rfl rfl rfl rfl rfl ?_ (aG _) b9 rfl).call;exact jC (eu rfl rfl c2) (CH rfl)<|afj (i:=0) (j:=0) (by decide) rfl rfl
noncomputable def rwS (ns:List (Nat×Str))(x:Nat)(lo hi:Nat)(m:Option Int):List ae:=[rwL ns,rwK,j2 x lo hi m]
noncomputable def rwF (x:Nat)(v:Nat×Str):Bool:=!decide (x<v.1)
section
variable {ns:List (Nat×Str)}
theorem kA:(([rwL ns,rwK]).all λo=>o.lo 2)=true:=by show((rwL ns).lo 2&&_)=true;rw[show (rwL ns).lo 2=true from ED ns];rfl
theorem sm {fr:ae}{v:Nat×Str}:bk (d+2) (.ab 1) [rwV v] [] [rwL ns,rwK,fr] (af v.1) [rwL ns,rwK,fr]:=(M9 rfl kA).wide rfl kA kA rfl rfl rfl rfl
theorem I5 {x lo hi:Nat}{m:Option Int}{v:Nat×Str}(hb:ns.length<2^17)(hv:ns[(lo+hi)/2]?=some v)(h1:lo<hi)(h2:hi<=ns.length):aI (d+2) (da f9.scope 2 none) (mx (rP f9.body 2)).2 (rwS ns x lo hi m) .next (if rwF x v=true then rwS ns x ((lo+hi)/2+1) hi (some ((lo+hi)/2:Nat)) else rwS ns x lo ((lo+hi)/2) (some ((lo+hi)/2:Nat))):=by
 have hm:=Hs lo hi;have hp:=Ht (Ft)<|Fu (show ns.length<2^40 by lia) h1 h2;have sb:∀e,fF (d+2) e (.ab 0) (.int<|((lo:Int)+hi).fdiv 2) (rwS ns x lo hi<|some<|((lo:Int)+hi).fdiv 2) (rwV v) (rwS ns x lo hi<|some<|((lo:Int)+hi).fdiv 2):=λe=>by have aZ:=(bV.mp hv).1;rw[hm];exact uI rfl (by lia) (by rw[aV];exact rM aZ) (by rw[dN,hv];rfl)
 suffices h:aI (d+2) (da f9.scope 2 none) (mx<|rP f9.body 2).2 (rwS ns x lo hi m) .next [rwL ns,rwK,j2 x (cond (rwF x v) (((lo:Int)+hi).fdiv 2+1) lo) (cond (rwF x v) hi<|((lo:Int)+hi).fdiv 2)<|some<|((lo:Int)+hi).fdiv 2] by rw[hm] at h;revert h;cases rwF x v<;>exact id
 have hq:decide ((x:Int)<(v.1:Int))=!rwF x v:=by rw[rwF,abk];simp
 cases z:rwF x v<;>rw[z] at hq
 ·cases m<;>exact aW (sc:=[.val<|rwV v,.val<|af v.1,.yes]) (by rfl')<|am hq<|am sm<|am (Xq<|by rfl)<|am (sb _)<|am (And.intro (show(2:Int)≠0 by decide) hp) aX
 cases m<;>exact aW (sc:=[.val<|rwV v,.val<|af v.1,.no]) (by rfl')<|am hq<|am sm<|am (Xq<|by rfl)<|am (sb _)<|am (And.intro (show(2:Int)≠0 by decide) hp) aX
theorem NU {x:Nat}(bn:ns.length<2^17)(hb:db xR [rwL ns,rwK] args kw (qG x) [rwL ns,rwK]):bM (d+5) (.aH 98) args kw [rwL ns,rwK] (.int (cM (rwF x) ns (ns.length+1) 0 ns.length)) [rwL ns,rwK]:=by
 obtain⟨m',W⟩:=i00 (d:=d+3) (c:=da f9.scope 2 none) (t:=(mx<|rP f9.body 2).1) (b:=(mx<|rP f9.body 2).2) (ns:=ns) (f:=rwF x) (S:=rwS ns x) (λlo hi m=>nX (sc:=[]) (by rfl') aX) (I5 (d:=d+1) bn) ns.length 0 ns.length none FB (aG _)<|dQ _;let z:List ae:=[rwL ns,rwK,.frame [("key",.ab 1),("hi",.none),("lo",.int 0),("x",.int x),("a",.ab 0)]];have L:bk (d+3) (.bi "len") [.ab 0] [] z (.int ns.length) z:=by have:=uJ (d:=d+3) (st:=z) (k:=0) (xs:=ns.map rwV) rfl (by rw[aV];exact ah [_] (.lt .o (.n<|2^17)<|.g 1 0<|.it (.c .o)<|.n<|2^63) rfl bn);rwa[aV] at this
 generalize cM (rwF x) ns (ns.length+1) 0 ns.length=q at *;exact(b08 true).code hb (by kernel_rfl) (λq h=>nS h) (aW (sc:=[.val<|.bool true,.cw,.val<|.int ns.length,.val<|.bool false,.cw,.iX .next (rwS ns x q q m')]) (by rfl')
  (am (CY W)<|am (ky rfl)<|am L<|am gP<|am (ky rfl) aX)) (.inl rfl) (aG _) kA rfl
theorem NV {x:Nat×Str}(bn:ns.length<2^16)(y2:db xR [rwL ns,rwK] [.ab 0,.int x.1,.int 0,.none] [("key",.ab 1)] (qG x.1) [rwL ns,rwK])(hb:db K5 [rwL ns,rwK] [.ab 0,rwV x] [("key",.ab 1)] [("a",.ab 0),("x",rwV x),("lo",.int 0),("hi",.none),("key",.ab 1)] [rwL ns,rwK]):bM (d+7) (.aH 89) [.ab 0,rwV x] [("key",.ab 1)] [rwL ns,rwK] .none [rwL (dv (rwF x.1) x ns),rwK]:=by
 have hq:=DR (right:=rwF x.1) (xs:=ns) (ns.length+1) 0 ns.length (dQ _)<|aG _;have C1:=(NU (d:=d) (x:=x.1) (ah [_] (.lt .o (.n<|2^16)<|.g 1 0<|.lt .o<|.n<|2^17) rfl bn) y2).call.wide (g:=[.frame [("key",.ab 1),("hi",.none),("lo",.int 0),("x",rwV x),("a",.ab 0)]]) rfl kA kA rfl rfl rfl rfl;have hl:(ns.map rwV).length=ns.length:=aV _;have hr:=kA (ns:=dv (rwF x.1) x ns);have e:rwL (dv (rwF x.1) x ns)=.list ((ns.map rwV).take (cM (rwF x.1) ns (ns.length+1) 0 ns.length)++rwV x::(ns.map rwV).drop (cM (rwF x.1) ns (ns.length+1) 0 ns.length)):=by rw[rwL,dv,fU,eC,oH,rn]
 rw[e] at hr ⊢;generalize cM (rwF x.1) ns (ns.length+1) 0 ns.length=q at *;exact ahA.code hb (by kernel_rfl) (λq h=>nS h) (aW (sc:=[.val<|.bool false,.cw,.val<|af x.1,.val<|.int q,.bg (.bi "list.insert") [.ab 0],.aE .none [.list<|(ns.map rwV).take q++rwV x::(ns.map rwV).drop q,rwK,.frame [("key",.ab 1),("hi",.none),("lo",.int q),("x",rwV x),("a",.ab 0)]]]) (by rfl)
  (am (V6 rfl (ah [_,_] (.lt .o (.n<|2^16)<|.le .i .o<|.g 1 0<|.it (.c .i)<|.n<|2^63) rfl bn hq) (by rwa[hl]) (by rw[hl];have:cX=2^24:=rfl;exact ah [_,_] (.lt .o (.n<|2^16)<|.c (-1) 0 (.eq .i<|.n<|2^24)<|.g 1 0<|.le .o .i) rfl bn this))<|am gP<|am (WY rfl)<|am C1<|am (cK<|iG<|by kernel_rfl)<|am (sm (d:=d+3))<|am (Xq rfl)<|am (ky rfl) aX)) (.inr ⟨rfl,rfl⟩) (aG _) hr rfl
theorem QC {st:List ae}{k j:Nat}{x:Nat×Str}(hk:st[k]?=some (rwL ns))(hj:st[j]?=some rwK)(bn:ns.length<2^16):bk (d+7) (.aH 89) [.ab k,rwV x] [("key",.ab j)] st .none (st.set k (rwL (dv (rwF x.1) x ns))):=by
 have n1:k≠j:=λe=>by rw[e,hj] at hk;cases hk
 have hn:[k,j].Nodup:=by simp [n1]
 have rr:∀{ns:List (Nat×Str)} {f},(rwL ns).bI f=some (rwL ns):=λ{ns f}=>fz<|tM<|ED ns;refine((NV (d:=d) (x:=x) bn (W9<|λv1 v2 v3 v4 v5 S=>by kernel_rfl)<|NM (uT:=[("lo",.int 0),("hi",.none)]) (qB:=[("lo",.int 0 351),("hi",.none)]) (λv1 v2 v3 S=>by kernel_rfl)<|λown hp k kv h=>⟨_,_,rfl,⟨_,rfl⟩,_,_,rfl,rfl,h⟩).at (args:=[.ab k,rwV x]) (kw:=[("key",.ab j)]) [k,j] hn ?_ rfl (gC (ij<|gr _ 0 _ hn rfl)<|tM rfl) (Iw (ij<|gr _ 1 _ hn rfl) rfl) ?_ (HX rfl)).call
 ·unfold g4;exact cq (gq hk rr)<|cq (gq hj rfl) iF
 refine HT rfl (by simp) hn (λi m e=>?_) λi hi=>(by rw[lZ<|λe=>hi<|by simp [e]])
 match i,e with
 |0,rfl=>exact⟨_,_,rfl,rr,by rw[vM (bV.mp hk).1]⟩|1,rfl=>exact⟨_,_,rfl,by rfl',by rw[lZ n1,hj];rfl⟩
end
end
section
variable {d:Nat}
noncomputable def Ea:List Nat:=[421,870,381,432,118,333]
def suN:List Nat:=(aK 6).map λk=>Ea.getD k 0+(r6 (fq e0.zs) k).sum
def sn:List Nat:=gW suN
def aN (k:Nat):Nat:=gW (sn.getD k 0)
theorem u9:sn.length=6:=by rw[sn,gp,suN,aV,fb]
theorem I6 {k:Nat}(h:k<6):sn[k]?=some (aN k):=by rw[aN,gp,ed,bA<|by rwa[u9]];rfl
theorem bQ {st:List ae}{e:aq}{k:Nat}(h:k<6)(h0:st[0]?=some (a0 sn)):fF d e (.ab 0) (af k) st (af (aN k)) st:=jL h0 (I6 h) (by rw[u9];decide)
theorem r3 {i j:Int}(h1:j≠0)(h2:j.natAbs<1073741824):j≠0∧Re i j=false:=⟨h1,RL h2⟩
structure CoK where
 early:Option CV:=none
 late:Option CV:=none
 names:Option CV:=none
 come:Option CV:=none
 number:Option CV:=none
 first:Option CV:=none
 table:Option CV:=none
 order:Option CV:=none
 signs:Option CV:=none
 clock:Option CV:=none
 JA:Option CV:=none
 mates:Option CV:=none
 spare:Option CV:=none
 leaves:Option CV:=none
 j4:Option CV:=none
def coB (vars:List (Str×CV))(c:CoK):List ae:=[a0 sn,.frame vars,.cell (some (.ab 0)),.cell c.early,.cell c.late,.cell c.names,.cell c.come,.cell c.number,.cell c.first,.cell c.table,.cell c.order,.cell c.signs,.cell c.clock,.cell c.JA,.cell c.mates,.cell c.spare,.cell c.leaves,.cell c.j4]
abbrev cCO:aY:=da dCO.scope 1 (some (339,337))
noncomputable def CoK.lo (c:CoK)(n:Nat):Bool:=([.cell c.early,.cell c.late,.cell c.names,.cell c.come,.cell c.number,.cell c.first,.cell c.table,.cell c.order,.cell c.signs,.cell c.clock,.cell c.JA,.cell c.mates,.cell c.spare,.cell c.leaves,.cell c.j4]:List ae).all λo=>o.lo n
theorem qI {n:Nat}{vars:List (Str×CV)}{c:CoK}(hn:1<=n)(hv:(vars.all λp=>p.2.lo n)=true)(hc:c.lo n=true):((coB vars c).all λo=>o.lo n)=true:=by show((a0 sn).lo n&&((vars.all λp=>p.2.lo n)&&((CV.ab 0).lo n&&c.lo n)))=true;rw[k8,hv,show (CV.ab 0).lo n=true from decide_eq_true hn,hc];rfl
noncomputable def xm (k:Nat):List Nat:=(aK 6).filter λh=>aN k/2^h%2==1
def hY:List Nat:=gW (xm 4)
def ic:List Nat:=gW (xm 5)
def L3:aq:=iL (g7 dCO.body 0)
def lM:aq:=ew L3 0
abbrev cC0:aY:=cI cCO (fH L3) 19 [("sums",2)]
noncomputable def EE (k:Nat)(rs:List CV)(g:List ae):List ae:=coB [] {}++.list rs::([.frame [],.cell (some (af k))]++g)
theorem NW {n k:Nat}{rs g}(hn:1<=n)(hr:CV.cV n rs=true)(hg:(g.all λo=>o.lo n)=true):((EE k rs g).all λo=>o.lo n)=true:=cC (qI hn rfl rfl) (by show(CV.cV n rs&&(true&&(true&&(g.all λo=>o.lo n))))=true;rw[hr,hg];rfl)
theorem Ih {k n:Nat}{rs g}(hk:k<6)(hn:(EE k rs g).length=n)(hr:CV.cV n rs=true)(hg:(g.all λo=>o.lo n)=true) (ht:∀(h:Nat),h<6->∀acc,((2:Int)^(h:Int).toNat≠0∧Re (aN k:Int) ((2:Int)^(h:Int).toNat)=false)->fx d (cI cC0 (fH lM) (n+1) [("sums",2),("k",20)]) (wE lM) (EE k rs g++[ae.list acc,ae.frame [("hour",af h)]]) (((aN k:Int).fdiv ((2:Int)^(h:Int).toNat)).fmod 2 != 0) (EE k rs g++[ae.list acc,ae.frame [("hour",af h)]])):a8 d cC0 lM (EE k rs g) (.ab n) (EE k rs g++[a0 (xm k)]):=by
 have n1:1<=n:=by rw[<-hn,EE,dJ];show 1<=18+_;exact ah [_] (.g 1 0<|.le .j<|.a (.n 18) .o) rfl
 have C:=oJ (b30 (d:=d) (c:=cC0) (cl:=[("sums",2),("k",20)]) (T:=EE k rs g) (st:=EE k rs g) (n:=n) (x:="hour") (a:=.fW 0 6 1) (P:=λ_=>True) (xs:=aK 6) (λh=>aN k/2^h%2==1) af af (elt:=ew lM 0) (iter:=kZ lM) (ifs:=[wE lM]) (fJ:=0) (px:=AT (uL lM).target) (pos:=AT lM) (scope:=fH lM) ⟨⟨by rfl',by rfl',by rfl',by rfl',by rfl'⟩,by rfl',
  dk (sc:=[.val<|.fW 0 6 1]) (by rfl') (am afo<|am yn aX),mE 6 (by decide),λ_=>trivial,hn,ll hn,NW n1 hr hg,by decide⟩
  (λh hh acc _=>⟨ms (by
   have h6:=gz.mp hh;have T:=ht h h6 acc<|DX rfl (by decide) (by decide) (ah [_] (.lt .o (.n 6)<|.g 1 0<|.le .o .t) rfl h6);have e:(((aN k:Int).fdiv<|(2:Int)^(h:Int).toNat).fmod 2 != 0)=(aN k/2^h%2==1):=by
    rw[Bo (b:=2) (c:=2) (s:=aN k) (k:=h) (bi:=2) (ci:=2) rfl rfl];have:aN k/2^h%2<2:=kg _ (by decide);by_cases z:aN k/2^h%2=1
    ·rw[z];rfl
    rw[show aN k/2^h%2=0 by lia];rfl
   rw[e] at T;exact T),λ_=>nh rfl rfl hn rfl (by rfl') rfl rfl,rfl⟩))
 rw[cR] at C;exact C
noncomputable def N1:CoK:={early:=some (.ab 19),late:=some (.ab 20)}
noncomputable def QD:List ae:=coB [] N1++[.list (dX 19 2),a0 hY,a0 ic]
theorem QE:aI d cCO (dCO.body.take 1) (coB [] {}) .next QD:=by
 have pw:∀{h:Nat},h<6->(0:Int)<=(h:Int)∧(h:Int)<=1000000∧(2:Int).natAbs<2^64:=λh=>⟨by exact ah [_] (.g 1 0<|.il .k<|.c .o) rfl,by exact ah [_] (.lt .o (.n 6)<|.g 1 0<|.il (.c .o)<|.n 1000000) rfl h,by decide⟩;have C:=oJ (ec (d:=d) (c:=cCO) (st:=coB [] {}) (T:=coB [] {}) (n:=18) (m:=1) (cl:=[("sums",2)]) (P:=λ_=>True) (a:=.cB [af 4,af 5]) (items:=[af 4,af 5]) (F:=λi=>[.frame [],.cell<|match i with|0=>none|i+1=>some<|af<|4+i]) (gs:=[xm 4,xm 5].map λxs=>((xs).map λm:Nat=>(m:Int)).map CV.int) (elt:=lM) (iter:=kZ L3) (ifs:=[]) (fJ:=0) (tg:=(uL L3).target) (pos:=AT L3) (scope:=fH L3) ⟨by rfl',by rfl',by rfl',by rfl'⟩ rfl
  (dk (sc:=[]) (by rfl)<|am wM aX) ⟨Vk _⟩ (λ_=>trivial) rfl (aG _) (qI (by decide) rfl rfl) (λi=>rfl) (by rfl) (λi=>⟨[],rfl⟩) rfl (λg hg=>by obtain⟨x,_,rfl⟩:=cu.mp hg;exact NT _) (by decide)
  (λi x hx=>match i,x,hx with
   |0,_,rfl=>i4 (sc:=[]) (by rfl) aX|1,_,rfl=>i4 (sc:=[]) (by rfl) aX)
  (λi x hx=>match i,x,hx with
   |0,_,rfl=>Ih (k:=4) (n:=21) (rs:=[]) (g:=[]) (by decide) rfl rfl rfl λh hh acc hp=>nX (sc:=[.val<|af<|aN 4]) (by rfl) (am (show(2:Int)≠0 by decide)<|am hp<|am (pw hh)<|am (bQ (k:=4) (by decide) rfl) aX)|1,_,rfl=>Ih (k:=5) (n:=22) (rs:=[.ab 21]) (g:=[a0<|xm 4]) (by decide) rfl rfl (fK _) λh hh acc hp=>nX (sc:=[.val<|af<|aN 5]) (by rfl)<|am (show(2:Int)≠0 by decide)<|am hp<|am (pw hh)<|am (bQ (k:=5) (by decide) rfl) aX))
 have e1:hY=xm 4:=gp;have e2:ic=xm 5:=gp;rw[QD,e1,e2];exact aW (sc:=[.c7 (.ab 18) λst=>st++[.list<|dX 19 2,a0<|xm 4,a0<|xm 5],.c7 (.cB [.ab 19,.ab 20]) id]) (by rfl)<|am (eI (xs:=dX 19 2) rfl)<|am C aX
end
section
variable {d:Nat}
def bc:Nat:=gW (aN 4/64%5)
def nmL:List Str:=(aK 4).map (fN bc)
def tnK:Nat:=gW (aN 5/64%4)
def rvB:Bool:=gW (aN 5/256%2==1)
noncomputable def cmO:List Nat:=cond rvB ((aK 4).drop tnK++(aK 4).take tnK).reverse ((aK 4).drop tnK++(aK 4).take tnK)
def cmL:List Str:=cmO.map (fN bc)
theorem sr:bc<5:=by rw[bc,gp];exact kg _ (by decide)
theorem Ii:tnK<4:=by rw[tnK,gp];exact kg _ (by decide)
theorem N2:((cQ ja).drop bc).take 4=nmL:=by
 have:∀b<5,((cQ ja).drop b).take 4=(aK 4).map (fN b):=by decide +kernel
 exact this _ sr
theorem sv {st:List ae}{e:aq}{k a:Nat}{z:Int}{xs:List Str}(h:st[k]?=some (ax xs))(hz:z=(a:Int))(hl:xs.length<=2^20):fF d e (.ab k) (.sl [.int z,.none,.none]) st (.ab st.length) (st++[ax (xs.drop a)]):=by
 subst hz;have:=BN (d:=d) (e:=e) (x:=.int a) (y:=.none) (lo:=some a) h rfl rfl hl;have e1:(xs.drop<|eZ (some a) xs.length).take (i5 none xs.length-eZ (some a) xs.length)=xs.drop a:=by
  show(xs.drop<|nH xs.length a).take (xs.length-nH xs.length a)=_;rw[uP,uc<|jA▸aG _];by_cases q:a<=xs.length
  ·rw[zH q]
  rw[aai (by omega),aaC,Fn<|by omega]
 rwa[e1] at this
theorem N3 {st:List ae}{e:aq}{k a:Nat}{z:Int}{xs:List Str}(h:st[k]?=some (ax xs))(hz:z=(a:Int))(hl:xs.length<=2^20):fF d e (.ab k) (.sl [.none,.int z,.none]) st (.ab st.length) (st++[ax (xs.take a)]):=by
 subst hz;have:=BN (d:=d) (e:=e) (x:=.none) (y:=.int a) (lo:=none) (hi:=some a) h rfl rfl hl;have e1:(xs.drop<|eZ none xs.length).take (i5 (some a) xs.length-eZ none xs.length)=xs.take a:=by
  show(xs.drop 0).take (nH xs.length a-0)=_;rw[uP,sQ,vY];by_cases q:a<=xs.length
  ·rw[zH q]
  rw[aai (by lia),B7,uc<|by lia]
 rwa[e1] at this
noncomputable def fr1:List (Str×CV):=[("turn",af tnK)]
noncomputable def N4:CoK:={N1 with names:=some (.ab 23)}
noncomputable def SG:List ae:=[.list (dX 19 2),a0 hY,a0 ic,ax (cQ ja),ax ((cQ ja).drop bc),ax nmL]
noncomputable def QH:List ae:=coB fr1 N4++SG
theorem QK:aI d cCO ((dCO.body.drop 1).take 1) QD .next QH:=by
 have e1:=DW (c:=64) (e:=5) (s:=aN 4) (bi:=64) (ci:=5) rfl rfl;rw[show aN 4/64%5=bc from gp.symm] at e1;have e2:=DW (c:=64) (e:=4) (s:=aN 5) (bi:=64) (ci:=4) rfl rfl;rw[show aN 5/64%4=tnK from gp.symm] at e2;have s1:=λ(st:List ae)(e:aq)(h:st[21]?=some (ax<|cQ ja))=>sv (d:=d) (e:=e) h e1 (by decide);have s2:=λ(st:List ae)(e:aq)(h:st[22]?=some (ax<|(cQ ja).drop bc))=>N3 (d:=d) (e:=e) (a:=4) (z:=4) h rfl (by rw[jA];exact fC (lm _ _)<|by decide);rw[N2] at s2;rw[QH,fr1,af,<-e2];exact aW (sc:=[.c7 (.ab 21) λst=>st++[ax<|cQ ja],.val<|af<|aN 4,.c7 (.ab 22) λst=>st++[ax<|(cQ ja).drop bc],.c7 (.ab 23) λst=>st++[ax nmL],.val<|af<|aN 5]) (by rfl')
  (am wM<|am (show(4:Int)≠0 by decide)<|am (r3 (by decide)<|by decide)<|am (bQ (by decide) rfl)<|am (s2 _ _ rfl)<|am (s1 _ _ rfl)<|am (show(5:Int)≠0 by decide)<|am (r3 (by decide)<|by decide)<|am (bQ (by decide) rfl)<|am (Wm<|by decide)<|am yn aX)
noncomputable def N5:CoK:={N4 with come:=some (.ab 27)}
noncomputable def QL:List ae:=SG++[ax (nmL.drop tnK),ax (nmL.take tnK),ax (nmL.drop tnK++nmL.take tnK),ax cmL]
noncomputable def qJ:List ae:=coB fr1 N5++QL
theorem QM {z:Int}{r:Bool}{xs:List Str}(h:xs.length=4)(hz:z=cond r (-1) 1):e7 (xs.map CV.str) none none (some z)=(cond r xs.reverse xs).map CV.str:=by
 obtain⟨a,b,c,e,rfl⟩:∃a b c e,xs=[a,b,c,e]:=by
  match xs,h with
  |[a,b,c,e],_=>exact⟨a,b,c,e,rfl⟩
 subst hz;cases r<;>rfl'
theorem QN:cond rvB (nmL.drop tnK++nmL.take tnK).reverse (nmL.drop tnK++nmL.take tnK)=cmL:=by
 rw[cmL,cmO,nmL];cases rvB
 ·show _=((aK 4).drop tnK++(aK 4).take tnK).map (fN bc);rw[fU,rn,oH];rfl
 show _=((aK 4).drop tnK++(aK 4).take tnK).reverse.map (fN bc);rw[List.map_reverse,fU,rn,oH];rfl
theorem QO:aI d cCO ((dCO.body.drop 2).take 1) QH .next qJ:=by
 have hn:nmL.length=4:=by rw[nmL,aV,fb]
 have l4:(nmL.drop tnK++nmL.take tnK).length=4:=by have:=Ii;rw[dJ,jA,nG,hn];lia
 have s1:=λ(st:List ae)(e:aq)(h:st[23]?=some (ax nmL))=>sv (d:=d) (e:=e) (a:=tnK) (z:=tnK) h rfl (by lia);have s2:=λ(st:List ae)(e:aq)(h:st[23]?=some (ax nmL))=>N3 (d:=d) (e:=e) (a:=tnK) (z:=tnK) h rfl (by lia);have ad:=λ(st:List ae)(h:st[24]?=some (ax<|nmL.drop tnK))(h2:st[25]?=some (ax<|nmL.take tnK))=>Wk (d:=d) (k:=24) (l:=25) h h2 (by rw[aV,aV,<-dJ,l4];decide);rw[<-fU] at ad;have sl:∀(st:List ae)(e:aq)(z:Int),z=cond rvB (-1) 1->st[26]?=some (ax<|nmL.drop tnK++nmL.take tnK)->fF d e (.ab 26) (.sl [.none,.none,.int z]) st (.ab st.length) (st++[ax cmL]):=λst e z hz h=>by have:=Dd (d:=d) (e:=e) (a:=.none) (b:=.none) (z:=.int z) (lo:=none) (hi:=none) (step:=some z) h rfl rfl rfl (by rw[hz];cases rvB<;>decide) (by rw[aV,l4];decide);rw[QM l4 hz,QN] at this;exact this
 have e2:=DW (c:=256) (e:=2) (s:=aN 5) (bi:=256) (ci:=2) rfl rfl;have hr:rvB=(aN 5/256%2==1):=gp;have m2:aN 5/256%2<2:=kg _ (by decide);cases hq:rvB with
 |false=>
  have q:(((aN 5:Int).fdiv 256).fmod 2 != 0)=false:=by
   rw[hq] at hr;have:aN 5/256%2≠1:=λz=>by rw[z] at hr;exact nB hr
   rw[e2,show aN 5/256%2=0 by lia];rfl
  exact aW (sc:=[.c7 (.ab 24) λst=>st++[ax<|nmL.drop tnK],.c7 (.ab 25) λst=>st++[ax<|nmL.take tnK],.c7 (.ab 26) λst=>st++[ax<|nmL.drop tnK++nmL.take tnK],.val<|af<|aN 5,.no,.c7 (.ab 27) λst=>st++[ax cmL]]) (by rfl')
   (am (sl _ _ _ (by rw[hq];rfl) rfl)<|am q<|am (show(2:Int)≠0 by decide)<|am (r3 (by decide)<|by decide)<|am (bQ (by decide) rfl)<|am (ad _ rfl rfl)<|am (s2 _ _ rfl)<|am (s1 _ _ rfl) aX)
 |true=>
  have q:(((aN 5:Int).fdiv 256).fmod 2 != 0)=true:=by rw[hq] at hr;have:aN 5/256%2=1:=eq_of_beq hr.symm;rw[e2,this];rfl
  exact aW (sc:=[.c7 (.ab 24) λst=>st++[ax<|nmL.drop tnK],.c7 (.ab 25) λst=>st++[ax<|nmL.take tnK],.c7 (.ab 26) λst=>st++[ax<|nmL.drop tnK++nmL.take tnK],.val<|af<|aN 5,.yes,.c7 (.ab 27) λst=>st++[ax cmL]]) (by rfl')
   (am (sl _ _ _ (by rw[hq];rfl) rfl)<|am q<|am (show(2:Int)≠0 by decide)<|am (r3 (by decide)<|by decide)<|am (bQ (by decide) rfl)<|am (ad _ rfl rfl)<|am (s2 _ _ rfl)<|am (s1 _ _ rfl) aX)
noncomputable def nuM (n:Nat):List (Str×CV):=(aK n).map λk=>(fN bc k,af (aN k))
theorem EF {j:Nat}(h:j<4):(nuM 4).lookup (fN bc j)=some (af (aN j)):=by rw[nuM,pW,PT,if_pos ⟨dQ _,by omega⟩]
def qK:aq:=iL (g7 dCO.body 3)
abbrev cC3:aY:=cI cCO (fH qK) 29 [("sums",2),("names",5)]
theorem sw {n:Nat}(hn:21<=n):(QL.all λo=>o.lo n)=true:=by show(CV.cV n (dX 19 2)&&((a0 _).lo n&&((a0 _).lo n&&((ax _).lo n&&((ax _).lo n&&((ax _).lo n&&((ax _).lo n&&((ax _).lo n&&((ax _).lo n&&((ax _).lo n&&true))))))))))=true;have s:∀xs:List Str,(ax xs).lo n=true:=λxs=>cJ xs;rw[X7 (by omega),k8,k8,s,s,s,s,s,s,s];rfl
theorem I7 {n:Nat}(hn:28<=n):(qJ.all λo=>o.lo n)=true:=cC (qI (ah [_] (.le (.n 28) .o<|.g 1 0<|.le .j .o) rfl hn) rfl (Bl hn<|by rfl))<|sw<|ah [_] (.le (.n 28) .o<|.g 1 0<|.le (.n 21) .o) rfl hn
theorem Ij:∀n k fv,k+n=4->(fv=[]∨∃v:CV,fv=[(("k":Str),v)])->∃jJ,jS d cC3 qK 28 0 (λ_=>True) ((fc k n).map af) (qJ++[ae.map (nuM k),.frame fv]) (qJ++[ae.map (nuM 4),.frame jJ])
 |0,k,fv,h1,h2=>⟨fv,by obtain rfl:k=4:=h1;exact .nil trivial⟩|n+1,k,fv,h1,h2=>by
  obtain⟨jJ,R⟩:=Ij n (k+1) [("k",af k)] (ah [_,_,_,_] (.c 1 (-1) (.eq (.a .o<|.a .i .u) .w)<|.g 1 1<|.eq (.a (.a .o .u) .i) .w) rfl h1)<|.inr ⟨_,rfl⟩;have A:dj d cC3 (.Name "k"<|AT (uL qK).target) (af k) (qJ++[ae.map<|nuM k,.frame fv]) (qJ++[ae.map<|nuM k,.frame [("k",af k)]]):=by
   have:=y4 (d:=d) (c:=cC3) (x:="k") (pos:=AT (uL qK).target) (T:=qJ) (g:=[]) (n:=28) (o:=.map<|nuM k) (fv:=fv) (v:=af k) rfl rfl (by rfl);rcases h2 with rfl|⟨v,rfl⟩
   ·exact this
   exact this
  have hk:nmL[k]?=some (fN bc k):=by rw[nmL,dN,iS<|by lia];rfl
  have E1:=dk (d:=d) (c:=cC3) (e:=ew qK 0) (st:=qJ++[ae.map<|nuM k,.frame [("k",af k)]]) (sc:=[.val<|.str<|fN bc k]) (v:=.str<|fN bc k) (by rfl)<|am (e8 (ns:=nmL) (j:=k) rfl rfl hk (by decide)) aX;have E2:=dk (d:=d) (c:=cC3) (e:=ew qK 1) (st:=qJ++[ae.map<|nuM k,.frame [("k",af k)]]) (sc:=[.val<|af<|aN k]) (v:=af<|aN k) (by rfl)<|am (bQ (ah [_,_] (.eq (.a .o .i) (.n 4)<|.g 1 0<|.lt .o<|.n 6) rfl h1) rfl) aX;have M:=afm (gens:=l9 qK) (sc:=fH qK) (pos:=AT qK) (k:=28) E1 E2 rfl (by rw[nuM,aV,fb];show _<=2^24;exact ah [_,_] (.eq (.a .o .i) (.n 4)<|.g 1 0<|.le .o<|.n<|2^24) rfl h1);rw[akK (λp hp e=>by obtain⟨i,hi,rfl⟩:=cu.mp hp;have:=Y6 e;have:=gz.mp hi;exact ah [_,_] (.lt .o .i<|.c (-1) 0 (.eq .o .i)<|.g 0 0 .f) rfl this (by assumption)),show nuM k++[(fN bc k,af<|aN k)]=nuM (k+1) by rw[nuM,nuM,abK,fU];rfl] at M;refine⟨jJ,?_⟩;rw[mO,eC];exact .wk trivial (g:=⟨.Name "k"<|AT (uL qK).target,kZ qK,[],0⟩) (by rfl) rfl A oT (by exact M) R
noncomputable def I8:CoK:={N5 with number:=some (.ab 28)}
noncomputable def SI:List ae:=QL++[ae.map (nuM 4)]
noncomputable def EG:List ae:=coB fr1 I8++SI
theorem Je {n:Nat}:(ae.map (nuM 4)).lo n=true:=rfl
theorem QP:aI d cCO ((dCO.body.drop 3).take 1) qJ .next EG:=by
 obtain⟨jJ,R⟩:=Ij (d:=d) 4 0 [] rfl (.inl rfl);rw[<-pW] at R;have R:jS d cC3 qK 28 0 (λ_=>True) ((aK 4).map af) (qJ++[Mj qK]++dU (fH qK) []) (qJ++[ae.map<|nuM 4,.frame jJ]):=by exact R
 have C:lx d cCO qK qJ (.ab 28) (qJ++[ae.map<|nuM 4]):=by refine VR (scope:=fH qK) (g:=uL qK) (gs:=[]) (cl:=[("sums",2),("names",5)]) (a:=.fW 0 4 1) (aw:=qJ) (aJ:=qJ++[ae.map<|nuM 4,.frame jJ]) (items:=(aK 4).map af) (P:=λ_=>True) {sc:=by rfl',cls:=by rfl',qp:=by rfl',kind:=by rfl',names:=by rfl',d3:=by rfl',iter:=dk (sc:=[.val<|.fW 0 4 1]) (by rfl)<|am afo<|am yn aX,src:=mE 4 (by decide),GK:=trivial,run:=R,fr:=⟨jJ,rfl⟩,qr:=?_};have:=lU (s₁:=qJ++[ae.map<|nuM 4]) (F:=[.frame jJ]) (v:=.ab 28) (k:=28) (m:=29) rfl (by decide) (cC (I7<|by decide)<|BS Je) rfl;rwa[eJ] at this
 exact aW (sc:=[.c7 (.ab 28) λst=>st++[ae.map<|nuM 4]]) (by rfl)<|am C aX
end
section
variable {d:Nat}
def pcS (j:Nat):Str:=jE (fN bc j) ((aN j/6%4:Nat):Int)++tU.getD (aN j/24%4) ""
noncomputable def txA:Str:=gY "" (cmO.map pcS)
def txL:Str:=gW (txA++qQ.getD (aN 0/192%4) "")
theorem kB:∀j∈cmO,j<4:=λj hj=>by
 have:∀x∈(aK 4).drop tnK++(aK 4).take tnK,x<4:=λx hx=>(f7.mp hx).elim (λh=>gz.mp<|Sa h)<|λh=>gz.mp<|B4 h;rw[cmO] at hj;cases h:rvB<;>rw[h] at hj
 ·exact this j hj
 exact this j<|abJ.mp hj
theorem ce:cmO.length=4:=by
 have h:=Ii;have:((aK 4).drop tnK++(aK 4).take tnK).length=4:=by rw[dJ,jA,nG,fb];lia
 rw[cmO];cases rvB
 ·exact this
 exact RT.trans this
theorem zE {j:Nat}(hj:j<4):(∃l s0 s',xb (gN (bc+j)) l∧eQ s0=true∧(∀i∈s',eQ i=true)∧(pcS j).cps.toList=l++s0::s')∧(pcS j).length<=6:=by
 obtain⟨a1,a2⟩:=alk (bc+j) (by exact ah [_,_] (.lt .o (.n 4)<|.lt .i (.n 5)<|.g 1 0<|.lt (.a .i .o)<|.n 8) rfl hj sr) (aN j/6%4) (kg _<|by decide);obtain⟨b1,b2⟩:=alj (aN j/24%4) (kg _<|by decide);unfold pcS;constructor
 ·rw[vR,z3];generalize (tU.getD (aN j/24%4) "").cps.toList=q at b1;cases q with|nil=>exact nB b1|cons s0 s'=>have b1:=iR.mp<|b1;exact⟨_,s0,s',alh a1,b1.1,dI.mp b1.2,rfl⟩
 rw[jF];exact aaA a2 b2
theorem zF:∀x∈cmO.map pcS,x.length<=6:=λx hx=>by obtain⟨j,hj,rfl⟩:=cu.mp hx;exact(zE<|kB j hj).2
theorem zL:txA.length<=100:=by have:=Iy zF;rw[aV,ce] at this;exact fC this (by decide)
theorem N6:∀j<4,(qQ.getD j "").length<=3:=by decide +kernel
theorem zZ:txL.length<=1000:=by rw[txL,gp,jF];have:=zL;have:=N6 (aN 0/192%4) (kg _<|by decide);exact ah [_,_] (.le .o (.n 100)<|.le .i (.n 3)<|.g 1 0<|.le (.a .o .i)<|.n 1000) rfl (by assumption) this
def Ik:aq:=ew (iL (g7 dCO.body 4)) 0
abbrev cC4:aY:=cI cCO (fH Ik) 30 [("number",7)]
theorem z8 {n:Nat}(hn:29<=n):(EG.all λo=>o.lo n)=true:=cC (qI (ah [_] (.le (.n 29) .o<|.g 1 0<|.le .j .o) rfl hn) rfl (Bl hn<|by rfl))<|cC (sw<|ah [_] (.le (.n 29) .o<|.g 1 0<|.le (.n 21) .o) rfl hn)<|BS Je
theorem vc (b i:Nat):(fN b i).length=1:=rfl
theorem Jf {j:Nat}{acc:List CV}(hj:j<4)(ha:CV.cV 29 acc=true):a8 (d+2) cC4 (ew Ik 0) (EG++[ae.list acc,ae.frame [("name",.str (fN bc j))]]) (.str (pcS j)) (EG++[ae.list acc,ae.frame [("name",.str (fN bc j))]]):=by
 have e1:=DW (c:=6) (e:=4) (s:=aN j) (bi:=6) (ci:=4) rfl rfl;have e2:=DW (c:=24) (e:=4) (s:=aN j) (bi:=24) (ci:=4) rfl rfl;have w4:aN j/6%4<4:=kg _ (by decide);have q4:aN j/24%4<4:=kg _ (by decide);have hl:=(zE hj).2;have sp:∀st,bk (d+2) (.aH 299) [.str<|fN bc j,.int<|((aN j:Int).fdiv 6).fmod 4] [] st (.str<|jE (fN bc j) ((aN j/6%4:Nat):Int)) st:=λst=>by rw[e1];exact anw w4 (by rw[vc];decide)
 have sb:∀st (e:aq),st[31]?=some (ax tU)->fF (d+2) e (.ab 31) (.int<|((aN j:Int).fdiv 24).fmod 4) st (.str<|tU.getD (aN j/24%4) "") st:=λst e h=>e8 (ns:=tU) (j:=aN j/24%4) h e2 (by rw[ed,bA<|show _<tU.length from q4];rfl) (by decide);have nu:∀st (e:aq),st[28]?=some (ae.map<|nuM 4)->fF (d+2) e (.ab 28) (.str<|fN bc j) st (af<|aN j) st:=λst e h=>Wj h<|EF hj;unfold pcS at *;generalize jE (fN bc j) ((aN j/6%4:Nat):Int)=x at *;generalize tU.getD (aN j/24%4) ""=y at *;generalize fN bc j=nm at *;have G:a8 (d+2) cC4 (ew Ik 0) (EG++[.list acc,.frame [("name",.str nm)]]) (.str<|x++y) ((EG++[.list acc,.frame [("name",.str nm)]])++[ax tU]):=dk (sc:=[.val<|af<|aN j,.val<|.str x,.val<|af<|aN j,.val<|.str y]) (by rfl')<|am (by show _<=2^24;exact ah [_] (.le .o (.n 6)<|.g 1 0<|.le .o<|.n<|2^24) rfl hl)<|am (sb _ _ rfl)<|am (show(4:Int)≠0 by decide)<|am (r3 (by decide)<|by decide)<|am (nu _ _ rfl)<|am (by decide:4<=cX)<|am (sp _)<|am (cK anv)<|am (show(4:Int)≠0 by decide)<|am (r3 (by decide)<|by decide)<|am (nu _ _ rfl) aX;refine G.drop (aG _) (cC (z8<|by show 29<=31;decide) ?_) rfl;show(CV.cV 31 acc&&_)=true;rw[CV.vh (by decide) _ ha];rfl
noncomputable def fr5:List (Str×CV):=[("turn",af tnK),("text",.str txL)]
noncomputable def P5:List ae:=SI++[ax (cmO.map pcS),ax qQ]
noncomputable def L4:List ae:=coB fr5 I8++P5
theorem QR:aI (d+2) cCO ((dCO.body.drop 4).take 2) EG .next L4:=by
 have C:=oJ (b31 (d:=d+2) (c:=cCO) (cl:=[("number",7)]) (λj=>.str<|pcS j) (λj=>.str<|fN bc j) (elt:=ew Ik 0) (iter:=kZ Ik) (fJ:=0) (px:=AT (uL Ik).target) (pos:=AT Ik) (scope:=fH Ik) ⟨⟨by rfl',by rfl',by rfl',by rfl',by rfl'⟩,by rfl',
  dk (sc:=[]) (by rfl') aX,by have:=rI 27<|cmO.map λj=>.str<|fN bc j;rw[show ae.list (cmO.map λj=>.str<|fN bc j)=ax cmL by rw[ax,cmL,fV];rfl] at this;exact⟨this⟩,λ_=>rfl,rfl,aG _,z8<|aG _,by rw[aV,ce];decide⟩<|λj hj acc ha=>⟨Jf (kB j hj) ha,rfl⟩)
 rw[show cmO.map (λj=>CV.str<|pcS j)=(cmO.map pcS).map CV.str by rw[fV];rfl] at C;have hJ:zU "" (cmO.map pcS)=true:=Hz zF (by rw[aV,ce];decide);have cj:=λ(st:List ae)(h:st[29]?=some (.list<|(cmO.map pcS).map CV.str))=>AR (d:=d+2) h hJ;have e1:=DW (c:=192) (e:=4) (s:=aN 0) (bi:=192) (ci:=4) rfl rfl;have q4:aN 0/192%4<4:=kg _ (by decide);have tl:=N6 _ q4;have hA:=zL;have sb:∀st (e:aq),st[30]?=some (ax qQ)->fF (d+2) e (.ab 30) (.int<|((aN 0:Int).fdiv 192).fmod 4) st (.str<|qQ.getD (aN 0/192%4) "") st:=λst e h=>e8 (ns:=qQ) (j:=aN 0/192%4) h e1 (by rw[ed,bA<|show _<qQ.length from q4];rfl) (by decide);have et:txL=txA++qQ.getD (aN 0/192%4) "":=gp;have cj:∀(st:List ae),st[29]?=some (.list<|(cmO.map pcS).map CV.str)->bk (d+2) (.bi "str.join") [.str "",.ab 29] [] st (.str txA) st:=cj;rw[L4,fr5,et];generalize qQ.getD (aN 0/192%4) ""=y at *;generalize txA=x at *;rw[P5];generalize cmO.map pcS=ps at *;exact aW (sc:=[.bg (.bi "str.join") [.str ""],.c7 (.ab 29) λst=>st++[ax ps],.val<|.str x,.val<|af<|aN 0,.val<|.str y]) (by rfl')<|am (by rw[jF];show _<=2^24;exact ah [_,_] (.le .o (.n 100)<|.le .i (.n 3)<|.g 1 0<|.le (.a .o .i)<|.n<|2^24) rfl hA tl)<|am (sb _ _ rfl)<|am (show(4:Int)≠0 by decide)<|am (r3 (by decide)<|by decide)<|am (bQ (by decide) rfl)<|am (by decide:4<=cX)<|am (cj _ rfl)<|am gP<|am C<|am yx aX
end
section
variable {d:Nat}
noncomputable def txC:List Nat:=txL.cps.toList
noncomputable def fr6:List (Str×CV):=[("turn",af tnK),("text",.str txL),("second",.ab 45),("row",.ab 50)]
noncomputable def bo:CoK:={I8 with first:=some (.ab 37),table:=some (.ab 48)}
noncomputable def coD (vars:List (Str×CV))(c:CoK)(z:List Nat×Int×List Str)(hs:List (Str×Str))(au:List (Nat×Str))(g:List ae):List ae:=coB vars c++(P5++(lg 31 z.1 z.2.1 z.2.2++(lg 39 [] 1 []++([.bt [("_headers",.ab 49)],.bE 281 47,.list (hs.map br),rwL au]++g))))
section
variable {vars:List (Str×CV)}{c:CoK}{z z':List Nat×Int×List Str}{hs:List (Str×Str)}{au:List (Nat×Str)}{g:List ae}
theorem Ji:(coD vars c z hs au g).length=51+g.length:=by show g.length+51=_;exact zR _ _
theorem N7:t5 (coD vars c z hs au g) 31 z.1 z.2.1 z.2.2:=D3 rfl rfl rfl rfl rfl rfl rfl rfl
theorem mM {h:List ae}:coD vars c z hs au g++h=coD vars c z hs au (g++h):=by simp [coD]
theorem vd {n m:Nat}{cs ln q}(h:n+8<=m):((lg n cs ln q).all λo=>o.lo m)=true:=by
 have o:∀i,i<8->(CV.ab<|n+i).lo m=true:=λi hi=>decide_eq_true (by lia);have k:∀i,i<8->decide (n+i<m)=true:=λi hi=>decide_eq_true (by lia);have q0:(ae.list<|cs.map jR).lo m=true:=An.mpr λy hy=>by obtain⟨z,_,rfl⟩:=cu.mp hy;rfl
 show((CV.ab<|n+1).lo m&&((ae.list<|cs.map jR).lo m&&(decide (n+4<m)&&((decide (n+0<m)&&true)&&true&&(((CV.ab<|n+3).lo m&&true)&&((true&&((CV.ab<|n+2).lo m&&(true&&((CV.ab<|n+7).lo m&&true))))&&(decide (n+5<m)&&((ax q).lo m&&true))))))))=true;rw[o 1 (by decide),q0,k 4 (by decide),k 0 (by decide),o 3 (by decide),o 2 (by decide),o 7 (by decide),k 5 (by decide),show (ax q).lo m=true from cJ _];rfl
theorem Jj {n:Nat}(hn:31<=n):(P5.all λo=>o.lo n)=true:=cC (cC (sw<|ah [_] (.le (.n 31) .o<|.g 1 0<|.le (.n 21) .o) rfl hn)<|BS Je) (by show((ax _).lo n&&((ax _).lo n&&true))=true;rw[show (ax<|cmO.map pcS).lo n=true from cJ _,show (ax qQ).lo n=true from cJ _];rfl)
theorem cp {n:Nat}(hn:51<=n)(hv:(vars.all λp=>p.2.lo n)=true)(hc:c.lo n=true)(hg:(g.all λo=>o.lo n)=true):((coD vars c z hs au g).all λo=>o.lo n)=true:=by refine cC (qI (ah [_] (.le (.n 51) .o<|.g 1 0<|.le .j .o) rfl hn) hv hc)<|cC (Jj<|ah [_] (.le (.n 51) .o<|.g 1 0<|.le (.n 31) .o) rfl hn)<|cC (vd<|ah [_] (.le (.n 51) .o<|.g 1 0<|.le (.a (.n 31)<|.n 8) .o) rfl hn)<|cC (vd<|ah [_] (.le (.n 51) .o<|.g 1 0<|.le (.a (.n 39)<|.n 8) .o) rfl hn)<|cC ?_ hg;show(((CV.ab 49).lo n&&true)&&((CV.ab 47).lo n&&(CV.cV n (hs.map br)&&((rwL au).lo n&&true))))=true;rw[show (CV.ab 49).lo n=true from decide_eq_true<|ah [_] (.le (.n 51) .o<|.g 1 0<|.lt (.n 49) .o) rfl hn,show (CV.ab 47).lo n=true from decide_eq_true<|ah [_] (.le (.n 51) .o<|.g 1 0<|.lt (.n 47) .o) rfl hn,HJ,show (rwL au).lo n=true from ED _];rfl
end
theorem QS:aI (d+5) cCO ((dCO.body.drop 6).take 1) L4 .next (coD fr6 bo (txC,1,[]) [] [] []):=by have h1:=anr (d:=d) (st:=L4) (x:=txL) (by have:=zZ;exact ah [_] (.le .o (.n 1000)<|.g 1 0<|.le .o<|.n 1000000) rfl this);have h2:=anr (d:=d) (st:=L4++lg 31 txC 1 []) (x:="") (by decide);have h3:=ajE (d:=d) (st:=L4++lg 31 txC 1 []++lg 39 [] 1 []);exact aW (sc:=[.c7 (.ab 37) λst=>st++lg 31 txC 1 [],.c7 (.ab 45) λst=>st++lg 39 [] 1 [],.c7 (.ab 48) λst=>st++H9 47]) (by rfl')<|am (by decide:4<=cX)<|am (by decide:0<=cX)<|am h3<|am (cK Yc)<|am h2<|am (cK anp)<|am h1<|am (cK anp) aX
theorem ve {vars:List (Str×CV)}{c:CoK}{z:Nat->List Nat×Int×List Str}{w:Nat->Str}{N n:Nat}{hs:List (Str×Str)}{au:List (Nat×Str)}{g:List ae}{iter:aq}{fJ} {scope:d8}{pos px p1 p2 p3:Pos}{x:Str}{P:List ae->Prop}{a:CV}{items:List CV}(hn:51+g.length=n)(J:b40 cCO (.ListComp (.Call (.Attribute (.Name "first" p1) "get_token" p2) [] [] p3) [⟨.Name x px,iter,[],fJ⟩] scope pos) scope [("first",8)]) (hx:(nU scope dCO.scope).names.lookup x=some .local)(h1:(nU scope dCO.scope).names.lookup ("first":Str)=some .cell)(h2:(cI cCO scope (n+1) [("first",8)]).cells.lookup ("first":Str)=some 8)(xZ:p2.endLine=p3.line)(hc:c.first=some (.ab 37))(hi:a8 (d+7) cCO iter (coD vars c (z 0) hs au g) a (coD vars c (z 0) hs au g))(hs0:Nonempty (iY a items P))(hP:∀i h,P (coD vars c (z i) hs au (g++h)))(hN:items.length=N)(hN6:N<=10) (hz:∀i,i<N->i8 (z i).1 (z i).2.1 (z i).2.2=(w i,z (i+1)))(hl:∀i,(z i).1.length<=1000∧(z i).2.2.length<=1000) (b9:∀i,((coD vars c (z i) hs au g).all λo=>o.lo n)=true):b41 (d+7) cCO (.ListComp (.Call (.Attribute (.Name "first" p1) "get_token" p2) [] [] p3) [⟨.Name x px,iter,[],fJ⟩] scope pos) (coD vars c (z 0) hs au g) (.ab n) (coD vars c (z N) hs au g++[ax ((aK N).map w)]):=by
 have L:∀i,(coD vars c (z i) hs au g).length=n:=λi=>Ji.trans hn;subst hN;have e:ax ((aK items.length).map w)=.list (ex (λi _=>if i<items.length then some (.str<|w i) else none) 0 items):=by
  have:∀(xs:List CV) i,i+xs.length=items.length->ex (λi _=>if i<items.length then some (.str<|w i) else none) i xs=(fc i xs.length).map λi=>CV.str (w i):=λxs=>by induction xs with|nil=>intro i _;rfl|cons y ys ih=>intro i h;rw[dO] at h;rw[y3,if_pos<|by lia];show _::_=_;rw[ih (i+1)<|ah [_,_,_,_] (.c 1 (-1) (.eq (.a .o<|.a .i .u) .w)<|.g 1 1<|.eq (.a (.a .o .u) .i) .w) rfl h,dO,mO,eC]
  rw[this items 0<|ah [_] (.g 1 1<|.eq (.a .k .o) .o) rfl,ax,fV,pW];rfl
 rw[e];refine H7 (T:=λi=>coD vars c (z i) hs au g) (n:=n) (m:=0) (cl:=[("first",8)]) (ns:=[x]) (ol:=[(x,.any)]) (mC:=λv=>[(x,v)]) (items:=items) (P:=P) J hi hs0 (by have:=hP 0 [];rwa[dM] at this) (by rw[mM];exact hP 0 _) L rfl (λ_=>by simp [fj]) (λi acc=>by rw[mM];exact hP i _) ?_ ?_ ?_ ?_ (ah [_] (.le .o .t<|.g 1 0<|.le .o<|.n<|2^20) rfl hN6) (ll<|L 0) ?_
 ·intro i v acc _;have:=y4 (d:=d+7) (c:=cI cCO scope (n+1) [("first",8)]) (pos:=px) (g:=[]) (o:=.list acc) (fv:=[(x,.any)]) (v:=v) (L i) rfl hx;rwa[OT] at this
 ·intro i v acc _ hv h;have:=(bV.mp hv).1;rw[if_pos<|by omega] at h;nomatch h
 ·intro i v acc y _ hv h;have hi:i<items.length:=by have:=(bV.mp hv).1;lia
  rw[if_pos hi] at h;obtain rfl:=dE h;refine⟨_,oT,?_⟩;show a8 _ _ _ (coD vars c (z i) hs au g++_) _ (coD vars c (z<|i+1) hs au g++_);rw[mM,mM];have D:t5 (coD vars c (z i) hs au<|g++[.list acc,.frame [(x,v)]]) 31 _ _ _:=N7;have G:=JH (d:=d) D (fC (hl i).1<|by decide) (fC (hl i).2<|by decide);rw[hz i hi] at G;have G:bk (d+7) (.aH 66) [.ab<|31+6] [] (coD vars c (z i) hs au<|g++[.list acc,.frame [(x,v)]]) (.str<|w i) (coD vars c (z<|i+1) hs au<|g++[.list acc,.frame [(x,v)]]):=G;refine Lu rfl (by decide) (eu rfl rfl (Aq h1 h2 ?_)) (JG D) sW F8 (cK JF) G xZ;show some (ae.cell c.first)=_;rw[hc]
 ·intro i v y hv h;have:=(bV.mp hv).1;rw[if_pos<|by lia] at h;obtain rfl:=dE h;rfl
 refine cC (Bl (ke _)<|b9 _)<|BS (o:=.list _) ?_;refine An.mpr λy hy=>?_;have:∀xs i,∀y∈ex (λi _=>if i<items.length then some (CV.str<|w i) else none) i xs,∃s,y=.str s:=λxs=>by
  induction xs with
  |nil=>intro i y h;nomatch h|cons u us ih=>
   intro i y h;rw[y3] at h;by_cases q:i<items.length
   ·rw[if_pos q] at h;rcases pO.mp h with rfl|h
    ·exact⟨_,rfl⟩
    exact ih _ y h
   rw[if_neg q] at h;exact ih _ y h
 obtain⟨s,rfl⟩:=this items 0 y hy;rfl
end
section
variable {d:Nat}
noncomputable def Jn (i:Nat):List Nat×Int×List Str:=((gi txC i).1,(gi txC i).2,[])
structure QT (c5:List Nat)(l5 l6:Int):Prop where
 n:∀i,(gi txC i).1.length<=1000
 w:∀i,i<4->(bG (gi txC i).1 (gi txC i).2).1=cmL.getD i ""
 t5:i8 (gi txC 4).1 (gi txC 4).2 []=(("z":Str),c5,l5,([]:List Str))
 t6:i8 c5 l5 []=(("":Str),([]:List Nat),l6,([]:List Str))
 n5:c5.length<=1000
 ln:l6=1+sM txL "\n"
theorem N8 {i:Nat}(hi:i<4):cmL[i]?=some (fN bc (cmO.getD i 0)):=by rw[cmL,dN,ed,bA<|by rwa[ce]];rfl
theorem N9 {i:Nat}(hi:i<4):cmO[i]?=some (cmO.getD i 0)∧cmO.getD i 0<4:=by
 have h:cmO[i]?=some (cmO.getD i 0):=by rw[ed,bA<|by rwa[ce]];rfl
 exact⟨h,kB _<|c8 h⟩
theorem kC:cmL.length=4:=by rw[cmL,aV,ce]
theorem QU:∃c5 l5 l6,QT c5 l5 l6:=by
 have e0:(aK 4).map (λk=>(pcS<|cmO.getD k 0).cps.toList)=cmO.map (λj=>(pcS j).cps.toList):=by refine Ku (by rw[aV,aV,fb,ce]) λi h1 h2=>?_;rw[aal,aal,aan,ed,bA<|by simpa using h2];rfl
 have eT:txC=((aK 4).map λk=>(pcS<|cmO.getD k 0).cps.toList).flatten++(qQ.getD (aN 0/192%4) "").cps.toList:=by rw[e0,txC,txL,gp,vR,z3,txA,Ix,fV];rfl
 have key:=alm (λk hk=>(zE (N9 hk).2).1) eT;have Tc:txC.length<=1000:=by have:=zZ;rwa[txC,v0]
 have ln:∀i,(gi txC i).1.length<=1000:=λi=>fC (Pt _ i).2 Tc;obtain⟨L,hL,e⟩:=(key 4<|aG 4).1;have e:(gi txC 4).1=L++(qQ.getD (aN 0/192%4) "").cps.toList:=e;have kz:=Pt txC 4;have w:∀i,i<4->(bG (gi txC i).1 (gi txC i).2).1=cmL.getD i "":=λi hi=>by
  have e2:cmL.getD i ""=fN bc (cmO.getD i 0):=by rw[ed,N8 hi];rfl
  rw[(key i<|Ff hi).2 hi,e2];rfl
 have t:∃c5 l5 l6,i8 (gi txC 4).1 (gi txC 4).2 []=(("z":Str),c5,l5,([]:List Str))∧i8 c5 l5 []=(("":Str),([]:List Nat),l6,([]:List Str))∧c5.length<=1000∧l6=1+sM txL "\n":=by generalize gi txC 4=z at e kz;obtain⟨c1,l1⟩:=z;dsimp only at e kz;obtain⟨h1,h2⟩:=aln hL l1 (kg (aN 0/192)<|show 0<4 by decide) rfl;have k1:=Jc c1 l1;rw[e] at k1 kz;rw[e];generalize L++(qQ.getD (aN 0/192%4) "").cps.toList=c at *;unfold i8;generalize bG c l1=y at *;obtain⟨t,c2,l2,b2⟩:=y;dsimp only at *;obtain⟨h3,h4⟩:=h2 l2;refine⟨c2,l2,(bG c2 l2).2.2.1,by rw[h1],by rw[h3,h4],fC k1.2<|fC kz.2 Tc,?_⟩;have e1:=(Jc c2 l2).1;rw[h4] at e1;have e2:=k1.1;have e3:=kz.1;rw[show("\n":Str)=⟨#[10]⟩ from rfl,Pe,<-Zb];have:tY []=0:=rfl;have e4:tY txC=tY txL.cps.toList:=rfl;dsimp only at e1 e2 e3;lia
 obtain⟨c5,l5,l6,t5,t6,n5,hl⟩:=t;exact⟨c5,l5,l6,ln,w,t5,t6,n5,hl⟩
def SJ:aq:=iL (g7 dCO.body 7)
noncomputable def fr7:List (Str×CV):=fr6++[(("words":Str),CV.ab 51)]
theorem AC {n:Nat}(hn:51<=n):(fr6.all λp=>p.2.lo n)=true:=by show(true&&(true&&((CV.ab 45).lo n&&((CV.ab 50).lo n&&true))))=true;rw[show (CV.ab 45).lo n=true from decide_eq_true<|ah [_] (.le (.n 51) .o<|.g 1 0<|.lt (.n 45) .o) rfl hn,show (CV.ab 50).lo n=true from decide_eq_true<|ah [_] (.le (.n 51) .o<|.g 1 0<|.lt (.n 50) .o) rfl hn];rfl
theorem ee {n:Nat}(hn:51<=n):bo.lo n=true:=Bl hn (by rfl)
theorem Q1 {c5:List Nat}{l5 l6:Int}(H:QT c5 l5 l6):aI (d+7) cCO ((dCO.body.drop 7).take 1) (coD fr6 bo (Jn 0) [] [] []) .next (coD fr7 bo (Jn 4) [] [] [ax cmL]):=by
 have C:b41 (d+7) cCO SJ (coD fr6 bo (Jn 0) [] [] []) (.ab 51) (coD fr6 bo (Jn 4) [] [] []++[ax<|(aK 4).map λi=>cmL.getD i ""]):=by exact ve (P:=λst=>st[27]?=some (ax cmL)) rfl ⟨by rfl',by rfl',by rfl',by rfl',by rfl'⟩ (by rfl) rfl rfl rfl rfl (dk (sc:=[]) rfl aX) ⟨rI 27 _⟩ (λi h=>rfl) (by rw[aV,kC]) (by decide) (λi hi=>Prod.ext (H.w i hi) rfl) (λi=>⟨H.n i,dQ _⟩) (λi=>cp (aG _) (AC<|aG _) (ee<|aG _) rfl)
 rw[show (aK 4).map (λi=>cmL.getD i "")=cmL from Ku (by rw[aV,fb,kC]) λi h1 h2=>by rw[aal,aan,ed,bA h2];rfl] at C;exact aW (sc:=[.aE (.ab 51)<|coD fr6 bo (Jn 4) [] [] []++[ax cmL]]) (by rfl)<|am C.2 aX
end
section
variable {d:Nat}
def hrK (j:Nat):Nat:=gW (aN j%6)
def grB (j:Nat):Bool:=gW (aN j/96%2==1)
def leK (j:Nat):Str:=(cQ (cond (grB j) "ABCDEF" "abcdef")).getD (hrK j) ""
theorem vg (j:Nat):hrK j<6:=by rw[hrK,gp];exact kg _ (by decide)
theorem Il (j:Nat):(cQ (cond (grB j) "ABCDEF" "abcdef"))[hrK j]?=some (leK j)∧bY (leK j):=by
 have:∀b:Bool,∀h,h<6->(cQ<|cond b "ABCDEF" "abcdef")[h]?=some ((cQ<|cond b "ABCDEF" "abcdef").getD h "")∧qC.contains ((cQ<|cond b "ABCDEF" "abcdef").getD h "")=true:=by decide +kernel
 exact this _ _<|vg j
theorem Im {j:Nat}(hj:j<4):dH (fN bc j):=by
 have:∀i,i<8->DC.contains ⟨#[gN i]⟩=true:=by decide +kernel
 exact this _ (by exact ah [_,_] (.lt .o (.n 4)<|.lt .i (.n 5)<|.g 1 0<|.lt (.a .i .o)<|.n 8) rfl hj sr)
noncomputable def z4K (pb:List Str):List Nat×Int×List Str:=((gi txC 4).1,(gi txC 4).2,pb)
noncomputable def fr8 (n:Option Str):List (Str×CV):=fr7++(match n with|none=>[]|some x=>[(("name":Str),CV.str x)])
noncomputable def coZ (n:Option Str)(pb:List Str)(hs:List (Str×Str))(au:List (Nat×Str)):List ae:=coD (fr8 n) bo (z4K pb) hs au [ax cmL]
theorem Os {n:Option Str}{k:Nat}(hk:52<=k):((fr8 n).all λp=>p.2.lo k)=true:=by have h6:=AC (n:=k)<|ah [_] (.le (.n 52) .o<|.g 1 0<|.le (.n 51) .o) rfl hk;have h51:(CV.ab 51).lo k=true:=decide_eq_true<|ah [_] (.le (.n 52) .o<|.g 1 0<|.lt (.n 51) .o) rfl hk;cases n<;>(show((fr6++[(("words":Str),CV.ab 51)]++_).all _)=true;rw[RO,RO,h6];show(true&&((CV.ab 51).lo k&&true)&&_)=true;rw[h51];rfl)
theorem Ot {n:Option Str}{k:Nat}{pb hs au}(hk:52<=k):((coZ n pb hs au).all λo=>o.lo k)=true:=cp (by omega) (Os hk) (ee<|by omega)<|BS<|cJ _
theorem Jp:(339,337)∈X.cU:=by rw[Cy];exact .tail _<|.head _
theorem EH {j:Nat}{pb hs au}(hj:j<4)(h1:pb.length<=10)(h2:hs.length<=10)(h3:au.length<=10):aI (d+7) cCO sk.2.2 (coZ (some (fN bc j)) pb hs au) .next (coZ (some (fN bc j)) (pb++[fN bc j]) (hs++[(leK j,fN bc j)]) (dv (rwF (hrK j)) (hrK j,fN bc j) au)):=by
 have e6:=Pb (c:=6) (s:=aN j) (ci:=6) rfl;rw[show aN j%6=hrK j from gp.symm] at e6;have e2:=DW (c:=96) (e:=2) (s:=aN j) (bi:=96) (ci:=2) rfl rfl;have gr:grB j=(aN j/96%2==1):=gp;have m2:aN j/96%2<2:=kg _ (by decide);have q:(((aN j:Int).fdiv 96).fmod 2 != 0)=grB j:=by
  rw[gr,e2];by_cases z:aN j/96%2=1
  ·rw[z];rfl
  rw[show aN j/96%2=0 by lia];rfl
 have nu:∀st (e:aq),st[28]?=some (ae.map<|nuM 4)->fF (d+7) e (.ab 28) (.str<|fN bc j) st (af<|aN j) st:=λst e h=>Wj h<|EF hj;have lk:=Il j;have vk:=Im hj;have sg:∀st (e:aq),fF (d+7) e (.str<|cond (grB j) "ABCDEF" "abcdef") (.int<|(aN j:Int).fmod 6) st (.str<|leK j) st:=λst e=>by rw[e6];exact wS lk.1 (by have:=vg j;exact ah [_] (.lt .o (.n 6)<|.g 1 0<|.lt .o<|.n<|2^40) rfl this)
 generalize fN bc j=nm at *;have lm:∀(st:List ae),a8 (d+7) cCO (Wx Id) st (.ab st.length) (st++[rwK]):=λst=>by with_unfolding_all exact Hi (c:=cCO) (q:=(339,337)) rfl (λenv=>rfl) rfl
 have ins:∀(st:List ae),st[50]?=some (rwL au)->st[52]?=some rwK->bk (d+7) (.aH 89) [.ab 50,.cB [.int<|(aN j:Int).fmod 6,.str nm]] [("key",.ab 52)] st .none (st.set 50<|rwL<|dv (rwF<|hrK j) (hrK j,nm) au):=λst a b=>by rw[e6];exact QC (x:=(hrK j,nm)) a b<|ah [_] (.le .o .t<|.g 1 0<|.lt .o<|.n<|2^16) rfl h3
 generalize leK j=le at *;generalize hrK j=h at *;have D:t5 (coZ (some nm) pb (hs++[(le,nm)]) (dv (rwF h) (h,nm) au)++[rwK]) 31 (gi txC 4).1 (gi txC 4).2 pb:=D3 rfl rfl rfl rfl rfl rfl rfl rfl;have HA:om (coZ (some nm) pb hs (dv (rwF h) (h,nm) au)++[rwK]) 47 48 49 hs:=⟨rfl,rfl,rfl⟩;refine aI.drop (g:=[rwK]) ?_ (aG _) (Ot<|aG 52) rfl;cases hg:grB j with
 |false=>
  rw[hg] at q sg;exact aW (sc:=[.val<|af<|aN j,.c7 (.ab 52) λst=>st++[rwK],.c7 .none λst=>st.set 50<|rwL<|dv (rwF h) (h,nm) au,.bg (.aH 278) [.ab 48],.val<|af<|aN j,.no,.val<|af<|aN j,.val<|.str le,.c7 .none λst=>st.set 49<|.list<|(hs++[(le,nm)]).map br,.bg (.aH 73) [.ab 37],.c7 .none λst=>vB st 31 (gi txC 4).1 (gi txC 4).2<|pb++[nm]]) (by rfl')
   (am (anu (d:=d+5) D<|by lia)<|am (cK anq)<|am (ans D)<|am (Yh (d:=d+3) HA lk.2 vk<|ah [_] (.le .o .t<|.g 1 0<|.le .o<|.n 1000000) rfl h2)<|am (cK Yd)<|am (sg _ _)<|am (show(6:Int)≠0 by decide)<|am (nu _ _ rfl)<|am q<|am (show(2:Int)≠0 by decide)<|am (r3 (by decide)<|by decide)<|am (nu _ _ rfl)<|am (Yf HA)<|am (ins _ rfl rfl)<|am (cK Ex)<|am (lm _)<|am wM<|am (show(6:Int)≠0 by decide)<|am (nu _ _ rfl) aX)
 |true=>
  rw[hg] at q sg;exact aW (sc:=[.val<|af<|aN j,.c7 (.ab 52) λst=>st++[rwK],.c7 .none λst=>st.set 50<|rwL<|dv (rwF h) (h,nm) au,.bg (.aH 278) [.ab 48],.val<|af<|aN j,.yes,.val<|af<|aN j,.val<|.str le,.c7 .none λst=>st.set 49<|.list<|(hs++[(le,nm)]).map br,.bg (.aH 73) [.ab 37],.c7 .none λst=>vB st 31 (gi txC 4).1 (gi txC 4).2<|pb++[nm]]) (by rfl')
   (am (anu (d:=d+5) D<|by lia)<|am (cK anq)<|am (ans D)<|am (Yh (d:=d+3) HA lk.2 vk<|ah [_] (.le .o .t<|.g 1 0<|.le .o<|.n 1000000) rfl h2)<|am (cK Yd)<|am (sg _ _)<|am (show(6:Int)≠0 by decide)<|am (nu _ _ rfl)<|am q<|am (show(2:Int)≠0 by decide)<|am (r3 (by decide)<|by decide)<|am (nu _ _ rfl)<|am (Yf HA)<|am (ins _ rfl rfl)<|am (cK Ex)<|am (lm _)<|am wM<|am (show(6:Int)≠0 by decide)<|am (nu _ _ rfl) aX)
end
section
variable {d:Nat}
noncomputable def L5 (au:List (Nat×Str))(js:List Nat):List (Nat×Str):=js.foldl (λr j=>dv (rwF (hrK j)) (hrK j,fN bc j) r) au
theorem vi:∀js n pb hs au,(∀j∈js,j<4)->pb.length+js.length<=10->hs.length+js.length<=10->au.length+js.length<=10->∃n',fG (d+7) cCO sk.1 sk.2.2 (λst=>st[27]?=some (ax cmL)) (js.map λj=>.str (fN bc j)) (coZ n pb hs au) .next (coZ n' (pb++js.map (fN bc)) (hs++js.map λj=>(leK j,fN bc j)) (L5 au js))
 |[],n,pb,hs,au,_,_,_,_=>⟨n,by show fG _ _ _ _ _ [] _ _ (coZ n (pb++[]) (hs++[]) au);rw[dM,dM];exact .nil rfl⟩|j::js,n,pb,hs,au,hj,h1,h2,h3=>by
  rw[dO] at h1 h2 h3;have T:=EH (d:=d) (pb:=pb) (hs:=hs) (au:=au) (hj j<|.head _) (ah [_,_,_] (.le (.a .o .i) .u<|.g 1 0<|.le .o .u) rfl h1) (ah [_,_,_] (.le (.a .o .i) .u<|.g 1 0<|.le .o .u) rfl h2)<|ah [_,_,_] (.le (.a .o .i) .u<|.g 1 0<|.le .o .u) rfl h3;obtain⟨n',L⟩:=vi js (some<|fN bc j) (pb++[fN bc j]) (hs++[(leK j,fN bc j)]) (dv (rwF<|hrK j) (hrK j,fN bc j) au) (λi hi=>hj i<|.tail _ hi) (by rw[dJ];simp;exact ah [_,_,_,_] (.le (.a .o<|.a .i .u) .w<|.g 1 0<|.le (.a (.a .o .u) .i) .w) rfl h1) (by rw[dJ];simp;exact ah [_,_,_,_] (.le (.a .o<|.a .i .u) .w<|.g 1 0<|.le (.a (.a .o .u) .i) .w) rfl h2) (by rw[u8];exact ah [_,_,_,_] (.le (.a .o<|.a .i .u) .w<|.g 1 0<|.le (.a (.a .o .u) .i) .w) rfl h3);rw[eJ,eJ] at L;have A:dj (d+7) cCO sk.1 (.str<|fN bc j) (coZ n pb hs au) (coZ (some<|fN bc j) pb hs au):=by cases n<;>exact i4 (sc:=[]) (by rfl') aX
  exact⟨n',.cons rfl A T (.inl rfl) L⟩
noncomputable def hsK:List (Str×Str):=cmO.map λj=>(leK j,fN bc j)
noncomputable def hM:List (Nat×Str):=L5 [] cmO
noncomputable def frW:List (Str×CV):=(("name":Str),CV.any)::fr7
theorem nb:ax cmL=.list (cmO.map λj=>.str (fN bc j)):=by rw[ax,cmL,fV];rfl
theorem Q2:aI (d+7) cCO ((dCO.body.drop 8).take 1) (coD fr7 bo (Jn 4) [] [] [ax cmL]) .next (coD frW bo (z4K cmL) hsK hM [ax cmL]):=by
 obtain⟨n',L⟩:=vi cmO none [] [] [] kB (by rw[ce];decide) (by rw[ce];decide) (by rw[ce];decide);rw[xL,xL] at L;have L:fG (d+7) cCO sk.1 sk.2.2 (λst=>st[27]?=some (ax cmL)) (cmO.map λj=>.str<|fN bc j) (coZ none [] [] []) .next (coZ n' cmL hsK hM):=L;rw[nb] at L;have B:aI (d+7) cCO ((dCO.body.drop 8).take 1) (coZ none [] [] []) .next (coZ n' cmL hsK hM):=aW (sc:=[.iX .next (coZ n' cmL hsK hM)]) rfl (am (mq (rI 27 _) (by rfl') (dk (sc:=[]) (by rfl') aX) (congrArg some nb) L) aX);have W:=B.fj (i:=1) ["name"] rfl;have e:fj ["name"] (fr8 n')=frW:=by cases n'<;>rfl'
 rwa[e] at W
noncomputable def xn (c5:List Nat)(l5 l6:Int):Nat->List Nat×Int×List Str
 |0=>z4K (cmL.drop 0)|1=>z4K (cmL.drop 1)|2=>z4K (cmL.drop 2)|3=>z4K (cmL.drop 3)|4=>z4K (cmL.drop 4)|5=>(c5,l5,[])|_=>([],l6,[])
noncomputable def Io:Nat->Str
 |0=>cmL.getD 0 ""|1=>cmL.getD 1 ""|2=>cmL.getD 2 ""|3=>cmL.getD 3 ""|4=>"z"|_=>""
noncomputable def vm:List Str:=cmL++(["z",""]:List Str)
def SK:aq:=iL (g7 dCO.body 9)
noncomputable def fr9:List (Str×CV):=frW++[(("again":Str),CV.ab 52)]
theorem Ip {n:Nat}(hn:52<=n):(frW.all λp=>p.2.lo n)=true:=by have h6:=AC (n:=n)<|ah [_] (.le (.n 52) .o<|.g 1 0<|.le (.n 51) .o) rfl hn;have h51:(CV.ab 51).lo n=true:=decide_eq_true<|ah [_] (.le (.n 52) .o<|.g 1 0<|.lt (.n 51) .o) rfl hn;show(true&&((fr6++[(("words":Str),CV.ab 51)]).all λp=>p.2.lo n))=true;rw[RO,h6];show(true&&(true&&((CV.ab 51).lo n&&true)))=true;rw[h51];rfl
theorem cm4:∃a b c e:Str,cmL=[a,b,c,e]:=by
 have:=kC
 match h:cmL with
 |[a,b,c,e]=>exact⟨a,b,c,e,rfl⟩|[]=>rw[h] at this;nomatch this|[_]=>rw[h] at this;nomatch this|[_,_]=>rw[h] at this;nomatch this|[_,_,_]=>rw[h] at this;nomatch this|_::_::_::_::_::_=>rw[h] at this;simp at this
theorem Q3 {c5:List Nat}{l5 l6:Int}(H:QT c5 l5 l6):aI (d+7) cCO ((dCO.body.drop 9).take 1) (coD frW bo (z4K cmL) hsK hM [ax cmL]) .next (coD fr9 bo ([],l6,[]) hsK hM [ax cmL,ax vm]):=by
 have n4:=H.n 4;have dl:∀i,(cmL.drop i).length<=1000:=λi=>by rw[jA,kC];omega
 obtain⟨a,b,c,e,h4⟩:=cm4;have C:b41 (d+7) cCO SK (coD frW bo (xn c5 l5 l6 0) hsK hM [ax cmL]) (.ab 52) (coD frW bo (xn c5 l5 l6 6) hsK hM [ax cmL]++[ax<|(aK 6).map Io]):=by
  with_unfolding_all exact ve (d:=d) (x:="step") (a:=.fW 0 6 1) (items:=(aK 6).map af) (P:=λ_=>True) rfl ⟨by rfl',by rfl',by rfl',by rfl',by rfl'⟩ (by rfl) (by rfl) (by rfl) (by rfl) rfl (dk (sc:=[.val<|.fW 0 6 1]) (by rfl)<|am afo<|am yn aX) (mE 6<|by decide) (λ_ _=>trivial) rfl (by decide) (λi hi=>match i,hi with
   |0,_=>by rw[xn,xn,Io,h4];rfl|1,_=>by rw[xn,xn,Io,h4];rfl|2,_=>by rw[xn,xn,Io,h4];rfl|3,_=>by rw[xn,xn,Io,h4];rfl|4,_=>by rw[xn,xn,Io,h4];exact H.t5|5,_=>H.t6) (λi=>match i with
   |0=>⟨n4,dl 0⟩|1=>⟨n4,dl 1⟩|2=>⟨n4,dl 2⟩|3=>⟨n4,dl 3⟩|4=>⟨n4,dl 4⟩|5=>⟨H.n5,dQ _⟩|_+6=>⟨dQ _,dQ _⟩) (λi=>cp (by decide) (Ip<|aG _) (ee<|by decide)<|BS<|cJ _)
 have ea:(aK 6).map Io=vm:=by show [cmL.getD 0 "",cmL.getD 1 "",cmL.getD 2 "",cmL.getD 3 "","z",""]=vm;rw[vm,h4];rfl
 rw[ea] at C;exact aW (sc:=[.aE (.ab 52)<|coD frW bo ([],l6,[]) hsK hM [ax cmL]++[ax vm]]) rfl (am C.2 aX)
end
section
section
variable {α:Type}{key:α->Nat}
noncomputable def cL (key:α->Nat)(n:Nat)(js:List α):List α:=(aK n).flatMap λh=>js.filter λi=>key i==h
theorem A2 {f:α->Bool}{a b:List α}(h1:∀v∈a,f v=true)(h2:∀v∈b,f v=false):cM f (a++b) ((a++b).length+1) 0 (a++b).length=a.length:=by
 rw[i22 (K:=a.length) (λi v hv=>?_) _ _ _ (Nat.le_of_eq (lq _).symm) (aG _)<|dQ _]
 ·rw[dJ,Nat.min_eq_right<|vH _ _];exact Nat.max_eq_right<|dQ _
 by_cases q:i<a.length
 ·rw[d2 q] at hv;exact⟨λ_=>q,λ_=>h1 v<|c8 hv⟩
 rw[dT<|Nat.le_of_not_lt q] at hv;exact⟨λh=>by rw[h2 v<|c8 hv] at h;exact nB h,λh=>absurd h q⟩
theorem kJ {f:α->Bool}{x:α}{a b:List α}(h1:∀v∈a,f v=true)(h2:∀v∈b,f v=false):dv f x (a++b)=a++x::b:=by rw[dv,A2 h1 h2,List.take_left,List.drop_left]
theorem nc {js:List α}{v:α}{p n:Nat}:v∈(fc p n).flatMap (λh=>js.filter λi=>key i==h)->p<=key v∧key v<p+n:=λh=>by obtain⟨k,hk,hv⟩:=aae.mp h;have:=aah.mp hk;have e:=eq_of_beq (Ca.mp hv).2;lia
theorem ni {js:List α}{k n:Nat}(h:k<n):cL key n js=(fc 0 k).flatMap (λh=>js.filter λi=>key i==h)++(js.filter (λi=>key i==k)++(fc (k+1) (n-(k+1))).flatMap (λh=>js.filter λi=>key i==h)):=by obtain⟨r,rfl⟩:=Nat.exists_eq_add_of_le (show k+1<=n from h);rw[Nat.add_sub_cancel_left,cL,pW,Nat.add_assoc,<-List.range'_append_1,aag,lq,<-List.range'_append_1,aag];show _++((_++[])++_)=_;rw[dM]
theorem jt {js js':List α}{p n:Nat}(h:∀k,p<=k->k<p+n->(js.filter λi=>key i==k)=js'.filter λi=>key i==k):(fc p n).flatMap (λh=>js.filter λi=>key i==h)=(fc p n).flatMap (λh=>js'.filter λi=>key i==h):=by rw[aaw,aaw];congr 1;exact vZ λk hk=>by have:=aah.mp hk;exact h k this.1 this.2
theorem qL {js:List α}{j:α}{n:Nat}(hj:key j<n):dv (λv=>!decide (key j<key v)) j (cL key n js)=cL key n (js++[j]):=by
 have ne:∀k,k≠key j->(js++[j]).filter (λi=>key i==k)=js.filter λi=>key i==k:=λk hk=>by rw[aqP,sR,if_neg (by simpa using rc hk),aat,dM]
 have eq:(js++[j]).filter (λi=>key i==key j)=(js.filter λi=>key i==key j)++[j]:=by rw[aqP,sR,if_pos<|beq_self_eq_true _,aat]
 rw[ni hj,ni hj,eq,jt<|λk h1 h2=>ne k<|ah [_,_] (.lt .o (.a .k .i)<|.g (-1) 0<|.no<|.eq .o .i) rfl h2,jt<|λk h1 h2=>ne k<|ah [_,_] (.le (.a .o .j) .i<|.g 1 0<|.no<|.eq .i .o) rfl h1,<-eJ,kJ]
 ·rw[eJ,eJ];rfl
 ·intro v hv;rcases f7.mp hv with h|h
  ·have:=nc h;rw[E0,decide_eq_false_iff_not];exact ah [_,_] (.lt .o (.a .k .i)<|.g 1 0<|.no<|.lt .i .o) rfl this.2
  have:=eq_of_beq (Ca.mp h).2;rw[E0,decide_eq_false_iff_not];exact ah [_,_] (.eq .o .i<|.g 1 0<|.no<|.lt .i .o) rfl this
 intro v hv;rw[Bool.not_eq_false',decide_eq_true_iff];exact ah [_,_] (.le (.a .o .j) .i<|.g 1 0<|.lt .o .i) rfl (nc hv).1
theorem EI {js:List α}{j:α}{n:Nat}(hj:key j<n):dv (λv=>decide (key v<key j)) j (cL key n js)=cL key n (j::js):=by
 have ne:∀k,k≠key j->(j::js).filter (λi=>key i==k)=js.filter λi=>key i==k:=λk hk=>by rw[sR,if_neg<|by simpa using rc hk]
 have eq:(j::js).filter (λi=>key i==key j)=j::(js.filter λi=>key i==key j):=by rw[sR,if_pos<|beq_self_eq_true _]
 rw[ni hj,ni hj,eq,jt<|λk h1 h2=>ne k<|ah [_,_] (.lt .o (.a .k .i)<|.g (-1) 0<|.no<|.eq .o .i) rfl h2,jt<|λk h1 h2=>ne k<|ah [_,_] (.le (.a .o .j) .i<|.g 1 0<|.no<|.eq .i .o) rfl h1,kJ]
 ·rfl
 ·intro v hv;have:=nc hv;rw[decide_eq_true_iff];exact ah [_,_] (.lt .o (.a .k .i)<|.g 1 0<|.lt .o .i) rfl this.2
 intro v hv;rcases f7.mp hv with h|h
 ·have:=eq_of_beq (Ca.mp h).2;rw[decide_eq_false_iff_not];exact ah [_,_] (.c (-1) 0 (.eq .o .i)<|.g 1 0<|.no<|.lt .o .i) rfl this
 rw[decide_eq_false_iff_not];exact ah [_,_,_] (.le (.a .o .i) .u<|.g 1 0<|.no<|.lt .u .o) rfl (nc h).1
end
theorem EK {α β:Type}{g:β->α}{f:α->Bool}{f':β->Bool}(h:∀x,f (g x)=f' x){x:β}{xs:List β}:dv f (g x) (xs.map g)=(dv f' x xs).map g:=by rw[dv,dv,aV,Eg h,fU,eC,oH,rn]
noncomputable def nhK (j:Nat):Nat×Str:=(hrK j,fN bc j)
theorem vq:∀js js',L5 ((cL hrK 6 js').map nhK) js=(cL hrK 6 (js'++js)).map nhK
 |[],js'=>by rw[dM];rfl|j::js,js'=>by show L5 (dv (rwF<|hrK j) (nhK j)<|(cL hrK 6 js').map nhK) js=_;rw[EK (f:=rwF<|hrK j) (g:=nhK) (f':=λv=>!decide (hrK j<hrK v))<|λx=>rfl,qL<|vg j,vq js<|js'++[j],eJ];rfl
theorem nj:hM=(cL hrK 6 cmO).map nhK:=by have:=vq cmO [];rwa[xL] at this
end
section
variable {d:Nat}
theorem kS {st:List ae}{k l:Nat}{xs:List CV}(hk:st[k]?=some (.list xs))(hl:st[l]?=some (.list xs))(hx:CV.g6 xs=true)(hd:CV.jV xs<=6):jj (d+1) .NotEq (.ab k) (.ab l) st (.bool false) st:=by have:=Dc (d:=d) hk hl hx hx hd;rwa[uH xs hx] at this
theorem jv {α:Type}{f:α->CV}{n:Nat}(h:∀x,(f x).gg=true)(hd:∀x,(f x).s8<=n)(xs:List α):CV.g6 (xs.map f)=true∧CV.jV (xs.map f)<=n:=⟨lJ.mpr λy hy=>by obtain⟨x,_,rfl⟩:=cu.mp hy;exact h x,by
 induction xs with
 |nil=>exact dQ _|cons x xs ih=>rw[eC,CV.GR];exact Nat.max_le.mpr ⟨hd x,ih⟩⟩
theorem cA (xs:List Str):CV.g6 (xs.map CV.str)=true∧CV.jV (xs.map CV.str)<=6:=jv (λ_=>rfl) (λ_=>dQ _) xs
theorem Ba (xs:List (Nat×Str)):CV.g6 (xs.map rwV)=true∧CV.jV (xs.map rwV)<=6:=jv (λ_=>rfl) (λx=>fC (ll<|show (rwV x).s8=1 from rfl)<|by decide) xs
noncomputable def coY (l6:Int)(vars:List (Str×CV))(c:CoK)(g:List ae):List ae:=coD vars c ([],l6,[]) hsK hM g
theorem Bc {n:Nat}(hn:53<=n):(fr9.all λp=>p.2.lo n)=true:=by rw[fr9,RO,Ip (n:=n)<|ah [_] (.le (.n 53) .o<|.g 1 0<|.le (.n 52) .o) rfl hn];show(true&&((CV.ab 52).lo n&&true))=true;rw[show (CV.ab 52).lo n=true from decide_eq_true<|ah [_] (.le (.n 53) .o<|.g 1 0<|.lt (.n 52) .o) rfl hn];rfl
noncomputable def vu:List ae:=[ax cmL,ax vm]
def Q4:aq:=(sp (g7 dCO.body 10)).e
def nk:aq:=ew (ew Q4 2) 1
theorem bd (n:Nat)(xs:List Str):(ax xs).lo n=true:=cJ xs
theorem Ou {l6:Int}:aI (d+7) cCO ((dCO.body.drop 10).take 1) (coY l6 fr9 bo vu) .next (coY l6 fr9 bo vu):=by
 have lo0:∀n,53<=n->((coY l6 fr9 bo vu).all λo=>o.lo n)=true:=λn hn=>cp (by lia) (Bc hn) (ee<|by lia)<|cC (BS<|bd _ _)<|BS<|bd _ _;have C:=oJ (mL (d:=d+7) (c:=cCO) (T:=coY l6 fr9 bo vu++[ax ["z",""],ax vm]) (st:=coY l6 fr9 bo vu++[ax ["z",""],ax vm]) (n:=55) (cl:=[("number",7),("come",6)]) (x1:="hour") (x2:="name") (xs:=aK 6) (ys:=λ_=>cmO) (φ1:=af) (φ2:=λj=>.str<|fN bc j) (P:=λ_=>True) (a:=.fW 0 6 1) (λh j=>rwV (h,fN bc j)) (λh j=>hrK j==h)
  (elt:=ew nk 0) (iter:=kZ nk) (iter2:=((ep nk).gs.getD 1 default).iter) (ifs2:=((ep nk).gs.getD 1 default).ifs) (as1:=0) (as2:=0) (scope:=fH nk) (pos:=AT nk) (p1:=AT (uL nk).target) (p2:=AT ((ep nk).gs.getD 1 default).target) ⟨by rfl',by rfl',by rfl',by rfl'⟩ (by rfl') (by rfl') (by rfl') (by rfl)
  (dk (sc:=[.val<|.fW 0 6 1]) (by rfl')<|am afo<|am yn aX) (mE 6<|by decide) (λ_=>trivial) rfl (aG _) (cC (lo0 55<|by decide)<|cC (BS<|bd _ _)<|BS<|bd _ _) (by
   have key:∀k,((aK k).flatMap λv=>(cmO.filter<|λj=>hrK j==v).map<|λj=>rwV (v,fN bc j)).length<=4*k:=λk=>by induction k with|zero=>exact aG _|succ k ih=>rw[abK,aag,dJ,aab,aaf,dM,aV];have q:=abZ (λj=>hrK j==k) cmO;rw[ce] at q;exact ah [_,_,_] (.le .o (.m 4 .i)<|.le .u (.n 4)<|.g 1 0<|.le (.a .o .u)<|.m 4<|.a .i .j) rfl ih q
   exact fC (key 6)<|by decide)
  (λh _ oP _=>⟨.ab 27,λst=>st[27]?=some (.list<|cmO.map λj=>.str<|fN bc j),dk (sc:=[]) (by rfl') aX,⟨rI 27 _⟩,λ_=>congrArg some nb⟩)
  (λh _ j hj oP _=>by
   have j4:=kB j hj;have nu:∀st (e:aq),st[28]?=some (ae.map<|nuM 4)->fF (d+7) e (.ab 28) (.str<|fN bc j) st (af<|aN j) st:=λst e h=>Wj h<|EF j4;have e6:=Pb (c:=6) (s:=aN j) (ci:=6) rfl;rw[show aN j%6=hrK j from gp.symm] at e6;have q:(((aN j:Int).fmod 6)==(h:Int))=(hrK j==h):=by rw[e6,aad,beq_iff_eq,beq_iff_eq];lia
   generalize fN bc j=nm at *;refine⟨ms ?_,λ_=>dk (sc:=[]) (by rfl')<|am wM aX,rfl⟩;rw[<-q];exact nX (sc:=[.val<|af<|aN j]) (by rfl')<|am (show(6:Int)≠0 by decide)<|am (nu _ _ rfl) aX))
 have er:(aK 6).flatMap (λv=>(cmO.filter<|λj=>hrK j==v).map<|λj=>rwV (v,fN bc j))=hM.map rwV:=by rw[nj,cL,fV,aak];refine congrArg (aam · _)<|funext λv=>vZ λj hj=>?_;have:=eq_of_beq (Ca.mp hj).2;show rwV (v,_)=rwV (hrK j,_);rw[this]
 rw[er] at C;have C:a8 (d+7) cCO nk (coY l6 fr9 bo vu++[ax ["z",""],ax vm]) (.ab 55) (coY l6 fr9 bo vu++[ax ["z",""],ax vm]++[rwL hM]):=C;have c1:=λ(st:List ae)(h1:st[51]?=some (ax cmL))(h2:st[27]?=some (ax cmL))=>kS (d:=d+6) h1 h2 (cA _).1 (cA _).2;have c2:=λ(st:List ae)(h1:st[52]?=some (ax vm))(h2:st[54]?=some (ax vm))=>kS (d:=d+6) h1 h2 (cA _).1 (cA _).2;have c3:=λ(st:List ae)(h1:st[50]?=some (rwL hM))(h2:st[55]?=some (rwL hM))=>kS (d:=d+6) h1 h2 (Ba _).1 (Ba _).2;have ad:=λ(st:List ae)(h:st[27]?=some (ax cmL))(h2:st[53]?=some (ax ["z",""]))=>Wk (d:=d+7) (k:=27) (l:=53) h h2 (by rw[aV,kC];decide);rw[<-fU] at ad;refine aI.drop (g:=[ax ["z",""],ax vm,rwL hM]) ?_ (aG _) (lo0 53<|by decide) rfl;exact aW (sc:=[.val<|.bool false,.c7 (.ab 54) λst=>st++[ax vm],.val<|.bool false,.c7 (.ab 55) λst=>st++[rwL hM],.val<|.bool false]) (by rfl')
  (am (c3 _ rfl rfl)<|am C<|am (c2 _ rfl rfl)<|am (ad _ rfl rfl)<|am wM<|am (c1 _ rfl rfl) aX)
end
section
variable {d:Nat}
noncomputable def kyF (p:Bool×Bool):Nat:=cond p.2 1 0
noncomputable def f5:List (Bool×Bool):=cmO.flatMap λj=>[(false,grB j),(true,grB j)]
theorem grZ (j:Nat):((aN j:Int).fdiv 96).fmod 2=cond (grB j) 1 0:=by
 have gr:grB j=(aN j/96%2==1):=gp;have m2:aN j/96%2<2:=kg _ (by decide);rw[gr,DW (s:=aN j) (bi:=96) (ci:=2) rfl rfl];by_cases z:aN j/96%2=1
 ·rw[z];rfl
 rw[show aN j/96%2=0 by lia];rfl
noncomputable def EL (p:List (Str×CV)):List (Str×CV):=fr9++((("flags":Str),CV.ab 56)::(("like":Str),CV.ab 55)::p)
noncomputable def Bd (l0 l1:List (Bool×Bool)):List ae:=vu++[flL l0,flL l1,.list [.ab 53,.ab 54],flL f5]
theorem Jq {n:Nat}{p:List (Str×CV)}(hn:57<=n)(hp:(p.all λp=>p.2.lo n)=true):((EL p).all λp=>p.2.lo n)=true:=by have h9:=Bc (n:=n)<|ah [_] (.le (.n 57) .o<|.g 1 0<|.le (.n 53) .o) rfl hn;rw[EL,RO,h9];show(true&&((CV.ab 56).lo n&&((CV.ab 55).lo n&&(p.all λp=>p.2.lo n))))=true;rw[show (CV.ab 56).lo n=true from decide_eq_true<|ah [_] (.le (.n 57) .o<|.g 1 0<|.lt (.n 56) .o) rfl hn,show (CV.ab 55).lo n=true from decide_eq_true<|ah [_] (.le (.n 57) .o<|.g 1 0<|.lt (.n 55) .o) rfl hn,hp];rfl
theorem Be (n:Nat):(vu.all λo=>o.lo n)=true:=cC (BS<|bd _ _)<|BS<|bd _ _
theorem vw {n:Nat}{l0 l1}(hn:55<=n):((Bd l0 l1).all λo=>o.lo n)=true:=cC (Be n) (by show((flL l0).lo n&&((flL l1).lo n&&(((CV.ab 53).lo n&&((CV.ab 54).lo n&&true))&&((flL f5).lo n&&true))))=true;have f:∀l,(flL l).lo n=true:=λl=>hZ l;rw[f,f,f,show (CV.ab 53).lo n=true from decide_eq_true<|ah [_] (.le (.n 55) .o<|.g 1 0<|.lt (.n 53) .o) rfl hn,show (CV.ab 54).lo n=true from decide_eq_true<|ah [_] (.le (.n 55) .o<|.g 1 0<|.lt (.n 54) .o) rfl hn];rfl)
def nl:aq:=ew (iL (g7 dCO.body 11)) 1
theorem Ov (p:Bool×Bool):(flC p).uw=false:=by obtain⟨a,b⟩:=p;cases a<;>rfl
theorem Q5 (p:Bool×Bool)(n:Nat):(flC p).lo n=true:=by obtain⟨a,b⟩:=p;cases a<;>rfl
theorem iq:f5.length=8:=by
 have:∀js:List Nat,(js.flatMap λj=>[(false,grB j),(true,grB j)]).length=2*js.length:=λjs=>by induction js with|nil=>rfl|cons j js ih=>rw[aab,dJ,ih];exact ah [_] (.g 1 1<|.eq (.a (.n 2)<|.m 2 .o)<|.m 2<|.a .o .j) rfl
 rw[f5,this,ce]
theorem Ox {l6:Int}:aI (d+7) cCO ((dCO.body.drop 11).take 1) (coY l6 fr9 bo vu) .next (coY l6 (EL []) bo (Bd [] [])):=by
 have C:=oJ (mL (d:=d+7) (c:=cCO) (T:=coY l6 fr9 bo vu++[.list [],.list [],.list [.ab 53,.ab 54]]) (st:=coY l6 fr9 bo vu++[.list [],.list [],.list [.ab 53,.ab 54]]) (n:=56) (cl:=[("number",7)]) (x1:="name") (x2:="flag") (xs:=cmO) (ys:=λj=>[(false,grB j),(true,grB j)]) (φ1:=λj=>.str<|fN bc j) (φ2:=flC) (P:=λst=>st[27]?=some (.list<|cmO.map λj=>.str<|fN bc j)) (a:=.ab 27) (λj p=>flC p) (λ_ _=>true)
  (elt:=ew nl 0) (iter:=kZ nl) (iter2:=((ep nl).gs.getD 1 default).iter) (ifs2:=[]) (as1:=0) (as2:=0) (scope:=fH nl) (pos:=AT nl) (p1:=AT (uL nl).target) (p2:=AT ((ep nl).gs.getD 1 default).target) ⟨by rfl',by rfl',by rfl',by rfl'⟩ (by rfl') (by rfl') (by rfl') (by rfl)
  (dk (sc:=[]) (by rfl') aX) ⟨rI 27 _⟩ (λ_=>congrArg some nb) rfl (aG _) (cC (cp (by decide) (Bc<|by decide) (ee<|by decide)<|Be _) rfl) (by
   have e:∀js:List Nat,(js.flatMap λv=>([(false,grB v),(true,grB v)].filter<|λ_=>true).map flC).length=2*js.length:=λjs=>by induction js with|nil=>rfl|cons j js ih=>rw[aab,dJ,ih];show 2+2*js.length=2*(js.length+1);exact ah [_] (.g 1 1<|.eq (.a (.n 2)<|.m 2 .o)<|.m 2<|.a .o .j) rfl
   rw[e,ce];decide)
  (λj hj oP _=>⟨.cB<|[(false,grB j),(true,grB j)].map flC,λ_=>True,by
   have nu:∀st (e:aq),st[28]?=some (ae.map<|nuM 4)->fF (d+7) e (.ab 28) (.str<|fN bc j) st (af<|aN j) st:=λst e h=>Wj h<|EF<|kB j hj;have z:=grZ j;generalize fN bc j=nm at *;have E:a8 (d+7) (cI cCO (fH nl) 57 [("number",7)]) ((ep nl).gs.getD 1 default).iter (coY l6 fr9 bo vu++[.list [],.list [],.list [.ab 53,.ab 54]]++[.list oP,.frame [("name",.str nm),("flag",.any)]]) (.cB [.int<|((aN j:Int).fdiv 96).fmod 2,.bool<|((aN j:Int).fdiv 96).fmod 2==1]) (coY l6 fr9 bo vu++[.list [],.list [],.list [.ab 53,.ab 54]]++[.list oP,.frame [("name",.str nm),("flag",.any)]]):=
    dk (sc:=[.val<|af<|aN j,.val<|af<|aN j]) (by rfl') (am wM<|am (show(2:Int)≠0 by decide)<|am (r3 (by decide)<|by decide)<|am (nu _ _ rfl)<|am (show(2:Int)≠0 by decide)<|am (r3 (by decide)<|by decide)<|am (nu _ _ rfl) aX)
   rw[z] at E;revert E;cases grB j<;>exact id,⟨Vk _⟩,λ_=>trivial⟩)
  (λj _ p _ oP _=>⟨oT,λ_=>nh rfl rfl rfl rfl (by rfl') rfl (Ov p),Q5 p _⟩))
 have e:cmO.flatMap (λv=>([(false,grB v),(true,grB v)].filter<|λ_=>true).map flC)=f5.map flC:=by rw[f5,aak];exact congrArg (aam · _)<|funext λv=>rfl
 rw[e] at C;exact aW (sc:=[.c7 (.ab 56) λst=>st++[flL f5]]) (by rfl')<|am wM<|am C<|am wM<|am (by decide:0<=cX)<|am (by decide:0<=cX) aX
end
section
variable {d:Nat}
def Bf:aq×aq×List bl:=dc (dCO.body.drop 12)
noncomputable def flV (p:Option (Bool×Bool)):List (Str×CV):=match p with|none=>[]|some p=>[("flag",flC p)]
noncomputable def coF (l6:Int)(p:Option (Bool×Bool))(l0 l1:List (Bool×Bool)):List ae:=coY l6 (EL (flV p)) bo (Bd l0 l1)
theorem Bm {l6:Int}{p:Bool×Bool}{l0 l1:List (Bool×Bool)}(h0:l0.length<=100)(h1:l1.length<=100):aI (d+7) cCO Bf.2.2 (coF l6 (some p) l0 l1) .next (coF l6 (some p) (dv (flF false p) p l0) (dv (flF true p) p l1)):=by have s0:=λ(st:List ae)(e:aq)(h:st[55]?=some (.list [.ab 53,.ab 54]))=>uI (d:=d+7) (e:=e) (i:=0) (j:=0) (v:=.ab 53) h (by decide) rfl rfl;have s1:=λ(st:List ae)(e:aq)(h:st[55]?=some (.list [.ab 53,.ab 54]))=>uI (d:=d+7) (e:=e) (i:=1) (j:=1) (v:=.ab 54) h (by decide) rfl rfl;have i0:=λ(st:List ae)(h:st[53]?=some (flL l0))=>zD (d:=d+2) (x:=p) false h (by lia);have i1:=λ(st:List ae)(h:st[54]?=some (flL l1))=>zD (d:=d+2) (x:=p) true h (by lia);obtain⟨a,b⟩:=p;generalize dv (flF false (a,b)) (a,b) l0=m0 at *;generalize dv (flF true (a,b)) (a,b) l1=m1 at *;cases a<;>exact aW (sc:=[.val<|.ab 53,.c7 .none λst=>st.set 53<|flL m0,.val<|.ab 54,.c7 .none λst=>st.set 54<|flL m1]) (by rfl')<|am (i1 _ rfl)<|am (cK Ex)<|am (s1 _ _ rfl)<|am (i0 _ rfl)<|am (cK ME)<|am (s0 _ _ rfl) aX
theorem Iq (r:Bool)(p:Bool×Bool):flF r p=cond r (λv=>!decide (kyF p<kyF v)) (λv=>decide (kyF v<kyF p)):=by obtain⟨a,b⟩:=p;cases r<;>funext v<;>obtain⟨u,w⟩:=v<;>cases b<;>cases w<;>rfl
theorem Oy (p:Bool×Bool):kyF p<2:=by obtain⟨a,b⟩:=p;cases b;exact Nat.zero_lt_two;exact Nat.one_lt_two
theorem nn {n:Nat}(js:List (Bool×Bool)):(cL kyF 2 js).length<=2*js.length:=by show(js.filter _++(js.filter _++[])).length<=_;rw[dM,dJ];exact fC (aaA (abZ _ js)<|abZ _ js)<|ah [_] (.g 1 0<|.le (.a .o .o)<|.m 2 .o) rfl
theorem qM {l6:Int}:∀ps q done,done.length+ps.length<=40->∃q',fG (d+7) cCO Bf.1 Bf.2.2 (λst=>st[56]?=some (flL f5)) (ps.map flC) (coF l6 q (cL kyF 2 done.reverse) (cL kyF 2 done)) .next (coF l6 q' (cL kyF 2 (done++ps).reverse) (cL kyF 2 (done++ps)))
 |[],q,done,_=>⟨q,by rw[dM];exact .nil rfl⟩|p::ps,q,done,h=>by
  rw[dO] at h;have z0:=nn (n:=0) done.reverse;have z1:=nn (n:=0) done;rw[RT] at z0;have T:=Bm (d:=d) (l6:=l6) (p:=p) (l0:=cL kyF 2 done.reverse) (l1:=cL kyF 2 done) (ah [_,_,_] (.c 2 0 (.le (.a .o .i)<|.n 40)<|.le .u (.m 2 .o)<|.g 1 0<|.le .u<|.n 100) rfl h z0)<|ah [_,_,_] (.c 2 0 (.le (.a .o .i)<|.n 40)<|.le .u (.m 2 .o)<|.g 1 0<|.le .u<|.n 100) rfl h z1;rw[Iq,Iq] at T;have T:aI (d+7) cCO Bf.2.2 (coF l6 (some p) (cL kyF 2 done.reverse)<|cL kyF 2 done) .next (coF l6 (some p) (dv (λv=>decide (kyF v<kyF p)) p<|cL kyF 2 done.reverse)<|dv (λv=>!decide (kyF p<kyF v)) p<|cL kyF 2 done):=T;rw[EI<|Oy p,qL<|Oy p,show p::done.reverse=(done++[p]).reverse by rw[aqE];rfl] at T;obtain⟨q',L⟩:=qM ps (some p) (done++[p]) (by rw[dJ,Kt];exact ah [_,_,_,_] (.le (.a .o<|.a .i .u) .w<|.g 1 0<|.le (.a (.a .o .u) .i) .w) rfl h);rw[eJ] at L;have A:dj (d+7) cCO Bf.1 (flC p) (coF l6 q (cL kyF 2 done.reverse)<|cL kyF 2 done) (coF l6 (some p) (cL kyF 2 done.reverse)<|cL kyF 2 done):=by cases q<;>exact i4 (sc:=[]) (by rfl') aX
  exact⟨q',.cons rfl A T (.inl rfl) L⟩
noncomputable def Oz:List (Str×CV):=(("flag":Str),CV.any)::EL []
noncomputable def Jr:List ae:=Bd (cL kyF 2 f5.reverse) (cL kyF 2 f5)
theorem OA {l6:Int}:aI (d+7) cCO ((dCO.body.drop 12).take 1) (coY l6 (EL []) bo (Bd [] [])) .next (coY l6 Oz bo Jr):=by
 obtain⟨q,L⟩:=qM (d:=d) (l6:=l6) f5 none [] (by rw[iq];decide);rw[xL] at L;have F:dB (d+7) cCO (g7 dCO.body 12) (coF l6 none [] []) .next (coF l6 q (cL kyF 2 f5.reverse)<|cL kyF 2 f5):=mq (rI 56 _) (by rfl') (dk (sc:=[]) (by rfl') aX) rfl L;have B:aI (d+7) cCO ((dCO.body.drop 12).take 1) (coF l6 none [] []) .next (coF l6 q (cL kyF 2 f5.reverse)<|cL kyF 2 f5):=aW (sc:=[.iX .next (coF l6 q (cL kyF 2 f5.reverse)<|cL kyF 2 f5)]) (by rfl')<|am F aX;have W:=B.fj (i:=1) (vars:=EL<|flV q) ["flag"] rfl;have e:fj ["flag"] (EL<|flV q)=Oz:=by cases q<;>rfl'
 rw[e] at W;exact W
theorem Bn {n:Nat}(hn:57<=n):(Oz.all λp=>p.2.lo n)=true:=by show(true&&((EL []).all λp=>p.2.lo n))=true;rw[Jq hn rfl];rfl
end
section
variable {d:Nat}
def OC:aq:=(sp (g7 dCO.body 13)).e
def xq:aq:=ew OC 0
def ir:aq:=ew OC 1
noncomputable def jw:List (Bool×Bool):=cL kyF 2 f5.reverse++cL kyF 2 f5
noncomputable def jd (l6:Int):List ae:=coY l6 Oz bo Jr
noncomputable def sy (l6:Int):List ae:=jd l6++[flL jw,ax (jw.map flS)]
theorem hO {l6:Int}{n:Nat}(hn:57<=n):((jd l6).all λo=>o.lo n)=true:=cp (ah [_] (.le (.n 57) .o<|.g 1 0<|.le (.n 51) .o) rfl hn) (Bn hn) (ee<|ah [_] (.le (.n 57) .o<|.g 1 0<|.le (.n 51) .o) rfl hn)<|vw<|ah [_] (.le (.n 57) .o<|.g 1 0<|.le (.n 55) .o) rfl hn
theorem Ir:jw.length<=32:=by have z0:=nn (n:=0) f5.reverse;have z1:=nn (n:=0) f5;rw[RT] at z0;rw[iq] at z0 z1;rw[jw,dJ];exact ah [_,_] (.le .o (.m 2<|.n 8)<|.le .i (.m 2<|.n 8)<|.g 1 0<|.le (.a .o .i)<|.n 32) rfl z0 z1
theorem OD {l6:Int}:a8 (d+7) cCO xq (jd l6) (.ab 58) (sy l6):=by
 have s0:=λ(st:List ae)(e:aq)(h:st[55]?=some (.list [.ab 53,.ab 54]))=>uI (d:=d+7) (e:=e) (i:=0) (j:=0) (v:=.ab 53) h (by decide) rfl rfl;have s1:=λ(st:List ae)(e:aq)(h:st[55]?=some (.list [.ab 53,.ab 54]))=>uI (d:=d+7) (e:=e) (i:=1) (j:=1) (v:=.ab 54) h (by decide) rfl rfl;have ad:=λ(st:List ae)(h:st[53]?=some (flL<|cL kyF 2 f5.reverse))(h2:st[54]?=some (flL<|cL kyF 2 f5))=>Wk (d:=d+7) (k:=53) (l:=54) h h2 (by rw[aV,aV];have:=Ir;rw[jw,dJ] at this;show _<=2^24;exact ah [_] (.le .o (.n 32)<|.g 1 0<|.le .o<|.n<|2^24) rfl this);rw[<-fU] at ad;have C:=oJ (b31 (d:=d+7) (c:=cCO) (cl:=[]) (T:=jd l6++[flL jw]) (st:=jd l6) (n:=58) (x:="flag") (a:=.ab 57) (P:=λst=>st[57]?=some (flL jw)) (xs:=jw) (λp=>.str<|flS p) flC (elt:=ew xq 0) (iter:=kZ xq) (fJ:=0) (px:=AT (uL xq).target) (pos:=AT xq) (scope:=fH xq) ⟨⟨by rfl',by rfl',by rfl',by rfl',by rfl'⟩,by rfl',
  dk (sc:=[.val<|.ab 53,.val<|.ab 54,.c7 (.ab 57) λst=>st++[flL jw]]) (by rfl) (am (ad _ rfl rfl)<|am (s1 _ _ rfl)<|am (s0 _ _ rfl) aX),⟨rI 57 _⟩,λ_=>rfl,rfl,(by show 57<=58;decide),cC (hO<|by decide)<|BS<|hZ _,by rw[aV];have:=Ir;exact ah [_] (.le .o (.n 32)<|.g 1 0<|.le .o<|.n<|2^20) rfl this⟩<|λp hp acc _=>⟨by obtain⟨a,b⟩:=p;cases a<;>exact dk (sc:=[.val<|.str<|flS _]) rfl (am pH<|am yn aX),rfl⟩)
 rwa[show jw.map (λp=>CV.str<|flS p)=(jw.map flS).map CV.str by rw[fV];rfl,eJ] at C
theorem Q6 {α:Type}{f:α->CV}{xs:List α}(h:xs.length=8):e7 (xs.map f) none none (some (-1))=xs.reverse.map f:=by
 obtain⟨a,b,c,e,u,v,w,x,rfl⟩:∃a b c e u v w x,xs=[a,b,c,e,u,v,w,x]:=by
  match xs,h with
  |[a,b,c,e,u,v,w,x],_=>exact⟨a,b,c,e,u,v,w,x,rfl⟩
 rfl'
theorem Jt {p:Bool×Bool}{v:Nat}{st:List ae}:jj d .Eq (flC p) (af v) st (.bool (kyF p==v)) st:=λA own s x y u S ra rb=>by
 obtain⟨a,b⟩:=p;obtain⟨t',rfl⟩:=rb;have e:((if b=true then (1:Int) else 0)==(v:Int))=(kyF (a,b)==v):=by
  cases b
  ·rw[aad,beq_iff_eq,beq_iff_eq];exact Int.ofNat_inj (m:=0)
  rw[aad,beq_iff_eq,beq_iff_eq];exact Int.ofNat_inj (m:=1)
 cases a
 ·obtain⟨t,rfl⟩:=ra;refine PyProof.Rows.eq_int ⟨own,.refl,S,?_⟩;rw[<-e];cases b<;>rfl
 obtain rfl:=ra;exact PySem.EqBoolInt.eq_bool_int ⟨own,.refl,S,by rw[<-e];rfl⟩
end
section
variable {d:Nat}
noncomputable def k3 (l6:Int):List ae:=sy l6++[flL f5.reverse]
noncomputable def wyK (r:Bool):List (Bool×Bool):=cond r f5 f5.reverse
noncomputable def wyO (r:Bool):CV:=cond r (.ab 56) (.ab 59)
abbrev OE:aY:=cI cCO (fH ir) 61 []
def g13 (n:Nat):oF:=(ep ir).gs.getD n default
theorem EM {l6:Int}:((k3 l6).all λo=>o.lo 60)=true:=cC (cC (hO<|by decide)<|by show((flL jw).lo 60&&((ax _).lo 60&&true))=true;rw[show (flL jw).lo 60=true from hZ _,bd];rfl)<|BS<|hZ _
theorem Bq (r:Bool)(f:Bool×Bool->Bool):((wyK r).filter f).length<=8:=by
 refine fC (abZ _ _)<|ll ?_;cases r
 ·exact (RT).trans iq
 exact iq
theorem OF {l6:Int}:a8 (d+7) cCO ir (sy l6) (.ab 60) (k3 l6++[ax (jw.map flS)]):=by
 have hV:∀r:Bool,∀v:Nat,∀acc,CV.cV 60 acc=true->acc.length+(((wyK r).filter λp=>kyF p==v).map λp=>CV.str<|flS p).length<=2^20->∃w',fj ["flag"] w'=([("flag",.any),("value",af v),("way",wyO r)]:List (Str×CV))∧jS (d+7) OE ir 60 2 (λst=>st[cond r 56 59]?=some (flL<|wyK r)) ((wyK r).map flC) (k3 l6++[.list acc,.frame [("value",af v),("flag",.any),("way",wyO r)]]) (k3 l6++[.list<|acc++((wyK r).filter λp=>kyF p==v).map λp=>.str<|flS p,.frame w']):=λr v acc ha hb=>by
  have L:=Bq r<|λp=>kyF p==v;exact mH (d:=d+7) (elt:=ew ir 0) (gens:=[g13 0,g13 1,g13 2]) (scope:=fH ir) (pos:=AT ir) (m:=60) (n:=2) (cc:=OE) (T:=k3 l6) (k:=60) (x:="flag") (px:=AT (g13 2).target) (iter:=(g13 2).iter) (ifs:=(g13 2).ifs) (fJ:=0) (fv:=[("value",af v),("way",wyO r)]) (xs:=wyK r) (φ:=flC) (ψ:=λp=>.str<|flS p) (f:=λp=>kyF p==v) (P:=λst=>st[cond r 56 59]?=some (flL<|wyK r)) (by rfl') (by rfl') rfl rfl (by rfl') (λg=>by cases r<;>rfl) (λp hp acc _=>by
   obtain⟨a,b⟩:=p;refine⟨ms ?_,λ_=>by cases a<;>exact dk (sc:=[.val<|.str<|flS _]) (by rfl')<|am pH<|am yn aX,rfl⟩;have e:((if b=true then (1:Int) else 0)==(v:Int))=(kyF (a,b)==v):=by
    cases b
    ·rw[aad,beq_iff_eq,beq_iff_eq];show (0:Int)=_↔(0:Nat)=v;lia
    rw[aad,beq_iff_eq,beq_iff_eq];show (1:Int)=_↔(1:Nat)=v;lia
   have E:=λst=>Jt (d:=d+7) (p:=(a,b)) (v:=v) (st:=st);rw[<-e] at E;rw[<-e];cases a
   ·cases b<;>exact nX (sc:=[]) (by rfl') aX
   exact nX (sc:=[.val<|.bool _]) (by rfl')<|am (E _) aX) (λu=>by rfl') (wyK r) acc [("value",af v),("flag",.any),("way",wyO r)] (λ_ h=>h) (by rfl') ha (by rwa[aV] at hb)
 have vl:∀r:Bool,([0,1].flatMap λv=>((wyK r).filter<|λp=>kyF p==v).map λp=>CV.str<|flS p).length<=16:=λr=>by rw[aab,aab,aaf,dM,dJ,aV,aV];have:=Bq r<|λp=>kyF p==0;have:=Bq r<|λp=>kyF p==1;exact ah [_,_] (.le .o (.n 8)<|.le .i (.n 8)<|.g 1 0<|.le (.a .o .i)<|.n 16) rfl (by assumption) this
 have fm:∀{β:Type} (f:Bool->List β),[false,true].flatMap f=f false++f true:=λf=>by show f false++(f true++[])=_;rw[dM]
 have cV:∀r v,CV.cV 60 (((wyK r).filter<|λp=>kyF p==v).map λp=>CV.str<|flS p)=true:=λr v=>An.mpr λz hz=>by obtain⟨x,_,rfl⟩:=cu.mp hz;rfl
 have los2:∀r,CV.cV 60 ([0,1].flatMap λv=>((wyK r).filter<|λp=>kyF p==v).map λp=>CV.str<|flS p)=true:=λr=>An.mpr λz hz=>by obtain⟨v,_,hz⟩:=aae.mp hz;exact An.mp (cV r v) z hz
 have hW:∀r:Bool,∀acc,CV.cV 60 acc=true->acc.length+([0,1].flatMap λv=>((wyK r).filter λp=>kyF p==v).map λp=>CV.str<|flS p).length<=2^20->∃w',fj ["value","flag"] w'=([("value",.any),("flag",.any),("way",wyO r)]:List (Str×CV))∧jS (d+7) OE ir 60 1 (λ_=>True) [af 0,af 1] (k3 l6++[.list acc,.frame [("way",wyO r),("value",.any),("flag",.any)]]) (k3 l6++[.list<|acc++[0,1].flatMap λv=>((wyK r).filter λp=>kyF p==v).map λp=>.str<|flS p,.frame w']):=λr acc ha hb=>by have L:=vl r;exact qe (d:=d+7) (P:=λ_=>True) (e:=ir) (g':=g13 2) (m:=60) (n:=1) (cc:=OE) (T:=k3 l6) (k:=60) (x:="value") (px:=AT (g13 1).target) (iter:=(g13 1).iter) (fJ:=0) (fv:=[("way",wyO r)]) (xs:=[0,1]) (φ:=af) (out:=λv=>((wyK r).filter λp=>kyF p==v).map λp=>.str<|flS p) ["flag"] (by rfl') (by rfl') rfl rfl (by rfl') (λg=>trivial) (λv=>by rfl') (λv _=>cV r v) (λv hv acc ha2 hb2=>by obtain⟨w',h1,h2⟩:=hV r v acc ha2 hb2;exact⟨wyO r,_,_,w',by cases r<;>exact dk (sc:=[]) (by rfl') aX,by cases r<;>exact⟨rI _ _⟩,by cases r<;>rfl,h1,h2⟩) [0,1] acc [("way",wyO r),("value",.any),("flag",.any)] (λ_ h=>h) (by rfl') ha hb
 obtain⟨w',_,run⟩:=qe (d:=d+7) (P:=λ_=>True) (e:=ir) (g':=g13 1) (m:=60) (n:=0) (cc:=OE) (T:=k3 l6) (k:=60) (x:="way") (px:=AT (g13 0).target) (iter:=(g13 0).iter) (fJ:=0) (fv:=[]) (xs:=[false,true]) (φ:=wyO) (out:=λr=>[0,1].flatMap λv=>((wyK r).filter λp=>kyF p==v).map λp=>.str<|flS p) ["value","flag"] (by rfl') (by rfl') rfl rfl (by rfl') (λg=>trivial) (λv=>by rfl') (λr _=>los2 r) (λr hr acc ha2 hb2=>by
  obtain⟨w',h1,h2⟩:=hW r acc ha2 hb2;exact⟨.cB [af 0,af 1],_,_,w',dk (sc:=[]) (by rfl')<|am wM aX,⟨Vk _⟩,trivial,h1,h2⟩) [false,true] [] [] (λ_ h=>h) (by rfl') rfl (by
  have:=vl false;have:=vl true;rw[fm,dJ];show 0+_<=_;exact ah [_,_] (.le .o (.n 16)<|.le .i (.n 16)<|.g 1 0<|.le (.a .k<|.a .o .i)<|.n<|2^20) rfl (by assumption) this)
 have sl:∀e,fF (d+7) e (.ab 56) (.sl [.none,.none,.int<|-1]) (sy l6) (.ab 59) (sy l6++[flL f5.reverse]):=λe=>by have:=Dd (d:=d+7) (e:=e) (st:=sy l6) (a:=.none) (b:=.none) (z:=.int<|-1) (lo:=none) (hi:=none) (step:=some<|-1) (k:=56) (xs:=f5.map flC) rfl rfl rfl rfl (by decide) (by rw[aV,iq];decide);rw[Q6 iq] at this;exact this
 have C:=oJ<|gw (d:=d+7) (c:=cCO) (elt:=ew ir 0) (g:=g13 0) (gs:=[g13 1,g13 2]) (scope:=fH ir) (pos:=AT ir) (st:=sy l6) (T:=k3 l6) (T':=k3 l6) (n:=60) (items:=[false,true].map wyO) (out:=[]++[false,true].flatMap λr=>[0,1].flatMap λv=>((wyK r).filter λp=>kyF p==v).map λp=>.str<|flS p) (P:=λ_=>True) (a:=.cB [.ab 59,.ab 56]) (cl:=[]) ⟨by rfl',by rfl',by rfl',by rfl'⟩ (dk (sc:=[.c7 (.ab 59) λst=>st++[flL f5.reverse]]) (by rfl')<|am wM<|am (sl _) aX) ⟨Vk _⟩ trivial rfl rfl (by show 59<=60;decide) EM (eR rfl (An.mpr λz hz=>by obtain⟨r,_,hz⟩:=aae.mp hz;exact CV.mD (ke _) _<|An.mp (los2 r) z hz)) ⟨_,⟨w',rfl⟩,by with_unfolding_all exact run⟩;have e:[]++[false,true].flatMap (λr=>[0,1].flatMap λv=>((wyK r).filter λp=>kyF p==v).map λp=>CV.str<|flS p)=(jw.map flS).map CV.str:=by
  rw[xL,jw,fV,fU];have:∀r,([0,1].flatMap λv=>((wyK r).filter λp=>kyF p==v).map λp=>CV.str<|flS p)=(cL kyF 2<|wyK r).map (CV.str∘flS):=λr=>by rw[cL,aak];rfl
  rw[fm,this,this];rfl
 rw[e] at C;exact C
theorem OG {l6:Int}:aI (d+7) cCO ((dCO.body.drop 13).take 1) (jd l6) .next (jd l6):=by
 have c1:=λst(h1:st[58]?=some (ax<|jw.map flS))(h2:st[60]?=some (ax<|jw.map flS))=>kS (d:=d+6) h1 h2 (cA _).1 (cA _).2;refine aI.drop (g:=[flL jw,ax<|jw.map flS,flL f5.reverse,ax<|jw.map flS]) ?_ (aG _) (hO<|aG 57) rfl;exact aW (sc:=[.c7 (.ab 58) λst=>st++[flL jw,ax<|jw.map flS],.c7 (.ab 60) λst=>st++[flL f5.reverse,ax<|jw.map flS],.val<|.bool false]) (by rfl)
  (am (c1 _ rfl rfl)<|am OF<|am OD aX)
end
section
variable {d:Nat}
noncomputable def dP:List Nat:=hM.map (·.1)
noncomputable def pC:List Str:=hM.map (·.2)
theorem jx:hM.length=4:=by
 have:∀js au,(L5 au js).length=au.length+js.length:=λjs=>by induction js with|nil=>intro au;rfl|cons j js ih=>intro au;show (L5 (dv _ _ au) js).length=_;rw[ih,u8,dO];exact ah [_,_,_] (.g 1 1<|.eq (.a (.a .o .i) .u)<|.a .o<|.a .u .i) rfl
 rw[hM,this,ce];rfl
noncomputable def OI:List (Str×CV):=Oz++[(("hours":Str),CV.ab 57)]
noncomputable def iQ:CoK:={bo with order:=some (.ab 58)}
noncomputable def EN:List ae:=Jr++[a0 dP,ax pC]
def lP:aq:=iL (g7 dCO.body 14)
theorem OJ {l6:Int}:aI (d+7) cCO ((dCO.body.drop 14).take 1) (jd l6) .next (coY l6 OI iQ EN):=by
 have A:=oJ (b31 (d:=d+7) (c:=cCO) (cl:=[]) (T:=jd l6) (st:=jd l6) (n:=57) (x:="one") (a:=.ab 50) (P:=λst=>st[50]?=some (rwL hM)) (xs:=hM) (λp=>af p.1) rwV (elt:=ew (ew lP 0) 0) (iter:=kZ<|ew lP 0) (fJ:=0) (px:=AT (uL<|ew lP 0).target) (pos:=AT<|ew lP 0) (scope:=fH<|ew lP 0) ⟨⟨by rfl',by rfl',by rfl',by rfl',by rfl'⟩,by rfl',
  dk (sc:=[]) (by rfl') aX,⟨rI 50 _⟩,λ_=>rfl,rfl,aG _,hO<|aG _,by rw[aV,jx];decide⟩<|λp hp acc _=>⟨dk (sc:=[.val<|af p.1]) (by rfl')<|am (afj (j:=0) (by decide) rfl rfl) aX,rfl⟩)
 have B:=oJ (b31 (d:=d+7) (c:=cCO) (cl:=[]) (T:=jd l6++[a0 dP]) (st:=jd l6++[a0 dP]) (n:=58) (x:="one") (a:=.ab 50) (P:=λst=>st[50]?=some (rwL hM)) (xs:=hM) (λp=>.str p.2) rwV (elt:=ew (ew lP 1) 0) (iter:=kZ<|ew lP 1) (fJ:=0) (px:=AT (uL<|ew lP 1).target) (pos:=AT<|ew lP 1) (scope:=fH<|ew lP 1) ⟨⟨by rfl',by rfl',by rfl',by rfl',by rfl'⟩,by rfl',
  dk (sc:=[]) (by rfl') aX,⟨rI 50 _⟩,λ_=>rfl,rfl,aG _,cC (hO<|by decide)<|BS<|k8 _,by rw[aV,jx];decide⟩<|λp hp acc _=>⟨dk (sc:=[.val<|.str p.2]) (by rfl')<|am (afj (j:=1) (by decide) rfl rfl) aX,rfl⟩)
 rw[show hM.map (λp=>af p.1)=(dP.map<|λm:Nat=>(m:Int)).map CV.int by rw[dP,fV,fV];rfl] at A;rw[show hM.map (λp=>CV.str p.2)=pC.map CV.str by rw[pC,fV];rfl] at B;exact aW (sc:=[.c7 (.ab 57) λst=>st++[a0 dP],.c7 (.ab 58) λst=>st++[ax pC]]) (by rfl')<|am wM<|am B<|am A aX
theorem Bs {n:Nat}(hn:58<=n):(OI.all λp=>p.2.lo n)=true:=by rw[OI,RO,Bn<|by lia];show(true&&((CV.ab 57).lo n&&true))=true;rw[show (CV.ab 57).lo n=true from decide_eq_true<|ah [_] (.le (.n 58) .o<|.g 1 0<|.lt (.n 57) .o) rfl hn];rfl
theorem k7 {n:Nat}(hn:59<=n):iQ.lo n=true:=Bl hn (by rfl)
theorem vD {n:Nat}(hn:55<=n):(EN.all λo=>o.lo n)=true:=cC (vw hn) (by show((a0 _).lo n&&((ax _).lo n&&true))=true;rw[k8,bd];rfl)
end
section
variable {d:Nat}
noncomputable def ld (l6:Int):List ae:=coY l6 OI iQ EN
theorem EO {l6:Int}{n:Nat}(hn:59<=n):((ld l6).all λo=>o.lo n)=true:=cp (ah [_] (.le (.n 59) .o<|.g 1 0<|.le (.n 51) .o) rfl hn) (Bs<|ah [_] (.le (.n 59) .o<|.g 1 0<|.le (.n 58) .o) rfl hn) (k7 hn)<|vD<|ah [_] (.le (.n 59) .o<|.g 1 0<|.le (.n 55) .o) rfl hn
def nq:aq:=iL (g7 dCO.body 15)
noncomputable def ltK (i:Nat):Str:=(cQ "aBcDeF").getD i ""
noncomputable def cmK (i:Nat):List Str:=Ef hsK (ltK i)
noncomputable def cmG:List (List CV):=(aK 6).map λi=>(cmK i).map CV.str
noncomputable def cmF (i:Nat):List ae:=[.frame (match i with|0=>[]|i+1=>[("letter",.str (ltK i))])]
theorem OP {i:Nat}(h:i<6):bY (ltK i):=by
 have:∀i<6,qC.contains ((cQ "aBcDeF").getD i "")=true:=by decide +kernel
 exact this i h
theorem OQ:∀p∈hsK,bY p.1:=λp hp=>by obtain⟨j,_,rfl⟩:=cu.mp hp;exact(Il j).2
theorem Ju:hsK.length=4:=by rw[hsK,aV,ce]
theorem EQ:(cQ "aBcDeF").map CV.str=(("aBcDeF":Str).cps.toList.map jR):=by rw[cQ,fV];rfl
theorem OR {i:Nat}{x:CV}(h:((cQ "aBcDeF").map CV.str)[i]?=some x):x=.str (ltK i)∧i<6:=by
 rw[dN] at h;have hi:i<6:=by
  by_cases q:i<6
  ·exact q
  rw[B5<|fC (by decide)<|Q0 q] at h;nomatch h
 refine⟨?_,hi⟩;rw[ltK,ed];cases g:(cQ "aBcDeF")[i]? with|none=>rw[g] at h;nomatch h|some y=>rw[g] at h;exact (dE h).symm
theorem Jw {l6:Int}{r:List CV}{x:Str}{g:List ae}{m:Nat}(hx:bY x)(hm:(ld l6++.list r::.frame [("letter",.str x)]::g).length=m):a8 (d+7) (cI cCO (fH nq) 60 [("table",9)]) (ew nq 0) (ld l6++.list r::.frame [("letter",.str x)]::g) (.ab m) (ld l6++.list r::.frame [("letter",.str x)]::g++[ax (Ef hsK x)]):=by have HA:om (ld l6++.list r::.frame [("letter",.str x)]::g) 47 48 49 hsK:=⟨rfl,rfl,rfl⟩;have A:=w9 (d:=d+3) HA OQ hx (by rw[Ju];decide);rw[hm] at A;exact dk (sc:=[.bg (.aH 220) [.ab 48],.c7 (.ab m) λst=>st++[ax<|Ef hsK x]]) (by rfl')<|am A<|am (cK zb)<|am (si HA) aX
noncomputable def OS:List (Str×CV):=OI++[(("comers":Str),CV.ab 59)]
noncomputable def ER:List ae:=EN++.list (dX 60 6)::cmG.map .list
theorem OW {l6:Int}:aI (d+7) cCO ((dCO.body.drop 15).take 1) (ld l6) .next (coY l6 OS iQ ER):=by
 have C:=KB (ec (d:=d+7) (c:=cCO) (st:=ld l6) (T:=ld l6) (n:=59) (m:=0) (cl:=[("table",9)]) (P:=λ_=>True) (a:=.str "aBcDeF") (items:=(cQ "aBcDeF").map CV.str) (F:=cmF) (gs:=cmG) (elt:=ew nq 0) (iter:=kZ nq) (ifs:=[]) (fJ:=0) (tg:=(uL nq).target) (pos:=AT nq) (scope:=fH nq) ⟨by rfl',by rfl',by rfl',by rfl'⟩ rfl
  (dk (sc:=[]) (by rfl') aX) (EQ▸⟨Gw _⟩) (λ_=>trivial) rfl (aG _) (EO<|aG _) (λi=>rfl) (by rfl') (λi=>⟨_,rfl⟩) (by rfl) (λg hg=>by obtain⟨x,_,rfl⟩:=cu.mp hg;exact cJ _) (by decide)
  (λi x hx=>by obtain⟨rfl,hi⟩:=OR hx;have:=y4 (d:=d+7) (c:=cI cCO (fH nq) 60 [("table",9)]) (x:="letter") (pos:=AT (uL nq).target) (T:=ld l6) (g:=(cmG.take i).map .list) (n:=59) (o:=.list<|dX 61 i) (fv:=match i with|0=>[]|i+1=>[("letter",.str<|ltK i)]) (v:=.str<|ltK i) rfl rfl (by rfl);cases i<;>exact this)
  (λi x hx=>by
   obtain⟨rfl,hi⟩:=OR hx;have E:=Jw (d:=d) (l6:=l6) (r:=dX 61 i) (x:=ltK i) (g:=(cmG.take i).map .list) (m:=59+2+0+i) (OP hi) (by rw[dJ,dO,dO,aV,nG,show cmG.length=6 from by rw[cmG,aV,fb],zH<|Ff hi];show 59+_=_;exact ah [_,_] (.g 1 1<|.eq (.a .o<|.a (.a .i .j) .j)<|.a (.a (.a .o<|.n 2) .k) .i) rfl);rw[show cmG.take (i+1)=cmG.take i++[(cmK i).map CV.str] by rw[aa2,cmG,dN,iS hi];rfl,fU];have e:∀q:List ae,ld l6++ae.list (dX 61 i)::ae.frame [("letter",.str<|ltK i)]::(cmG.take i).map .list++q=ld l6++ae.list (dX 61 i)::ae.frame [("letter",.str<|ltK i)]::((cmG.take i).map .list++q):=λq=>by rw[eJ];rfl
   rwa[e] at E))
 rw[show 59+1=60 from rfl,show ((cQ "aBcDeF").map CV.str).length=6 by rfl'] at C;exact aW (sc:=[.c7 (.ab 59) λst=>st++.list (dX 60 6)::cmG.map .list]) (by rfl)<|am C aX
end
section
variable {d:Nat}
noncomputable def lQ (l6:Int):List ae:=coY l6 OS iQ ER
theorem Bt {n:Nat}(hn:60<=n):(OS.all λp=>p.2.lo n)=true:=by rw[OS,RO,Bs<|by lia];show(true&&((CV.ab 59).lo n&&true))=true;rw[show (CV.ab 59).lo n=true from decide_eq_true<|ah [_] (.le (.n 60) .o<|.g 1 0<|.lt (.n 59) .o) rfl hn];rfl
theorem OY {n:Nat}:((cmG.map ae.list).all λo=>o.lo n)=true:=dI.mpr λo ho=>by obtain⟨x,hx,rfl⟩:=cu.mp ho;obtain⟨i,_,rfl⟩:=cu.mp hx;exact cJ _
theorem ny {n:Nat}(hn:66<=n):(ER.all λo=>o.lo n)=true:=cC (vD<|ah [_] (.le (.n 66) .o<|.g 1 0<|.le (.n 55) .o) rfl hn) (by show(CV.cV n (dX 60 6)&&((cmG.map ae.list).all λo=>o.lo n))=true;rw[X7 (by omega),OY];rfl)
theorem ES {l6:Int}{n:Nat}(hn:66<=n):((lQ l6).all λo=>o.lo n)=true:=cp (ah [_] (.le (.n 66) .o<|.g 1 0<|.le (.n 51) .o) rfl hn) (Bt<|ah [_] (.le (.n 66) .o<|.g 1 0<|.le (.n 60) .o) rfl hn) (k7<|ah [_] (.le (.n 66) .o<|.g 1 0<|.le (.n 59) .o) rfl hn)<|ny hn
def mkV (p:Bool×Nat):CV:=.cB [.str (cond p.1 "(" ")"),af p.2]
noncomputable def mkO (h:Nat):List (Bool×Nat):=cond (hY.contains h) [(true,h)] []++cond (ic.contains h) [(false,h)] []
noncomputable def mkK:List (Bool×Nat):=(aK 6).flatMap mkO
noncomputable def mkL:ae:=.list (mkK.map mkV)
def jp:aq:=iL (g7 dCO.body 16)
abbrev L6:aY:=cI cCO (fH jp) 67 [("late",4),("early",3)]
def g16 (n:Nat):oF:=(ep jp).gs.getD n default
noncomputable def mkT (l6:Int)(acc:List CV)(h:Nat)(u v:CV):List ae:=lQ l6++[.list acc,.frame [("hour",af h),("sign",u),("open_hours",v)]]
theorem OZ {l6:Int}{h:Nat}{acc:List CV}{b:Bool}{u v:CV}{k:Nat}{xs:List Nat}{ys:List CV}{ag:List ae}(hk:(lQ l6)[k]?=some (a0 xs))(ha:acc.length<=2^21) (hA:dj (d+7) L6 (g16 1).target (.cB [.str (cond b "(" ")"),.ab k]) (mkT l6 acc h u v) (mkT l6 acc h (.str (cond b "(" ")")) (.ab k))) (hI:mr (d+7) L6 (g16 1).ifs (mkT l6 acc h (.str (cond b "(" ")")) (.ab k)) (xs.contains h) (mkT l6 acc h (.str (cond b "(" ")")) (.ab k))) (r:jS (d+7) L6 jp 66 1 (λ_=>True) ys (mkT l6 (acc++(cond (xs.contains h) [(b,h)] []).map mkV) h (.str (cond b "(" ")")) (.ab k)) ag):jS (d+7) L6 jp 66 1 (λ_=>True) (.cB [.str (cond b "(" ")"),.ab k]::ys) (mkT l6 acc h u v) ag:=by cases q:xs.contains h with|false=>rw[q] at hI r;refine .skip trivial (by rfl') hA hI ?_;rwa[show acc++(cond false [(b,h)] []).map mkV=acc from dM _] at r|true=>rw[q] at hI r;have E:a8 (d+7) L6 (ew jp 0) (mkT l6 acc h (.str<|cond b "(" ")")<|.ab k) (mkV (b,h)) (mkT l6 acc h (.str<|cond b "(" ")")<|.ab k):=dk (sc:=[]) (by rfl')<|am wM aX;have M:=GO (gens:=[g16 0,g16 1]) (sc:=fH jp) (pos:=AT jp) E (k:=66) (xs:=acc) rfl (q7 ha<|by decide);exact .wk trivial (by rfl') (by rfl') hA hI (by with_unfolding_all exact M) r
theorem Jx {l6:Int}:lx (d+7) cCO jp (lQ l6) (.ab 66) (lQ l6++[mkL]):=by
 have lo:∀v,CV.cV 66 ((mkO v).map mkV)=true:=λv=>An.mpr λz hz=>by obtain⟨x,_,rfl⟩:=cu.mp hz;rfl
 have len:∀v,((mkO v).map mkV).length<=2:=λv=>by rw[aV,mkO];cases hY.contains v<;>cases ic.contains v<;>simp
 obtain⟨w',_,run⟩:=qe (d:=d+7) (P:=λ_=>True) (e:=jp) (g':=g16 1) (m:=66) (n:=0) (cc:=L6) (T:=lQ l6) (k:=66) (x:="hour") (px:=AT (g16 0).target) (iter:=(g16 0).iter) (fJ:=0) (fv:=[]) (xs:=aK 6) (φ:=af) (out:=λv=>(mkO v).map mkV) ["sign","open_hours"] (by rfl') (by rfl') rfl rfl (by rfl') (λg=>trivial) (λv=>by rfl') (λr _=>lo r) (λh hr acc ha2 hb2=>by
  have I1:=λst q=>j9 (d:=d+6) (st:=st) (k:=19) (h:=h) (xs:=hY) q;have I2:=λst q=>j9 (d:=d+6) (st:=st) (k:=20) (h:=h) (xs:=ic) q;refine⟨.cB [.cB [.str "(",.ab 19],.cB [.str ")",.ab 20]],_,_,[("hour",af h),("sign",.str ")"),("open_hours",.ab 20)],dk (sc:=[]) (by rfl')<|am wM<|am wM<|am wM aX,⟨Vk _⟩,trivial,by rfl',?_⟩;refine OZ (b:=true) (k:=19) (xs:=hY) (u:=.any) (v:=.any) rfl (ah [_,_] (.le (.a .o .i) (.n<|2^20)<|.g 1 0<|.le .o<|.n<|2^21) rfl hb2) (i4 (sc:=[]) (by rfl') aX) ?_ ?_
  ·exact ms (by cases q:hY.contains h<;>exact nX (sc:=[.val<|.bool _]) (by rfl')<|am (q▸I1 _ rfl) aX)
  ·refine OZ (b:=false) (k:=20) (xs:=ic) rfl (by rw[dJ,aV];cases hY.contains h<;>(simp;lia)) (i4 (sc:=[]) (by rfl') aX) ?_ ?_
   ·exact ms (by cases q:ic.contains h<;>exact nX (sc:=[.val<|.bool _]) (by rfl')<|am (q▸I2 _ rfl) aX)
   rw[eJ,<-fU];exact .nil trivial) (aK 6) [] [] (λ_ h=>h) (by rfl') rfl (by
  have key:∀k,((aK k).flatMap λv=>(mkO v).map mkV).length<=2*k:=λk=>by induction k with|zero=>exact aG _|succ k ih=>rw[abK,aag,dJ,aab,aaf,dM];have:=len k;exact ah [_,_,_] (.le .o (.m 2 .i)<|.le .u (.n 2)<|.g 1 0<|.le (.a .o .u)<|.m 2<|.a .i .j) rfl ih this
  have:=key 6;show 0+_<=_;exact ah [_] (.le .o (.m 2<|.n 6)<|.g 1 0<|.le (.a .k .o)<|.n<|2^20) rfl this)
 have C:=KB<|gw (d:=d+7) (c:=cCO) (elt:=ew jp 0) (g:=g16 0) (gs:=[g16 1]) (scope:=fH jp) (pos:=AT jp) (st:=lQ l6) (T:=lQ l6) (T':=lQ l6) (n:=66) (items:=(aK 6).map af) (out:=[]++(aK 6).flatMap λv=>(mkO v).map mkV) (P:=λ_=>True) (a:=.fW 0 6 1) (cl:=[("late",4),("early",3)]) ⟨by rfl',by rfl',by rfl',by rfl'⟩ (dk (sc:=[.val<|.fW 0 6 1]) (by rfl')<|am afo<|am yn aX) (mE 6<|by decide) trivial rfl rfl (aG _) (ES<|aG _) (eR rfl (An.mpr λz hz=>by obtain⟨r,_,hz⟩:=aae.mp hz;exact CV.mD (ke _) _<|An.mp (lo r) z hz)) ⟨_,⟨w',rfl⟩,by with_unfolding_all exact run⟩;rw[xL,<-aak] at C;exact C
noncomputable def ET:List (Str×CV):=OS++[(("marks":Str),CV.ab 66)]
noncomputable def Jy:List ae:=ER++[mkL]
theorem O0 {l6:Int}:aI (d+7) cCO ((dCO.body.drop 16).take 1) (lQ l6) .next (coY l6 ET iQ Jy):=
 aW (sc:=[.c7 (.ab 66) λst=>st++[mkL]]) (by rfl') (am Jx aX)
end
section
variable {d:Nat}
noncomputable def xr (l6:Int):List ae:=coY l6 ET iQ Jy
noncomputable def bsK:List Bool:=mkK.map (·.1)
noncomputable def ckK:List Nat:=mkK.map (·.2)
noncomputable def sgC (b:Bool):Str:=cond b "(" ")"
theorem O1 {n:Nat}:mkL.lo n=true:=An.mpr λz hz=>by obtain⟨x,_,rfl⟩:=cu.mp hz;rfl
theorem sz {n:Nat}(hn:67<=n):(ET.all λp=>p.2.lo n)=true:=by rw[ET,RO,Bt<|by lia];show(true&&((CV.ab 66).lo n&&true))=true;rw[show (CV.ab 66).lo n=true from decide_eq_true<|ah [_] (.le (.n 67) .o<|.g 1 0<|.lt (.n 66) .o) rfl hn];rfl
theorem vE {l6:Int}{n:Nat}(hn:67<=n):((xr l6).all λo=>o.lo n)=true:=cp (ah [_] (.le (.n 67) .o<|.g 1 0<|.le (.n 51) .o) rfl hn) (sz hn) (k7<|ah [_] (.le (.n 67) .o<|.g 1 0<|.le (.n 59) .o) rfl hn)<|cC (ny<|ah [_] (.le (.n 67) .o<|.g 1 0<|.le (.n 66) .o) rfl hn)<|BS O1
theorem sA:mkK.length<=12:=by
 have key:∀k,((aK k).flatMap mkO).length<=2*k:=λk=>by
  induction k with
  |zero=>exact aG _|succ k ih=>
   rw[abK,aag,dJ,aab,aaf,dM];have:(mkO k).length<=2:=by rw[mkO];cases hY.contains k<;>cases ic.contains k<;>simp
   exact ah [_,_,_] (.le .o (.m 2 .i)<|.le .u (.n 2)<|.g 1 0<|.le (.a .o .u)<|.m 2<|.a .i .j) rfl ih this
 exact key 6
theorem cH:bsK.length<=12:=by rw[bsK,aV];exact sA
theorem O2:ckK.length=bsK.length:=by rw[ckK,bsK,aV,aV]
theorem Bu (bs:List Bool):gY "" (bs.map sgC)=bh bs:=by
 have e:(gY ""<|bs.map sgC).cps.toList=(bh bs).cps.toList:=by rw[Ix];induction bs with|nil=>rfl|cons b bs ih=>rw[eC,eC,RW,ih];cases b<;>rfl
 exact congrArg PySem.Str.mk<|Array.toList_inj.mp e
noncomputable def Bv:CoK:={iQ with signs:=some (.str (bh bsK)),clock:=some (.ab 68)}
noncomputable def JE:List ae:=Jy++[ax (bsK.map sgC),a0 ckK]
def yO:aq:=iL (g7 dCO.body 17)
def Bw:aq:=ew (ew yO 0) 0
theorem O3 {l6:Int}:aI (d+7) cCO ((dCO.body.drop 17).take 1) (xr l6) .next (coY l6 ET Bv JE):=by
 have A:=oJ (b31 (d:=d+7) (c:=cCO) (cl:=[]) (T:=xr l6) (st:=xr l6) (n:=67) (x:="one") (a:=.ab 66) (P:=λst=>st[66]?=some mkL) (xs:=mkK) (λp=>.str<|sgC p.1) mkV (elt:=ew Bw 0) (iter:=kZ Bw) (fJ:=0) (px:=AT (uL Bw).target) (pos:=AT Bw) (scope:=fH Bw) ⟨⟨by rfl',by rfl',by rfl',by rfl',by rfl'⟩,by rfl',
  dk (sc:=[]) (by rfl') aX,⟨rI 66 _⟩,λ_=>rfl,rfl,aG _,vE<|aG _,by rw[aV];have:=sA;lia⟩<|λp hp acc _=>⟨dk (sc:=[.val<|.str<|sgC p.1]) (by rfl)<|am (afj (j:=0) (by decide) rfl rfl) aX,rfl⟩)
 have B:=oJ (b31 (d:=d+7) (c:=cCO) (cl:=[]) (T:=xr l6++[ax<|bsK.map sgC]) (st:=xr l6++[ax<|bsK.map sgC]) (n:=68) (x:="one") (a:=.ab 66) (P:=λst=>st[66]?=some mkL) (xs:=mkK) (λp=>af p.2) mkV (elt:=ew (ew yO 1) 0) (iter:=kZ<|ew yO 1) (fJ:=0) (px:=AT (uL<|ew yO 1).target) (pos:=AT<|ew yO 1) (scope:=fH<|ew yO 1) ⟨⟨by rfl',by rfl',by rfl',by rfl',by rfl'⟩,by rfl',
  dk (sc:=[]) (by rfl) aX,⟨rI 66 _⟩,λ_=>rfl,rfl,aG _,cC (vE<|by decide)<|BS<|bd _ _,by rw[aV];have:=sA;lia⟩<|λp hp acc _=>⟨dk (sc:=[.val<|af p.2]) (by rfl)<|am (afj (j:=1) (by decide) rfl rfl) aX,rfl⟩)
 rw[show mkK.map (λp=>CV.str<|sgC p.1)=(bsK.map sgC).map CV.str by rw[bsK,fV,fV];rfl] at A;rw[show mkK.map (λp=>af p.2)=(ckK.map<|λm:Nat=>(m:Int)).map CV.int by rw[ckK,fV,fV];rfl] at B;have hJ:zU "" (bsK.map sgC)=true:=Hz (B:=1) (λx hx=>by obtain⟨b,_,rfl⟩:=cu.mp hx;cases b<;>decide) (by rw[aV];have:=cH;show _<=2^24;lia);have cj:=λ(st:List ae)(h:st[67]?=some (ax<|bsK.map sgC))=>AR (d:=d+7) h hJ;rw[Bu] at cj;exact aW (sc:=[.bg (.bi "str.join") [.str ""],.c7 (.ab 67) λst=>st++[ax<|bsK.map sgC],.val<|.str<|bh bsK,.c7 (.ab 68) λst=>st++[a0 ckK]]) (by rfl)<|am wM<|am B<|am (cj _ rfl)<|am gP<|am A<|am yx aX
def pcK:Str:=gW (iP.getD (aN 1/192%6) "")
noncomputable def hU:CoK:={Bv with JA:=some (.str pcK)}
noncomputable def EU:List ae:=JE++[ax iP]
theorem O4 {l6:Int}:aI (d+7) cCO ((dCO.body.drop 18).take 1) (coY l6 ET Bv JE) .next (coY l6 ET hU EU):=by
 have e1:=DW (c:=192) (e:=6) (s:=aN 1) (bi:=192) (ci:=6) rfl rfl;have q6:aN 1/192%6<6:=kg _ (by decide);have sb:∀st (e:aq),st[69]?=some (ax iP)->fF (d+7) e (.ab 69) (.int<|((aN 1:Int).fdiv 192).fmod 6) st (.str pcK) st:=λst e h=>by rw[show pcK=iP.getD (aN 1/192%6) "" from gp];exact e8 (ns:=iP) (j:=aN 1/192%6) h e1 (by rw[ed,bA<|show _<iP.length from q6];rfl) (by decide)
 exact aW (sc:=[.val<|af<|aN 1,.val<|.str pcK]) (by rfl')<|am (sb _ _ rfl)<|am (show(6:Int)≠0 by decide)<|am (r3 (by decide)<|by decide)<|am (bQ (by decide) rfl)<|am (by decide:6<=cX) aX
end
section
variable {d:Nat}
noncomputable def yW (l6:Int):List ae:=coY l6 ET hU EU
def phK:Nat:=gW (aN 2/192%3)
noncomputable def unK (k:Nat):Str:=cond (k%3==phK) pcK ""++sgC (bsK.getD k false)++"\\"++fN bc (k%4)
noncomputable def unL:List Str:=(aK bsK.length).map unK
theorem Bx {n:Nat}(hn:69<=n):hU.lo n=true:=Bl hn (by rfl)
theorem vF {n:Nat}(hn:66<=n):(EU.all λo=>o.lo n)=true:=cC (cC (cC (ny hn)<|BS O1)<|by show((ax _).lo n&&((a0 _).lo n&&true))=true;rw[k8,bd];rfl)<|BS<|bd _ _
theorem Fv {l6:Int}{n:Nat}(hn:70<=n):((yW l6).all λo=>o.lo n)=true:=cp (ah [_] (.le (.n 70) .o<|.g 1 0<|.le (.n 51) .o) rfl hn) (sz<|ah [_] (.le (.n 70) .o<|.g 1 0<|.le (.n 67) .o) rfl hn) (Bx<|ah [_] (.le (.n 70) .o<|.g 1 0<|.le (.n 69) .o) rfl hn)<|vF<|ah [_] (.le (.n 70) .o<|.g 1 0<|.le (.n 66) .o) rfl hn
theorem Iu:pcK.length<=5:=by
 rw[pcK,gp];have:∀j<6,(iP.getD j "").length<=5:=by decide +kernel
 exact this _ (kg _<|by decide)
def ti:aq:=iL (g7 dCO.body 19)
abbrev S4:aY:=cI cCO (fH ti) 71 [("sums",2),("signs",11),("piece",13),("names",5)]
theorem Bz (b:Bool):(sgC b).length=1:=by cases b<;>rfl
theorem JJ {l6:Int}{k:Nat}{acc:List CV}(hk:k<bsK.length):a8 (d+7) S4 (ew ti 0) (yW l6++[ae.list acc,ae.frame [("k",af k)]]) (.str (unK k)) (yW l6++[ae.list acc,ae.frame [("k",af k)]]):=by
 have e3:=DW (c:=192) (e:=3) (s:=aN 2) (bi:=192) (ci:=3) rfl rfl;rw[show aN 2/192%3=phK from gp.symm] at e3;have m3:=Pb (c:=3) (s:=k) (ci:=3) rfl;have m4:=Pb (c:=4) (s:=k) (ci:=4) rfl;have q:(((k:Int).fmod 3)==(((aN 2:Int).fdiv 192).fmod 3))=(k%3==phK):=by rw[e3,m3,aad,beq_iff_eq,beq_iff_eq];lia
 have hb:bsK[k]?=some (bsK.getD k false):=by rw[ed,bA hk];rfl
 have sg:∀st (e:aq),fF (d+7) e (.str<|bh bsK) (af k) st (.str<|sgC<|bsK.getD k false) st:=λst e=>wS (by rw[gT bsK hb];cases bsK.getD k false<;>rfl) (by have:=cH;exact ah [_,_] (.lt .o .i<|.le .i (.n 12)<|.g 1 0<|.lt .o<|.n<|2^40) rfl hk this);have nm:∀st (e:aq),st[23]?=some (ax nmL)->fF (d+7) e (.ab 23) (.int<|(k:Int).fmod 4) st (.str<|fN bc<|k%4) st:=λst e h=>e8 (ns:=nmL) (j:=k%4) h m4 (by rw[nmL,dN,iS<|kg _<|by decide];rfl) (by decide);have l1:=Iu;have l2:=Bz<|bsK.getD k false;have l3:=vc bc<|k%4;have l4:("\\":Str).length=1:=rfl;have l5:("":Str).length=0:=rfl;unfold unK;generalize sgC (bsK.getD k false)=x at *;generalize fN bc (k%4)=y at *;cases hq:(k%3==phK) with|false=>rw[hq] at q;exact dk (sc:=[.val<|af<|aN 2,.no,.val<|.str x,.val<|.str y]) (by rfl) (am (by simp [jF];show _<=2^24;exact ah [_,_,_,_] (.eq .o .k<|.eq .i .j<|.eq .u .j<|.eq .w .j<|.g 1 0<|.le (.a (.a (.a .o .i) .u) .w)<|.n<|2^24) rfl l5 l2 l4 l3)<|am (nm _ _ rfl)<|am (show(4:Int)≠0 by decide)<|am (by simp [jF];show _<=2^24;exact ah [_,_,_] (.eq .o .k<|.eq .i .j<|.eq .u .j<|.g 1 0<|.le (.a (.a .o .i) .u)<|.n<|2^24) rfl l5 l2 l4)<|am (by simp [jF];show _<=2^24;exact ah [_,_] (.eq .o .k<|.eq .i .j<|.g 1 0<|.le (.a .o .i)<|.n<|2^24) rfl l5 l2)<|am (sg _ _)<|am q<|am (show(3:Int)≠0 by decide)<|am (r3 (by decide)<|by decide)<|am (bQ (by decide) rfl)<|am (show(3:Int)≠0 by decide) aX)|true=>rw[hq] at q;exact dk (sc:=[.val<|af<|aN 2,.yes,.val<|.str x,.val<|.str y]) (by rfl)<|am (by simp [jF];show _<=2^24;exact ah [_,_,_,_] (.eq .o .j<|.eq .i .j<|.eq .u .j<|.le .w (.n 5)<|.g 1 0<|.le (.a (.a (.a .w .o) .i) .u)<|.n<|2^24) rfl l2 l4 l3 l1)<|am (nm _ _ rfl)<|am (show(4:Int)≠0 by decide)<|am (by simp [jF];show _<=2^24;exact ah [_,_,_] (.eq .o .j<|.eq .i .j<|.le .u (.n 5)<|.g 1 0<|.le (.a (.a .u .o) .i)<|.n<|2^24) rfl l2 l4 l1)<|am (by simp [jF];show _<=2^24;exact ah [_,_] (.eq .o .j<|.le .i (.n 5)<|.g 1 0<|.le (.a .i .o)<|.n<|2^24) rfl l2 l1)<|am (sg _ _)<|am q<|am (show(3:Int)≠0 by decide)<|am (r3 (by decide)<|by decide)<|am (bQ (by decide) rfl)<|am (show(3:Int)≠0 by decide) aX
noncomputable def JK:List (Str×CV):=ET++[(("units":Str),CV.ab 70)]
noncomputable def y1:List ae:=EU++[ax unL]
theorem O5 {l6:Int}:aI (d+7) cCO ((dCO.body.drop 19).take 1) (yW l6) .next (coY l6 JK hU y1):=by
 have hl:=cH;have ln:∀st:List ae,bk (d+7) (.bi "len") [.str<|bh bsK] [] st (.int bsK.length) st:=λst=>by have:=afn (d:=d+7) (st:=st) (by rw[np];exact ah [_] (.le .o (.n 12)<|.g 1 0<|.it (.c .o)<|.n<|2^63) rfl hl);rwa[np] at this
 have C:=KB (b31 (T:=yW l6) (st:=yW l6) (n:=70) (x:="k") (a:=.fW 0 bsK.length 1) (P:=λ_=>True) (xs:=aK bsK.length) (λk=>.str<|unK k) af (elt:=ew ti 0) (iter:=kZ ti) (fJ:=0) (px:=AT (uL ti).target) (pos:=AT ti) (scope:=fH ti) ⟨⟨by rfl',by rfl',by rfl',by rfl',by rfl'⟩,by rfl',
  dk (sc:=[.val<|.int bsK.length,.val<|.fW 0 bsK.length 1]) (by rfl') (am afo<|am yn<|am (ln _)<|am gP aX),mE _<|ah [_] (.le .o (.n 12)<|.g 1 0<|.le .o<|.n<|2^20) rfl hl,λ_=>trivial,rfl,aG _,Fv<|aG _,by rw[aV,fb];exact ah [_] (.le .o (.n 12)<|.g 1 0<|.le .o<|.n<|2^20) rfl hl⟩<|λk hk acc _=>⟨JJ<|gz.mp hk,rfl⟩)
 rw[show (aK bsK.length).map (λk=>CV.str<|unK k)=unL.map CV.str by rw[unL,fV];rfl] at C;exact aW (sc:=[.c7 (.ab 70) λst=>st++[ax unL]]) (by rfl')<|am C aX
end
section
variable {d:Nat}
open Classical in
theorem Fw {st:List ae}{k h:Nat}{xs:List Nat}(hk:st[k]?=some (a0 xs)):jj (d+1) .NotIn (af h) (.ab k) st (.bool (!xs.contains h)) st:=λA own s x y q S ra rb=>by
 obtain⟨b,vs,n,rfl,_,ho,hr,_⟩:=S.kY hk rb
 have e:(((xs.map λm:Nat=>(m:Int)).map CV.int).any λx=>gQ x (af h))=xs.contains h:=by
  rw[aau,aau,aaJ]
  refine congrArg (List.any xs) (funext λx=>?_)
  show((x:Int) == (h:Int))=(h == x)
  rw[aad,beq_iff_eq,beq_iff_eq];omega
 exact PySem.SeqAt.notIn_listAt _ ⟨_,ho,rfl,n,rfl⟩ (λy hy=>MF q cn.1 rfl (by rw[cn.2];exact dQ _) hr ra hy) ⟨own,.refl,S,congrArg an.bool (by rw[afe cn.1 hr,e])⟩
theorem tj {f:Nat->Option Nat}{i j i' j':Nat}(h1:f i=some i')(h2:f j=some j'):CV.bI f (.cB [.ab i,.ab j])=some (.cB [.ab i',.ab j']):=congrArg (dg CV.cB)<|gC (ij h1)<|gC (ij h2) rfl
theorem JL {units:List Str}{bs:List Bool}{tb:Nat->Nat->Bool}{st:List ae}{k:Nat}(H:H5 units bs tb)(hk:st[k]?=some (ax units)):bk (d+10) (.aH 311) [.str (bh bs),.ab k] [] st (.cB [.ab st.length,.ab (st.length+1)]) (st++[a0 (j8 bs tb),.list []]):=by
 have h:=Qv (d:=d) H;refine(h.wR [k] (by simp) ?_ rfl ?_ rfl (cq (fz<|Ho _ _)<|cq rfl iF) (tj (nf (j:=1) (i:=0) rfl)<|nf (j:=2) (i:=1) rfl)).call
 ·unfold g4;exact cq (gq hk<|fz<|yM _ _) iF
 exact gC rfl (gC (ij<|gr [k] 0 k (by simp) rfl) rfl)
noncomputable def tbK (p q:Nat):Bool:=kL (k9 bsK p q) 0
noncomputable def maK:List Nat:=j8 bsK tbK
noncomputable def JM:List (Str×CV):=JK++[(("wrong":Str),CV.ab 72)]
noncomputable def vG:CoK:={hU with mates:=some (.ab 71)}
noncomputable def FD:List ae:=y1++[a0 maK,.list []]
theorem Q7:jz X.K (.ref 311)=true:=iG (by kernel_rfl)
theorem O6 {l6:Int}(H:H5 unL bsK tbK):aI (d+10) cCO ((dCO.body.drop 20).take 1) (coY l6 JK hU y1) .next (coY l6 JM vG FD):=by have A:=JL (d:=d) (st:=coY l6 JK hU y1) (k:=70) H rfl;have A:bk (d+10) (.aH 311) [.str<|bh bsK,.ab 70] [] (coY l6 JK hU y1) (.cB [.ab 71,.ab 72]) (coY l6 JK hU y1++[a0 maK,.list []]):=A;exact aW (sc:=[.c7 (.cB [.ab 71,.ab 72]) λst=>st++[a0 maK,.list []]]) (by rfl')<|am A<|am (cK Q7) aX
end
section
variable {d:Nat}
noncomputable def FE (l6:Int):List ae:=coY l6 JM vG FD
theorem tr {n:Nat}(hn:73<=n):(JM.all λp=>p.2.lo n)=true:=by rw[JM,JK,eJ,RO,sz<|by lia];show(true&&((CV.ab 70).lo n&&((CV.ab 72).lo n&&true)))=true;rw[show (CV.ab 70).lo n=true from decide_eq_true<|ah [_] (.le (.n 73) .o<|.g 1 0<|.lt (.n 70) .o) rfl hn,show (CV.ab 72).lo n=true from decide_eq_true<|ah [_] (.le (.n 73) .o<|.g 1 0<|.lt (.n 72) .o) rfl hn];rfl
theorem BA {n:Nat}(hn:72<=n):vG.lo n=true:=Bl hn (by rfl)
theorem v6 {n:Nat}(hn:66<=n):(FD.all λo=>o.lo n)=true:=cC (cC (vF hn)<|BS<|bd _ _) (by show((a0 _).lo n&&(true&&true))=true;rw[k8];rfl)
theorem FG {l6:Int}{n:Nat}(hn:73<=n):((FE l6).all λo=>o.lo n)=true:=cp (ah [_] (.le (.n 73) .o<|.g 1 0<|.le (.n 51) .o) rfl hn) (tr hn) (BA<|ah [_] (.le (.n 73) .o<|.g 1 0<|.le (.n 72) .o) rfl hn)<|v6<|ah [_] (.le (.n 73) .o<|.g 1 0<|.le (.n 66) .o) rfl hn
def y5:aq:=iL (g7 dCO.body 21)
noncomputable def ac:List Nat:=((aK bsK.length).filter λk=>!maK.contains k).map λk=>ckK.getD k 0
theorem BB {st:List ae}{e:aq}{k:Nat}(hk:k<bsK.length)(h:st[68]?=some (a0 ckK)):fF d e (.ab 68) (af k) st (af (ckK.getD k 0)) st:=jL h (by rw[ed,bA<|O2▸hk];rfl) (by rw[O2];exact ah [_] (.le .o (.n 12)<|.g 1 0<|.lt .o<|.n<|2^40) rfl cH)
theorem IB {st:List ae}:bk d (.bi "len") [.str (bh bsK)] [] st (.int bsK.length) st:=by have:=afn (d:=d) (st:=st) (by rw[np];have:=cH;exact ah [_] (.le .o (.n 12)<|.g 1 0<|.it (.c .o)<|.n<|2^63) rfl this);rwa[np] at this
noncomputable def lV:CoK:={vG with spare:=some (.ab 73)}
noncomputable def FI:List ae:=FD++[a0 ac]
theorem O7 {l6:Int}:aI (d+10) cCO ((dCO.body.drop 21).take 1) (FE l6) .next (coY l6 JM lV FI):=by
 have hl:=cH;have C:=KB (b30 (d:=d+10) (c:=cCO) (cl:=[("mates",14),("clock",12)]) (T:=FE l6) (st:=FE l6) (n:=73) (x:="k") (a:=.fW 0 bsK.length 1) (P:=λ_=>True) (xs:=aK bsK.length) (λk=>!maK.contains k) (λk=>af<|ckK.getD k 0) af (elt:=ew y5 0) (iter:=kZ y5) (ifs:=[wE y5]) (fJ:=0) (px:=AT (uL y5).target) (pos:=AT y5) (scope:=fH y5) ⟨⟨by rfl',by rfl',by rfl',by rfl',by rfl'⟩,by rfl',
  dk (sc:=[.val<|.int bsK.length,.val<|.fW 0 bsK.length 1]) (by rfl') (am afo<|am yn<|am IB<|am gP aX),mE _ (by omega),λ_=>trivial,rfl,aG _,FG<|aG _,by rw[aV,fb];omega⟩
  (λk hk acc _=>⟨ms (by have I:=λst q=>Fw (d:=d+9) (st:=st) (k:=71) (h:=k) (xs:=maK) q;generalize (!maK.contains k)=b at *;cases b<;>exact nX (sc:=[.val<|.bool _]) (by rfl')<|am (I _ rfl) aX),λ_=>dk (sc:=[.val<|af<|ckK.getD k 0]) (by rfl')<|am (BB (gz.mp hk) rfl) aX,rfl⟩))
 rw[show ((aK bsK.length).filter λk=>!maK.contains k).map (λk=>af<|ckK.getD k 0)=(ac.map<|λm:Nat=>(m:Int)).map CV.int by rw[ac,fV,fV];rfl] at C;exact aW (sc:=[.c7 (.ab 73) λst=>st++[a0 ac]]) (by rfl')<|am C aX
noncomputable def tlL:List Str:=["","\\","\""]
def tlK:Str:=gW (tlL.getD (aN 2/576%3) "")
noncomputable def nz (l6:Int):List ae:=coY l6 JM lV FI
theorem BC {n:Nat}(hn:74<=n):lV.lo n=true:=Bl hn (by rfl)
theorem v9 {n:Nat}(hn:66<=n):(FI.all λo=>o.lo n)=true:=cC (v6 hn)<|BS<|k8 _
theorem nF {l6:Int}{n:Nat}(hn:74<=n):((nz l6).all λo=>o.lo n)=true:=cp (ah [_] (.le (.n 74) .o<|.g 1 0<|.le (.n 51) .o) rfl hn) (tr<|ah [_] (.le (.n 74) .o<|.g 1 0<|.le (.n 73) .o) rfl hn) (BC<|by lia)<|v9<|ah [_] (.le (.n 74) .o<|.g 1 0<|.le (.n 66) .o) rfl hn
theorem O8 {xs:List Nat}:mY ((xs.map λm:Nat=>(m:Int)).map CV.int) []=xs.isEmpty:=by cases xs<;>rfl
theorem IC:unL.length<=12:=by rw[unL,aV,fb];exact cH
theorem tG:∀x∈unL,x.length<=8:=λx hx=>by
 obtain⟨k,_,rfl⟩:=cu.mp hx;have l2:=Bz<|bsK.getD k false;have l5:"".length=0:=rfl;have l6:(cond (k%3==phK) pcK "").length<=5:=by cases (k%3==phK);exact dQ _;exact Iu
 unfold unK;simp only [jF];exact ah [_,_,_,_] (.eq .o .j<|.eq .i .j<|.eq .u .j<|.le .w (.n 5)<|.g 1 0<|.le (.a (.a (.a .w .o) .i) .u)<|.n 8) rfl l2 rfl (vc bc<|k%4) l6
theorem O9 {l6:Int}(H:m9 (gY "" unL++tlK)=ac.isEmpty):aI (d+10) cCO ((dCO.body.drop 22).take 1) (nz l6) .next (nz l6):=by
 have hJ:zU "" unL=true:=Hz tG (by have:=IC;lia);have cj:=λ(st:List ae)(h:st[70]?=some (ax unL))=>AR (d:=d+10) h hJ;have hj:=Iy tG;have hu:=IC;have tk:tlK.length<=1:=by
  rw[tlK,gp];have:∀j<3,(tlL.getD j "").length<=1:=by decide +kernel
  exact this _ (kg _<|by decide)
 have hX:(gY "" unL++tlK).length<=1000:=by rw[jF];lia
 have ck:=λ(st:List ae)=>aap (d:=d+2) (st:=st) hX;rw[H] at ck;have e1:=DW (c:=576) (e:=3) (s:=aN 2) (bi:=576) (ci:=3) rfl rfl;have q3:aN 2/576%3<3:=kg _ (by decide);have sb:∀st (e:aq),st[74]?=some (ax tlL)->fF (d+10) e (.ab 74) (.int<|((aN 2:Int).fdiv 576).fmod 3) st (.str tlK) st:=λst e h=>by rw[show tlK=tlL.getD (aN 2/576%3) "" from gp];exact e8 (ns:=tlL) (j:=aN 2/576%3) h e1 (by rw[ed,bA<|show _<tlL.length from q3];rfl) (by decide)
 have eq:=λ(st:List ae)(h1:st[73]?=some (a0 ac))(h2:st[75]?=some (.list []))=>Mz (d:=d+9) h1 h2 cn.1 rfl (by rw[cn.2];exact dQ _);rw[O8] at eq;generalize ac.isEmpty=b at *;generalize gY "" unL=x at *;generalize tlK=y at *;refine aI.drop (g:=[ax tlL,.list []]) ?_ (aG _) (nF<|aG 74) rfl;have h24:(x++y).length<=2^24:=by exact ah [_] (.le .o (.n 1000)<|.g 1 0<|.le .o<|.n<|2^24) rfl hX
 cases b<;>exact aW (sc:=[.bg (.bi "str.join") [.str ""],.val<|.str x,.val<|af<|aN 2,.val<|.str y,.val<|.bool _,.val<|.bool _,.val<|.bool false]) (by rfl')<|am (yq (r:=true) rfl)<|am (eq _ rfl rfl)<|am (by decide:0<=cX)<|am (ck _)<|am (cK QF)<|am h24<|am (sb _ _ rfl)<|am (show(3:Int)≠0 by decide)<|am (r3 (by decide)<|by decide)<|am (bQ (by decide) rfl)<|am (by decide:3<=cX)<|am (cj _ rfl)<|am gP<|am yx<|am (by decide) aX
end
section
variable {d:Nat}
def tH:aq:=iL (g7 dCO.body 23)
def dD:aq:=ew tH 0
abbrev JN:aY:=cI cCO (fH tH) 75 [("signs",11),("mates",14),("clock",12)]
noncomputable def faK (b:Bool):List Nat:=((aK bsK.length).filter λk=>(bsK.getD k false==b)&&maK.contains k).map λk=>ckK.getD k 0
noncomputable def fa0 (l6:Int)(b:Bool)(rs:List CV)(g:List ae):List ae:=nz l6++.list rs::([.frame [],.cell (some (.str (sgC b)))]++g)
theorem Pc {l6:Int}{b:Bool}{n k:Nat}{rs:List CV}{g:List ae}(hk:k<bsK.length) (ht:∀x,(∀st (e:aq),fF (d+10) e (.str (bh bsK)) (af k) st (.str (sgC x)) st)->∀c,(∀st,st[71]?=some (a0 maK)->jj (d+10) .In (af k) (.ab 71) st (.bool c) st)->∀acc,fx (d+10) (cI JN (fH dD) (n+1) [("signs",11),("sign",76),("mates",14),("clock",12)]) (wE dD) (fa0 l6 b rs g++[ae.list acc,ae.frame [("k",af k)]]) ((x==b)&&c) (fa0 l6 b rs g++[ae.list acc,ae.frame [("k",af k)]])):∀acc,fx (d+10) (cI JN (fH dD) (n+1) [("signs",11),("sign",76),("mates",14),("clock",12)]) (wE dD) (fa0 l6 b rs g++[ae.list acc,ae.frame [("k",af k)]]) ((bsK.getD k false==b)&&maK.contains k) (fa0 l6 b rs g++[ae.list acc,ae.frame [("k",af k)]]):=by
 have hb:bsK[k]?=some (bsK.getD k false):=by rw[ed,bA hk];rfl
 exact ht _ (λst e=>wS (by rw[gT bsK hb];cases bsK.getD k false<;>rfl) (by have:=cH;exact ah [_,_] (.lt .o .i<|.le .i (.n 12)<|.g 1 0<|.lt .o<|.n<|2^40) rfl hk this)) _<|λst q=>j9 q
theorem Pf {l6:Int}{b:Bool}{n:Nat}{rs:List CV}{g:List ae}(hn:74<=n)(hr:CV.cV n rs=true)(hg:(g.all λo=>o.lo n)=true):((fa0 l6 b rs g).all λo=>o.lo n)=true:=cC (nF hn) (by show(CV.cV n rs&&(true&&(true&&(g.all λo=>o.lo n))))=true;rw[hr,hg];rfl)
theorem Ph {l6:Int}{b:Bool}{n:Nat}{rs:List CV}{g:List ae}(hn:(fa0 l6 b rs g).length=n)(h74:74<=n)(hr:CV.cV n rs=true)(hg:(g.all λo=>o.lo n)=true) (ht:∀k,k<bsK.length->∀acc,fx (d+10) (cI JN (fH dD) (n+1) [("signs",11),("sign",76),("mates",14),("clock",12)]) (wE dD) (fa0 l6 b rs g++[ae.list acc,ae.frame [("k",af k)]]) ((bsK.getD k false==b)&&maK.contains k) (fa0 l6 b rs g++[ae.list acc,ae.frame [("k",af k)]])) (he:∀k,k<bsK.length->∀acc,a8 (d+10) (cI JN (fH dD) (n+1) [("signs",11),("sign",76),("mates",14),("clock",12)]) (ew dD 0) (fa0 l6 b rs g++[ae.list acc,ae.frame [("k",af k)]]) (af (ckK.getD k 0)) (fa0 l6 b rs g++[ae.list acc,ae.frame [("k",af k)]])):a8 (d+10) JN dD (fa0 l6 b rs g) (.ab n) (fa0 l6 b rs g++[a0 (faK b)]):=by
 have hl:=cH;have C:=oJ (b30 (d:=d+10) (c:=JN) (cl:=[("signs",11),("sign",76),("mates",14),("clock",12)]) (T:=fa0 l6 b rs g) (st:=fa0 l6 b rs g) (n:=n) (x:="k") (a:=.fW 0 bsK.length 1) (P:=λ_=>True) (xs:=aK bsK.length) (λk=>(bsK.getD k false==b)&&maK.contains k) (λk=>af<|ckK.getD k 0) af (elt:=ew dD 0) (iter:=kZ dD) (ifs:=[wE dD]) (fJ:=0) (px:=AT (uL dD).target) (pos:=AT dD) (scope:=fH dD) ⟨⟨by rfl',by rfl',by rfl',by rfl',by rfl'⟩,by rfl',
  dk (sc:=[.val<|.int bsK.length,.val<|.fW 0 bsK.length 1]) (by rfl') (am afo<|am yn<|am IB<|am gP aX),mE _ (by omega),λ_=>trivial,hn,ll hn,Pf h74 hr hg,by rw[aV,fb];omega⟩
  (λk hk acc _=>⟨ms<|ht k (gz.mp hk) acc,λ_=>he k (gz.mp hk) acc,rfl⟩))
 rw[show ((aK bsK.length).filter λk=>(bsK.getD k false==b)&&maK.contains k).map (λk=>af<|ckK.getD k 0)=((faK b).map<|λm:Nat=>(m:Int)).map CV.int by rw[faK,fV,fV];rfl] at C;exact C
theorem SL {l6:Int}{b x c:Bool}{n k:Nat}{rs:List CV}{g:List ae}(h1:∀st (e:aq),fF (d+10) e (.str (bh bsK)) (af k) st (.str (sgC x)) st)(h2:∀st,st[71]?=some (a0 maK)->jj (d+10) .In (af k) (.ab 71) st (.bool c) st)(acc:List CV)(hn:(fa0 l6 b rs g).length=n)(N:n=77∧g=[]∨n=78∧∃y,g=[y]):fx (d+10) (cI JN (fH dD) (n+1) [("signs",11),("sign",76),("mates",14),("clock",12)]) (wE dD) (fa0 l6 b rs g++[ae.list acc,ae.frame [("k",af k)]]) ((x==b)&&c) (fa0 l6 b rs g++[ae.list acc,ae.frame [("k",af k)]]):=by
 rcases N with ⟨rfl,rfl⟩|⟨rfl,y,rfl⟩
 ·cases x<;>cases b
  ·cases c
   ·exact nX (sc:=[.val<|.str<|sgC false,.val<|.bool false]) rfl (am (h2 _ rfl)<|am (h1 _ _) aX)
   exact nX (sc:=[.val<|.str<|sgC false,.val<|.bool true]) rfl (am (h2 _ rfl)<|am (h1 _ _) aX)
  ·exact nX (sc:=[.val<|.str<|sgC false]) rfl (am (h1 _ _) aX)
  ·exact nX (sc:=[.val<|.str<|sgC true]) rfl (am (h1 _ _) aX)
  cases c
  ·exact nX (sc:=[.val<|.str<|sgC true,.val<|.bool false]) rfl (am (h2 _ rfl)<|am (h1 _ _) aX)
  exact nX (sc:=[.val<|.str<|sgC true,.val<|.bool true]) rfl (am (h2 _ rfl)<|am (h1 _ _) aX)
 cases x<;>cases b
 ·cases c
  ·exact nX (sc:=[.val<|.str<|sgC false,.val<|.bool false]) rfl (am (h2 _ rfl)<|am (h1 _ _) aX)
  exact nX (sc:=[.val<|.str<|sgC false,.val<|.bool true]) rfl (am (h2 _ rfl)<|am (h1 _ _) aX)
 ·exact nX (sc:=[.val<|.str<|sgC false]) rfl (am (h1 _ _) aX)
 ·exact nX (sc:=[.val<|.str<|sgC true]) rfl (am (h1 _ _) aX)
 cases c
 ·exact nX (sc:=[.val<|.str<|sgC true,.val<|.bool false]) rfl (am (h2 _ rfl)<|am (h1 _ _) aX)
 exact nX (sc:=[.val<|.str<|sgC true,.val<|.bool true]) rfl (am (h2 _ rfl)<|am (h1 _ _) aX)
end
section
variable {d:Nat}
noncomputable def faF (i:Nat):List ae:=[.frame [],.cell (match i with|0=>none|1=>some (.str (sgC true))|_=>some (.str (sgC false)))]
noncomputable def faG:List (List CV):=[(faK true),(faK false)].map λxs=>(xs.map λm:Nat=>(m:Int)).map CV.int
noncomputable def FJ:List ae:=FI++[.list (dX 75 2),a0 (faK true),a0 (faK false)]
noncomputable def JO:List (Str×CV):=JM++[(("fore":Str),CV.ab 75),(("aft":Str),CV.ab 76)]
theorem JP {l6:Int}:a8 (d+10) cCO tH (nz l6) (.ab 74) (nz l6++[.list (dX 75 2),a0 (faK true),a0 (faK false)]):=by
 have C:=oJ (ec (d:=d+10) (c:=cCO) (st:=nz l6) (T:=nz l6) (n:=74) (m:=1) (cl:=[("signs",11),("mates",14),("clock",12)]) (P:=λ_=>True) (a:=.str "()") (items:=[.str<|sgC true,.str<|sgC false]) (F:=faF) (gs:=faG) (elt:=dD) (iter:=kZ tH) (ifs:=[]) (fJ:=0) (tg:=(uL tH).target) (pos:=AT tH) (scope:=fH tH) ⟨by rfl',by rfl',by rfl',by rfl'⟩ rfl
  (dk (sc:=[]) (by rfl') aX) ⟨Gw _⟩ (λ_=>trivial) rfl (aG _) (nF<|aG _) (λi=>rfl) (by rfl') (λi=>⟨[],rfl⟩) rfl (λg hg=>by obtain⟨x,_,rfl⟩:=cu.mp hg;exact NT _) (by decide)
  (λi x hx=>match i,x,hx with
   |0,_,rfl=>i4 (sc:=[]) (by rfl') aX|1,_,rfl=>i4 (sc:=[]) (by rfl') aX)
  (λi x hx=>match i,x,hx with
   |0,_,rfl=>Ph (b:=true) (n:=77) (rs:=[]) (g:=[]) rfl (by decide) rfl rfl (λk hk acc=>Pc (b:=true) (n:=77) hk (λx h1 c h2 acc=>SL h1 h2 acc rfl (.inl ⟨rfl,rfl⟩)) acc) (λk hk acc=>dk (sc:=[.val<|af<|ckK.getD k 0]) (by rfl)<|am (BB hk rfl) aX)|1,_,rfl=>Ph (b:=false) (n:=78) (rs:=[.ab 77]) (g:=[a0<|faK true]) rfl (by decide) rfl (fK _) (λk hk acc=>Pc (b:=false) (n:=78) hk (λx h1 c h2 acc=>SL h1 h2 acc rfl (.inr ⟨rfl,_,rfl⟩)) acc) (λk hk acc=>dk (sc:=[.val<|af<|ckK.getD k 0]) (by rfl)<|am (BB hk rfl) aX)))
 exact C
theorem Pi {l6:Int}:aI (d+10) cCO ((dCO.body.drop 23).take 1) (nz l6) .next (coY l6 JO lV FJ):=by exact aW (sc:=[.c7 (.ab 74) λst=>st++[.list<|dX 75 2,a0<|faK true,a0<|faK false],.c7 (.cB [.ab 75,.ab 76]) id]) (by rfl')<|am (eI (xs:=dX 75 2) rfl)<|am JP aX
noncomputable def FK (l6:Int):List ae:=coY l6 JO lV FJ
theorem BL {n:Nat}(hn:77<=n):(JO.all λp=>p.2.lo n)=true:=by rw[JO,RO,tr<|by lia];show(true&&((CV.ab 75).lo n&&((CV.ab 76).lo n&&true)))=true;rw[show (CV.ab 75).lo n=true from decide_eq_true<|ah [_] (.le (.n 77) .o<|.g 1 0<|.lt (.n 75) .o) rfl hn,show (CV.ab 76).lo n=true from decide_eq_true<|ah [_] (.le (.n 77) .o<|.g 1 0<|.lt (.n 76) .o) rfl hn];rfl
theorem wa {n:Nat}(hn:77<=n):(FJ.all λo=>o.lo n)=true:=cC (v9<|ah [_] (.le (.n 77) .o<|.g 1 0<|.le (.n 66) .o) rfl hn) (by show(CV.cV n (dX 75 2)&&((a0 _).lo n&&((a0 _).lo n&&true)))=true;rw[X7 (by omega),k8,k8];rfl)
end
section
variable {d:Nat}
theorem oa {a:ai}{st:List ae}{x y z r:List Nat}{i j k:Nat}(h:bM d (.aH a) [.ab 0,.ab 1,.ab 2] [] [a0 x,a0 y,a0 z] (.ab 3) ([a0 x,a0 y,a0 z]++[a0 r]))(hi:st[i]?=some (a0 x))(hj:st[j]?=some (a0 y))(hk:st[k]?=some (a0 z))(hn:[i,j,k].Nodup):bk d (.aH a) [.ab i,.ab j,.ab k] [] st (.ab st.length) (st++[a0 r]):=by
 have rn:∀{xs:List Nat} {f},(a0 xs).bI f=some (a0 xs):=λ{xs f}=>fz<|tM<|NT _;refine(h.wR [i,j,k] hn ?_ rfl ?_ rfl (cq rn iF) (ij<|nf (i:=0) rfl)).call
 ·unfold g4;exact cq (gq hi rn)<|cq (gq hj rn)<|cq (gq hk rn) iF
 exact gC (ij<|gr _ 0 _ hn rfl)<|gC (ij<|gr _ 1 _ hn rfl)<|gC (ij<|gr _ 2 _ hn rfl) rfl
noncomputable def JQ:Nat->Nat:=Q.D2 (Q.less dP) (λh=>hY.contains h) (λh=>ic.contains h)
noncomputable def lvK:List Nat:=(aK 6).filter λt=>decide (JQ t<JQ (t+1))
def R0:Prop:=∀t,t<7->(∃a b,a<=b∧b<=t∧lfZ dP hY ic a b t=(JQ t:Int))∧∀a b,a<=b->b<=t->(JQ t:Int)<=lfZ dP hY ic a b t
theorem wb:hY.length<=6:=by rw[hY,gp,xm];exact fC (abZ _ _)<|fb▸aG _
theorem wf:ic.length<=6:=by rw[ic,gp,xm];exact fC (abZ _ _)<|fb▸aG _
theorem oh:dP.length=4:=by rw[dP,aV,jx]
theorem R3:jz X.K (.ref 335)=true:=iG (by kernel_rfl)
noncomputable def eH:CoK:={lV with leaves:=some (.ab 77)}
noncomputable def JT:List ae:=FJ++[a0 lvK]
theorem Pj {l6:Int}(H:R0):aI (d+10) cCO ((dCO.body.drop 24).take 1) (FK l6) .next (coY l6 JO eH JT):=by have A:=oa (d:=d+10) (st:=FK l6) (i:=57) (j:=19) (k:=20) (Qu (d:=d+8) (by rw[oh];decide) (by have:=wb;exact ah [_] (.le .o (.n 6)<|.g 1 0<|.lt .o<|.n<|2^16) rfl this) (by exact ah [_] (.le .o (.n 6)<|.g 1 0<|.lt .o<|.n<|2^16) rfl wf) H) rfl rfl rfl (by decide);exact aW (sc:=[.c7 (.ab 77) λst=>st++[a0 lvK]]) rfl (am A<|am (cK R3) aX)
theorem lh {n:Nat}(hn:78<=n):eH.lo n=true:=Bl hn (by rfl)
noncomputable def FN (l6:Int):List ae:=coY l6 JO eH JT
theorem F1 {l6:Int}{n:Nat}(hn:78<=n):((FN l6).all λo=>o.lo n)=true:=cp (ah [_] (.le (.n 78) .o<|.g 1 0<|.le (.n 51) .o) rfl hn) (BL<|ah [_] (.le (.n 78) .o<|.g 1 0<|.le (.n 77) .o) rfl hn) (lh hn)<|cC (wa<|ah [_] (.le (.n 78) .o<|.g 1 0<|.le (.n 77) .o) rfl hn)<|BS<|k8 _
end
section
variable {d:Nat}
def R4:aq:=iL (g7 dCO.body 25)
def BM:aq:=ew R4 0
noncomputable def JU (t:Nat):Str:=(cQ "abcdef").getD t ""
noncomputable def wl:List (Str×Str):=(aK lvK.length).map λk=>(JU (lvK.getD k 0),pC.getD k "")
noncomputable def F3:List Str:=pC.drop lvK.length
noncomputable def y6:List (Str×CV):=JO++[(("due":Str),CV.cB [.ab 78,.ab 79])]
noncomputable def qO:List ae:=JT++[.list (wl.map br),ax F3]
theorem Pk:∀t∈lvK,t<6:=λt ht=>gz.mp (Ca.mp ht).1
theorem jG:pC.length=4:=by rw[pC,aV,jx]
theorem Pl {k:Nat}(hk:k<lvK.length):lvK[k]?=some (lvK.getD k 0)∧lvK.getD k 0<6:=by
 have e:lvK[k]?=some (lvK.getD k 0):=by rw[ed,bA hk];rfl
 exact⟨e,Pk _<|c8 e⟩
theorem Po {t:Nat}(h:t<6):(cQ "abcdef")[t]?=some (JU t):=by rw[JU,ed,bA<|show t<(cQ "abcdef").length from h];rfl
theorem Px {l6:Int}(hv:lvK.length<=4):aI (d+10) cCO ((dCO.body.drop 25).take 1) (FN l6) .next (coY l6 y6 eH qO):=by
 have ln:∀st:List ae,st[77]?=some (a0 lvK)->bk (d+10) (.bi "len") [.ab 77] [] st (.int lvK.length) st:=λst h=>YG h<|ah [_] (.le .o (.n 4)<|.g 1 0<|.lt .o<|.n<|2^20) rfl hv;have C:=oJ (b31 (d:=d+10) (c:=cCO) (cl:=[("order",10),("leaves",16)]) (T:=FN l6) (st:=FN l6) (n:=78) (x:="k") (a:=.fW 0 lvK.length 1) (P:=λ_=>True) (xs:=aK lvK.length) (λk=>br (JU<|lvK.getD k 0,pC.getD k "")) af (elt:=ew BM 0) (iter:=kZ BM) (fJ:=0) (px:=AT (uL BM).target) (pos:=AT BM) (scope:=fH BM) ⟨⟨by rfl',by rfl',by rfl',by rfl',by rfl'⟩,by rfl',
  dk (sc:=[.val<|.int lvK.length,.val<|.fW 0 lvK.length 1]) (by rfl) (am afo<|am yn<|am (ln _ rfl)<|am gP aX),mE _<|ah [_] (.le .o (.n 4)<|.g 1 0<|.le .o<|.n<|2^20) rfl hv,λ_=>trivial,rfl,aG _,F1<|aG _,by rw[aV,fb];exact ah [_] (.le .o (.n 4)<|.g 1 0<|.le .o<|.n<|2^20) rfl hv⟩<|λk hk acc _=>⟨by have k1:=gz.mp hk;obtain⟨h1,h2⟩:=Pl k1;have s1:∀st (e:aq),st[77]?=some (a0 lvK)->fF (d+10) e (.ab 77) (af k) st (af<|lvK.getD k 0) st:=λst e h=>jL h h1<|ah [_] (.le .o (.n 4)<|.g 1 0<|.lt .o<|.n<|2^40) rfl hv;have s2:∀st (e:aq),fF (d+10) e (.str "abcdef") (af<|lvK.getD k 0) st (.str<|JU<|lvK.getD k 0) st:=λst e=>wS (Po h2)<|ah [_] (.lt .o (.n 6)<|.g 1 0<|.lt .o<|.n<|2^40) rfl h2;have s3:∀st (e:aq),st[58]?=some (ax pC)->fF (d+10) e (.ab 58) (af k) st (.str<|pC.getD k "") st:=λst e h=>e8 (ns:=pC) (j:=k) h rfl (by rw[ed,bA<|jG▸ah [_,_,_] (.lt .o .i<|.le .i .u<|.g 1 0<|.lt .o .u) rfl k1 hv];rfl) (by rw[jG];decide);generalize lvK.getD k 0=t at *;generalize JU t=x at *;generalize pC.getD k ""=y at *;exact dk (sc:=[.val<|af t,.val<|.str x,.val<|.str y]) (by rfl)<|am wM<|am (s3 _ _ rfl)<|am (s2 _ _)<|am (s1 _ _ rfl) aX,rfl⟩)
 rw[show (aK lvK.length).map (λk=>br (JU<|lvK.getD k 0,pC.getD k ""))=wl.map br by rw[wl,fV];rfl] at C;have sl:=λ(st:List ae)(e:aq)(h:st[58]?=some (ax pC))=>sv (d:=d+10) (e:=e) (a:=lvK.length) (z:=lvK.length) h rfl (by rw[jG];decide);exact aW (sc:=[.c7 (.ab 78) λst=>st++[.list<|wl.map br],.val<|.int lvK.length,.c7 (.ab 79) λst=>st++[ax F3]]) rfl (am wM<|am (sl _ _ rfl)<|am (ln _ rfl)<|am gP<|am C aX)
theorem tP {n:Nat}{r:List (Str×CV)}(hn:80<=n)(hr:(r.all λp=>p.2.lo n)=true):((y6++r).all λp=>p.2.lo n)=true:=by rw[y6,eJ,RO,BL<|by lia];show(true&&(((CV.ab 78).lo n&&((CV.ab 79).lo n&&true))&&(r.all λp=>p.2.lo n)))=true;rw[show (CV.ab 78).lo n=true from decide_eq_true<|ah [_] (.le (.n 80) .o<|.g 1 0<|.lt (.n 78) .o) rfl hn,show (CV.ab 79).lo n=true from decide_eq_true<|ah [_] (.le (.n 80) .o<|.g 1 0<|.lt (.n 79) .o) rfl hn,hr];rfl
theorem jH {n:Nat}(hn:78<=n):(qO.all λo=>o.lo n)=true:=cC (cC (wa<|ah [_] (.le (.n 78) .o<|.g 1 0<|.le (.n 77) .o) rfl hn)<|BS<|k8 _) (by show(CV.cV n (wl.map br)&&((ax _).lo n&&true))=true;rw[HJ,bd];rfl)
end
section
variable {d:Nat}
theorem ID {b:Bool}{k:Nat}{st:List ae}(hk:k<13):oN d .Mult (.str (sgC b)) (af k) st (.str (bh (cD k b))) st:=λA own s x y q S r1 r2=>by
 obtain⟨t,rfl⟩:=r1;obtain⟨u,rfl⟩:=r2;have h0:∀b:Bool,(sgC b).length=1:=by decide
 have hf:∀k:Nat,k<13->∀b:Bool,⟨(cD (k:Int).toNat (sgC b).cps).foldl (· ++ ·) #[]⟩=bh (cD k b):=by decide +kernel
 have hb:∀k:Nat,k<13->¬(1>(2^63-1)/(k:Int)) ∨ k=0:=by decide +kernel
 have hl:∀k:Nat,k<13->pU (1*(k:Int).toNat)=false:=by decide +kernel
 have hr:∀k:Nat,k<13->(decide ((k:Int)< -(2^63:Int))||decide ((k:Int)>=2^63))=false:=by decide +kernel
 refine P.mul_str (hr k hk) (λh1 _=>?_) (λ_ _=>(by rw[h0];exact hl k hk))<|UT (λh=>⟨by decide,own,.toks,S.toks _,Gb ?_⟩) (λh=>⟨own,.refl,S,Gb ?_⟩) ⟨?_,own,.toks,S.toks _,Gb<|by rw[hf k hk b]⟩
 ·rw[h0];rcases hb k hk with h|h
  ·exact h
  subst h;exact absurd (by decide) h1
 ·obtain rfl:k=0:=by exact ah [_] (.c 1 0 (.it (.c .o) .j)<|.g 1 1<|.eq .o .k) rfl h
  rfl
 ·rw[h0] at h;have:k=1:=by
   rcases ap8.mp h with h|h
   ·have:=eq_of_beq h;exact ah [_] (.c 1 (-1) (.ie (.c .o) .j)<|.g 1 1<|.eq .o .j) rfl this
   exact nB' (by simpa using h)
  subst this;cases b<;>rfl
 rw[hf k hk b];have:(bh<|cD k b).length=k:=by rw[np,Fm]
 rw[this];exact fC (Ff hk) (by decide)
end
section
variable {d:Nat}
theorem BO {bs:List Bool}{e0 l0 s r1 r2:List Nat}{st:List ae}{i j k:Nat}(hs:s.length<2^16)(hbs:bs.length=s.length)(he:e0.length<2^16)(hl:l0.length<2^16)(hr:dh bs s e0 l0=(r1,r2))(hi:st[i]?=some (a0 e0))(hj:st[j]?=some (a0 l0))(hk:st[k]?=some (a0 s))(hn:[i,j,k].Nodup):bk (d+7) (.aH 318) [.ab i,.ab j,.ab k,.str (bh bs)] [] st (.cB [.ab st.length,.ab (st.length+1)]) (st++[a0 r1,a0 r2]):=by
 have h:=Qj (d:=d) hs hbs he hl;rw[hr] at h;have rn:∀{xs:List Nat} {f},(a0 xs).bI f=some (a0 xs):=λ{xs f}=>fz<|tM<|NT _;refine(h.wR [i,j,k] hn ?_ rfl ?_ rfl (cq rn<|cq rn iF) (tj (nf (i:=0) rfl)<|nf rfl)).call
 ·unfold g4;exact cq (gq hi rn)<|cq (gq hj rn)<|cq (gq hk rn) iF
 exact gC (ij<|gr _ 0 _ hn rfl)<|gC (ij<|gr _ 1 _ hn rfl)<|gC (ij<|gr _ 2 _ hn rfl) rfl
theorem JV {c:Nat->List Str}{l1 l2:Int}{e l:List Nat}{hs:List (Str×Str)}{ns:List Str}{st:List ae}(H:y7 c)(h1:g5 (ruZ c e l 6).left=hs)(h2:(ruZ c e l 6).q2++(ruZ c e l 6).q1=ns) (g:∀i,i<25->st[([59,60,61,62,63,64,65,31,32,33,34,35,36,37,38,39,40,41,42,43,44,45,46,80,81]:List Nat).getD i 0]?=([.list (dX 60 6),ax (c 0),ax (c 1),ax (c 2),ax (c 3),ax (c 4),ax (c 5)]++lg 31 [] l1 []++lg 39 [] l2 []++[a0 e,a0 l])[i]?):bk (d+9) (.aH 323) [.ab 59,.ab 37,.ab 45,.ab 80,.ab 81] [] st (.cB [.ab st.length,.ab (st.length+1)]) (st++[.list (hs.map br),ax ns]):=by have h:=QB (d:=d) (l1:=l1) (l2:=l2) (e:=e) (l:=l) H;rw[h1,h2] at h;have rn:∀{xs:List Nat} {f},(a0 xs).bI f=some (a0 xs):=λ{xs f}=>fz<|tM<|NT _;have rs:∀{xs:List Str} {f},(ax xs).bI f=some (ax xs):=λ{xs f}=>fz<|yM _ _;refine(h.wR [59,60,61,62,63,64,65,31,32,33,34,35,36,37,38,39,40,41,42,43,44,45,46,80,81] (by decide) ?_ rfl (by rfl) rfl (cq (fz<|na _ _)<|cq rs iF) (tj (nf (j:=25) (i:=0) rfl)<|nf (j:=26) (i:=1) rfl)).call;unfold g4;exact cq (gq (g 0<|by decide)<|by rfl)<|cq (gq (g 1<|by decide) rs)<|cq (gq (g 2<|by decide) rs)<|cq (gq (g 3<|by decide) rs)<|cq (gq (g 4<|by decide) rs)<|cq (gq (g 5<|by decide) rs)<|cq (gq (g 6<|by decide) rs)<|cq (gq (g 7<|by decide)<|by rfl)<|cq (gq (g 8<|by decide)<|by rfl)<|cq (gq (g 9<|by decide)<|by rfl)<|cq (gq (g 10<|by decide)<|by rfl)<|cq (gq (g 11<|by decide)<|by rfl)<|cq (gq (g 12<|by decide)<|by rfl)<|cq (gq (g 13<|by decide)<|by rfl)<|cq (gq (g 14<|by decide) rs)<|cq (gq (g 15<|by decide)<|by rfl)<|cq (gq (g 16<|by decide)<|by rfl)<|cq (gq (g 17<|by decide)<|by rfl)<|cq (gq (g 18<|by decide)<|by rfl)<|cq (gq (g 19<|by decide)<|by rfl)<|cq (gq (g 20<|by decide)<|by rfl)<|cq (gq (g 21<|by decide)<|by rfl)<|cq (gq (g 22<|by decide) rs)<|cq (gq (g 23<|by decide) rn)<|cq (gq (g 24<|by decide) rn) iF
end
section
variable {d:Nat}
theorem IE {st:List ae}{e:aq}{k:Nat}{xs:List Nat}{x y:CV}{lo hi:Option Int}(hk:st[k]?=some (a0 xs))(h1:qt x=some lo)(h2:qt y=some hi)(hl:xs.length<=2^20):fF d e (.ab k) (.sl [x,y,.none]) st (.ab st.length) (st++[a0 ((xs.drop (eZ lo xs.length)).take (i5 hi xs.length-eZ lo xs.length))]):=by have:=Dd (d:=d) (e:=e) hk h1 h2 (z:=.none) rfl (by decide) (by rw[aV,aV];exact ah [_] (.le .o (.n<|2^20)<|.g 1 0<|.le .o<|.n<|2^24) rfl hl);rwa[Hf,aV,aV,<-rn,<-rn,<-oH,<-oH] at this
theorem JW {st:List ae}{e:aq}{k a:Nat}{xs:List Nat}(h:st[k]?=some (a0 xs))(hl:xs.length<=2^20):fF d e (.ab k) (.sl [af a,.none,.none]) st (.ab st.length) (st++[a0 (xs.drop a)]):=by
 have:=IE (d:=d) (e:=e) (x:=af a) (y:=.none) (lo:=some (a:Int)) (hi:=none) h rfl rfl hl;have e1:(xs.drop<|eZ (some (a:Int)) xs.length).take (i5 none xs.length-eZ (some (a:Int)) xs.length)=xs.drop a:=by
  show(xs.drop<|nH xs.length (a:Int)).take (xs.length-nH xs.length (a:Int))=_;rw[uP,uc<|by rw[jA];exact aG _];by_cases q:a<=xs.length
  ·rw[zH q]
  rw[aai (by omega),aaC,Fn<|by omega]
 rwa[e1] at this
theorem R5 {st:List ae}{e:aq}{k a:Nat}{xs:List Nat}(h:st[k]?=some (a0 xs))(hl:xs.length<=2^20):fF d e (.ab k) (.sl [.none,af a,.none]) st (.ab st.length) (st++[a0 (xs.take a)]):=by
 have:=IE (d:=d) (e:=e) (x:=.none) (y:=af a) (lo:=none) (hi:=some a) h rfl rfl hl;have e1:(xs.drop<|eZ none xs.length).take (i5 (some a) xs.length-eZ none xs.length)=xs.take a:=by
  show(xs.drop 0).take (nH xs.length a-0)=_;rw[uP,sQ,vY];by_cases q:a<=xs.length
  ·rw[zH q]
  rw[aai (by omega),B7,uc<|by omega]
 rwa[e1] at this
theorem BQ {st:List ae}{i j:Nat}{xs ys:List Nat}(h:st[i]?=some (a0 xs))(h2:st[j]?=some (a0 ys))(hl:xs.length+ys.length<=2^24):oN d .Add (.ab i) (.ab j) st (.ab st.length) (st++[a0 (xs++ys)]):=by have:=Wk (d:=d) h h2 (by simp only [aV];exact hl);rwa[<-fU,<-fU] at this
theorem tQ {st:List ae}{k:Nat}{ns ms:List Nat}(hk:st[k]?=some (a0 ns))(oj:ns.length<64)(hp:ms.Perm ns)(hs:ms.Pairwise (·<=·)):bk d (.bi "sorted") [.ab k] [] st (.ab st.length) (st++[a0 ms]):=
 pJ (ns:=ns.map λm:Nat=>m) (ms:=ms.map λm:Nat=>m) hk (by rwa[aV]) (hp.map _) (List.pairwise_map.mpr<|hs.imp λh=>EV.mpr h)
structure IF (k:Nat)(o1 o2:List Nat):Prop where
 kn:k<=ac.length
 n6:ac.length<=12
 f6:(faK true).length<=12
 a6:(faK false).length<=12
 de:dh (cD k false++cD (ac.length-k) true) ac (faK true) (faK false)=(o1,o2)
 s1:o1.Perm (faK true++ac.drop k)
 s2:o2.Perm (faK false++ac.take k)
 p1:o1.Pairwise (·<·)
 p2:o2.Pairwise (·<·)
 r1:g5 (ruZ cmK o1 o2 6).left=wl
 r2:(ruZ cmK o1 o2 6).q2++(ruZ cmK o1 o2 6).q1=F3
 ha:Q.halfGo o1 o2 dP 0 0=lvK
noncomputable def frQ (x y:CV)(kv:List (Str×CV)):List (Str×CV):=("one",x)::("other",y)::(y6++kv)
noncomputable def coQ (l6:Int)(x y:CV)(kv:List (Str×CV)):List ae:=coY l6 (frQ x y kv) eH qO
def qS:aq×aq×List bl:=dc (dCO.body.drop 26)
theorem Py:jz X.K (.ref 318)=true:=iG (by kernel_rfl)
theorem R6:jz X.K (.ref 323)=true:=iG (by kernel_rfl)
theorem JX:jz X.K (.ref 330)=true:=iG (by kernel_rfl)
theorem BR (a b:List Bool):bh a++bh b=bh (a++b):=by
 have e:(bh a++bh b).cps.toList=(bh<|a++b).cps.toList:=by rw[vR,z3];show a.map _++b.map _=(a++b).map _;rw[fU]
 exact congrArg PySem.Str.mk<|Array.toList_inj.mp e
theorem R7 {l6:Int}{k:Nat}{o1 o2:List Nat}(H:IF k o1 o2):aI (d+10) cCO (qS.2.2.take 1) (coQ l6 .any .any [("k",af k)]) .next (coQ l6 (.ab 80) (.ab 81) [("k",af k)]++[a0 o1,a0 o2]):=by
 have h1:=H.kn;have h2:=H.n6;have hl:(cD k false++cD (ac.length-k) true).length=ac.length:=by rw[dJ,Fm,Fm];exact Nat.add_sub_of_le h1
 have dc:=λ(st:List ae)(g1:st[75]?=some (a0<|faK true))(g2:st[76]?=some (a0<|faK false))(g3:st[73]?=some (a0 ac))=>BO (d:=d+3) (ah [_] (.le .o (.n 12)<|.g 1 0<|.lt .o<|.n<|2^16) rfl h2) hl (by have:=H.f6;exact ah [_] (.le .o (.n 12)<|.g 1 0<|.lt .o<|.n<|2^16) rfl this) (by have:=H.a6;exact ah [_] (.le .o (.n 12)<|.g 1 0<|.lt .o<|.n<|2^16) rfl this) H.de g1 g2 g3 (by decide);have m1:=λ(st:List ae)=>ID (d:=d+10) (b:=false) (k:=k) (st:=st)<|ah [_,_] (.le .o (.n 12)<|.le .i .o<|.g 1 0<|.lt .i<|.n 13) rfl h2 h1;have m2:=λ(st:List ae)=>ID (d:=d+10) (b:=true) (k:=ac.length-k) (st:=st)<|Nat.lt_succ_of_le<|fC (Nat.sub_le _ _) h2;have ln:=λ(st:List ae)(h:st[73]?=some (a0 ac))=>YG (d:=d+10) h<|ah [_] (.le .o (.n 12)<|.g 1 0<|.lt .o<|.n<|2^20) rfl h2;have ek:((ac.length-k:Nat):Int)=(ac.length:Int)-(k:Int):=by exact ah [_,_,_] (.c 0 1 (.le .i<|.a .u .o)<|.eq (.a .u .o) .i<|.c 0 0 (.le .o .i)<|.g 1 1<|.ie (.c .u)<|.s (.c .i)<|.c .o) rfl (fS _ _) (Nat.sub_add_cancel h1) h1
 have e2:∀j,af j=.int (j:Int):=λ_=>rfl;rw[<-BR] at dc;simp only [e2,ek] at m2;have lz:(bh (cD k false)++bh (cD (ac.length-k) true)).length<=2^24:=by rw[BR,np,hl];exact ah [_] (.le .o (.n 12)<|.g 1 0<|.le .o<|.n<|2^24) rfl h2
 generalize bh (cD k false)=x at *;generalize bh (cD (ac.length-k) true)=y at *;exact aW (sc:=[.val<|.str x,.val<|.int ac.length,.val<|.str y,.c7 (.cB [.ab 80,.ab 81]) λst=>st++[a0 o1,a0 o2]]) (by rfl')<|am (dc _ rfl rfl rfl)<|am (cK Py)<|am lz<|am (m2 _)<|am (ln _ rfl)<|am gP<|am (m1 _) aX
end
section
variable {d:Nat}
noncomputable def Gd (k:Nat)(o1 o2:List Nat):List ae:=[a0 (ac.drop k),a0 (faK true++ac.drop k),a0 o1,a0 (ac.take k),a0 (faK false++ac.take k),a0 o2]
noncomputable def P6:List ae:=[.list (wl.map br),ax F3,a0 lvK]
noncomputable def IG (l6:Int)(k:Nat)(o1 o2:List Nat):List ae:=coQ l6 (.ab 80) (.ab 81) [("k",af k)]++[a0 o1,a0 o2]
theorem BT {xs:List Nat}(h:xs.Pairwise (·<·)):xs.Pairwise (·<=·):=h.imp Ff
theorem lp {st:List ae}{i j:Nat}{xs:List Nat}(h1:st[i]?=some (a0 xs))(h2:st[j]?=some (a0 xs)):jj (d+1) .NotEq (.ab i) (.ab j) st (.bool false) st:=kS h1 h2 cn.1<|cn.2▸dQ _
theorem R8 {l6:Int}{k:Nat}{o1 o2:List Nat}(H:IF k o1 o2):aI (d+10) cCO ((qS.2.2.drop 1).take 1) (IG l6 k o1 o2) .next (IG l6 k o1 o2++Gd k o1 o2):=by
 have h1:=H.kn;have h2:=H.n6;have h3:=H.f6;have h4:=H.a6;have s1:=λ(st:List ae)(e:aq)(h:st[73]?=some (a0 ac))=>JW (d:=d+10) (e:=e) (a:=k) h (fC h2<|by decide);have n2:=λ(st:List ae)(g1:st[81]?=some (a0 o2))(g2:st[87]?=some (a0 o2))=>lp (d:=d+9) g1 g2;unfold Gd;exact aW (sc:=[.c7 (.ab 82) λst=>st++[a0<|ac.drop k],.c7 (.ab 83) λst=>st++[a0<|faK true++ac.drop k],.c7 (.ab 84) λst=>st++[a0 o1],.val<|.bool false,.c7 (.ab 85) λst=>st++[a0<|ac.take k],.c7 (.ab 86) λst=>st++[a0<|faK false++ac.take k],.c7 (.ab 87) λst=>st++[a0 o2],.val<|.bool false]) (by rfl')
  (am (n2 _ rfl rfl)<|am ((λ(st:List ae)(g1:st[86]?=some (a0<|faK false++ac.take k))=>tQ (d:=d+10) g1 (by rw[dJ];exact Nat.lt_of_le_of_lt (Nat.add_le_add h4<|fC (List.length_take_le' _ _) h2)<|by decide) H.s2<|BT H.p2) _ rfl)<|am gP<|am ((λ(st:List ae)(g1:st[76]?=some (a0<|faK false))(g2:st[85]?=some (a0<|ac.take k))=>BQ (d:=d+10) g1 g2<|fC (Nat.add_le_add h4<|fC (List.length_take_le' _ _) h2)<|by decide) _ rfl rfl)<|am ((λ(st:List ae)(e:aq)(h:st[73]?=some (a0 ac))=>R5 (d:=d+10) (e:=e) (a:=k) h<|fC h2<|by decide) _ _ rfl)<|am ((λ(st:List ae)(g1:st[80]?=some (a0 o1))(g2:st[84]?=some (a0 o1))=>lp (d:=d+9) g1 g2) _ rfl rfl)<|am ((λ(st:List ae)(g1:st[83]?=some (a0<|faK true++ac.drop k))=>tQ (d:=d+10) g1 (by rw[dJ,jA];exact Nat.lt_of_le_of_lt (Nat.add_le_add h3<|fC (Nat.sub_le _ _) h2)<|by decide) H.s1<|BT H.p1) _ rfl)<|am gP<|am ((λ(st:List ae)(g1:st[75]?=some (a0<|faK true))(g2:st[82]?=some (a0<|ac.drop k))=>BQ (d:=d+10) g1 g2<|by rw[jA];exact fC (Nat.add_le_add h3<|fC (Nat.sub_le _ _) h2)<|by decide) _ rfl rfl)<|am (s1 _ _ rfl) aX)
theorem R9 {l6:Int}{k:Nat}{o1 o2:List Nat}(R:y7 cmK)(H:IF k o1 o2):aI (d+10) cCO (qS.2.2.drop 2) (IG l6 k o1 o2++Gd k o1 o2) .next (IG l6 k o1 o2++Gd k o1 o2++P6):=by
 have hE:(o1.length<=24)∧o2.length<=24:=by rw[H.s1.length_eq,H.s2.length_eq,dJ,dJ,jA,nG];exact⟨Nat.add_le_add H.f6<|fC (Nat.sub_le _ _) H.n6,Nat.add_le_add H.a6<|fC (Nat.min_le_right _ _) H.n6⟩
 have A:=JV (d:=d+1) (l1:=l6) (l2:=1) (st:=IG l6 k o1 o2++Gd k o1 o2) R H.r1 H.r2 (λi hi=>match i,hi with
  |0,_=>rfl|1,_=>rfl|2,_=>rfl|3,_=>rfl|4,_=>rfl|5,_=>rfl|6,_=>rfl|7,_=>rfl|8,_=>rfl|9,_=>rfl|10,_=>rfl|11,_=>rfl|12,_=>rfl|13,_=>rfl|14,_=>rfl|15,_=>rfl|16,_=>rfl|17,_=>rfl|18,_=>rfl|19,_=>rfl|20,_=>rfl|21,_=>rfl|22,_=>rfl|23,_=>rfl|24,_=>rfl|n+25,h=>absurd h<|ah [_,_] (.g 1 0<|.no<|.lt (.a .o .i) .i) rfl)
 have hh:=IS (d:=d+3) (hs:=dP) (e:=o1) (l:=o2) (by rw[oh];decide) (ah [_] (.le .o (.n 24)<|.g 1 0<|.lt .o<|.n<|2^16) rfl hE.1) (ah [_] (.le .o (.n 24)<|.g 1 0<|.lt .o<|.n<|2^16) rfl hE.2) H.p1 H.p2;rw[H.ha] at hh;unfold P6;exact aW (sc:=[.c7 (.cB [.ab 88,.ab 89]) λst=>st++[.list<|wl.map br,ax F3],.val<|.bool false,.c7 (.ab 90) λst=>st++[a0 lvK],.val<|.bool false]) (by rfl')
  (am ((λ(st:List ae)(g1:st[90]?=some (a0 lvK))(g2:st[77]?=some (a0 lvK))=>lp (d:=d+9) g1 g2) _ rfl rfl)<|am ((λ(st:List ae)(g1:st[57]?=some (a0 dP))(g2:st[80]?=some (a0 o1))(g3:st[81]?=some (a0 o2))=>oa hh g1 g2 g3<|by decide) _ rfl rfl rfl)<|am (cK JX)<|am ((λ(st:List ae)(g1:st[88]?=some (.list<|wl.map br))(g2:st[78]?=some (.list<|wl.map br))(g3:st[89]?=some (ax F3))(g4:st[79]?=some (ax F3))=>Ee (d:=d+8) g1 g2 g3 g4 (jv (f:=br) (n:=6) (λ_=>rfl) (λx=>fC (ll<|show (br x).s8=1 from rfl)<|by decide) wl).1 (jv (f:=br) (λ_=>rfl) (λx=>fC (ll<|show (br x).s8=1 from rfl)<|by decide) wl).2 (cA _).1 (cA _).2) _ rfl rfl rfl rfl)<|am A<|am (cK R6) aX)
theorem J1 {l6:Int}{k:Nat}{o1 o2:List Nat}(R:y7 cmK)(H:IF k o1 o2):aI (d+10) cCO qS.2.2 (coQ l6 .any .any [("k",af k)]) .next (coQ l6 .any .any [("k",af k)]):=by have B:aI (d+10) cCO qS.2.2 (coQ l6 .any .any [("k",af k)]) .next (IG l6 k o1 o2++Gd k o1 o2++P6):=jY 1 (R7 H)<|jY 1 (R8 H)<|R9 R H;have W:=B.fj (i:=1) (vars:=frQ (.ab 80) (.ab 81) [("k",af k)]) ["one","other"] rfl;have lo:((coQ l6 .any .any [("k",af k)]).all λo=>o.lo 80)=true:=cp (by decide) (by show(true&&(true&&((y6++[(("k":Str),af k)]).all λp=>p.2.lo 80)))=true;rw[tP (by decide) rfl];rfl) (lh<|by decide) (jH<|by decide);refine aI.drop (g:=[a0 o1,a0 o2]++(Gd k o1 o2++P6)) ?_ (aG _) lo rfl;with_unfolding_all exact W
end
section
variable {d:Nat}
def GE (o:Option Nat):List (Str×CV):=match o with|none=>[]|some k=>[("k",af k)]
theorem BU {l6:Int}(R:y7 cmK)(H:∀k,k<=ac.length->∃o1 o2,IF k o1 o2):∀n k o,k+n=ac.length+1->∃o',fG (d+10) cCO qS.1 qS.2.2 (λ_=>True) ((fc k n).map af) (coQ l6 .any .any (GE o)) .next (coQ l6 .any .any (GE o'))
 |0,k,o,_=>⟨o,.nil trivial⟩|n+1,k,o,h=>by
  obtain⟨o1,o2,T⟩:=H k<|ah [_,_,_,_] (.eq (.a .o<|.a .i .u) (.a .w .u)<|.g 1 0<|.le .o .w) rfl h;obtain⟨o',L⟩:=BU R H n (k+1) (some k)<|ah [_,_,_,_] (.c 1 (-1) (.eq (.a .o<|.a .i .u) .w)<|.g 1 1<|.eq (.a (.a .o .u) .i) .w) rfl h;have A:dj (d+10) cCO qS.1 (af k) (coQ l6 .any .any<|GE o) (coQ l6 .any .any [("k",af k)]):=by cases o<;>exact i4 (sc:=[]) rfl aX
  exact⟨o',mO▸eC▸.cons trivial A (J1 R T) (.inl rfl) L⟩
noncomputable def L7:List (Str×CV):=("k",.any)::("one",.any)::("other",.any)::y6
noncomputable def BV (l6:Int):List ae:=coY l6 L7 eH qO
theorem Pz {l6:Int}(R:y7 cmK)(hn:ac.length<=12)(H:∀k,k<=ac.length->∃o1 o2,IF k o1 o2):aI (d+10) cCO ((dCO.body.drop 26).take 1) (coY l6 y6 eH qO) .next (BV l6):=by
 obtain⟨o,L⟩:=BU (d:=d) (l6:=l6) R H (ac.length+1) 0 none<|ah [_] (.g 1 1<|.eq (.a .k .o) .o) rfl;rw[<-pW] at L;have ln:=λ(st:List ae)(h:st[73]?=some (a0 ac))=>YG (d:=d+10) h<|ah [_] (.le .o (.n 12)<|.g 1 0<|.lt .o<|.n<|2^20) rfl hn;have F:dB (d+10) cCO (g7 dCO.body 26) (coQ l6 .any .any []) .next (coQ l6 .any .any<|GE o):=by
  obtain⟨S⟩:=mE (ac.length+1)<|ah [_] (.le .o (.n 12)<|.g 1 0<|.le (.a .o .j)<|.n<|2^20) rfl hn;have e:((ac.length+1:Nat):Int)=ac.length+1:=by exact ah [_] (.g 1 1<|.ie (.c<|.a .o .j)<|.a (.c .o) .j) rfl
  have rg:∀st:List ae,bk (d+10) (.ty "range") [.int<|ac.length+1] [] st (.fW 0 (ac.length+1:Nat) 1) st:=λst=>e▸afo;exact mq S rfl (dk (sc:=[.val<|.int ac.length,.val<|.fW 0 (ac.length+1:Nat) 1]) rfl (am (rg _)<|am yn<|am (ln _ rfl)<|am gP aX)) trivial L
 have F:dB (d+10) cCO (g7 dCO.body 26) (coY l6 y6 eH qO) .next (coQ l6 .any .any<|GE o):=by refine dB.pre (i:=1) (vars:=y6) ["one","other"] rfl ?_;exact F
 have B:aI (d+10) cCO ((dCO.body.drop 26).take 1) (coY l6 y6 eH qO) .next (coQ l6 .any .any<|GE o):=aW (sc:=[.iX .next (coQ l6 .any .any<|GE o)]) rfl (am F aX);have W:=B.fj (i:=1) (vars:=frQ .any .any<|GE o) ["k"] rfl;have e:fj ["k"] (frQ .any .any<|GE o)=L7:=by cases o<;>rfl'
 rwa[e] at W
theorem BW {n:Nat}(hn:80<=n):(L7.all λp=>p.2.lo n)=true:=by have:=tP (r:=[]) hn rfl;rw[dM] at this;show(true&&(true&&(true&&(y6.all λp=>p.2.lo n))))=true;rw[this];rfl
theorem GT {l6:Int}{n:Nat}(hn:80<=n):((BV l6).all λo=>o.lo n)=true:=cp (ah [_] (.le (.n 80) .o<|.g 1 0<|.le (.n 51) .o) rfl hn) (BW hn) (lh<|ah [_] (.le (.n 80) .o<|.g 1 0<|.le (.n 78) .o) rfl hn)<|jH<|ah [_] (.le (.n 80) .o<|.g 1 0<|.le (.n 78) .o) rfl hn
end
section
variable {d:Nat}
noncomputable def wdB (k:Nat):Bool:=aN 3/192/2^k%2==0
noncomputable def wdK:List Bool:=(aK ac.length).map wdB
def Cg:aq:=ew (iL (g7 dCO.body 27)) 0
noncomputable def lW:CoK:={eH with j4:=some (.str (bh wdK))}
noncomputable def J2:List ae:=qO++[ax (wdK.map sgC)]
theorem bW:wdK.length=ac.length:=by rw[wdK,aV,fb]
theorem PB {l6:Int}(hn:ac.length<=6):aI (d+10) cCO ((dCO.body.drop 27).take 1) (BV l6) .next (coY l6 L7 lW J2):=by
 have ln:=λ(st:List ae)(h:st[73]?=some (a0 ac))=>YG (d:=d+10) h<|ah [_] (.le .o (.n 6)<|.g 1 0<|.lt .o<|.n<|2^20) rfl hn;have pw:∀{h:Nat},h<6->(0:Int)<=(h:Int)∧(h:Int)<=1000000∧(2:Int).natAbs<2^64:=λh=>⟨by exact ah [_] (.g 1 0<|.il .k<|.c .o) rfl,by exact ah [_] (.lt .o (.n 6)<|.g 1 0<|.il (.c .o)<|.n 1000000) rfl h,by decide⟩;have C:=oJ (b31 (d:=d+10) (c:=cCO) (cl:=[("sums",2)]) (T:=BV l6) (st:=BV l6) (n:=80) (x:="k") (a:=.fW 0 ac.length 1) (P:=λ_=>True) (xs:=aK ac.length) (λk=>.str<|sgC<|wdB k) af (elt:=ew Cg 0) (iter:=kZ Cg) (fJ:=0) (px:=AT (uL Cg).target) (pos:=AT Cg) (scope:=fH Cg) ⟨⟨by rfl',by rfl',by rfl',by rfl',by rfl'⟩,by rfl',
  dk (sc:=[.val<|.int ac.length,.val<|.fW 0 ac.length 1]) (by rfl') (am afo<|am yn<|am (ln _ rfl)<|am gP aX),mE _<|ah [_] (.le .o (.n 6)<|.g 1 0<|.le .o<|.n<|2^20) rfl hn,λ_=>trivial,rfl,aG _,GT<|aG _,by rw[aV,fb];exact ah [_] (.le .o (.n 6)<|.g 1 0<|.le .o<|.n<|2^20) rfl hn⟩ (λk hk acc _=>⟨by
   have k6:=gz.mp hk;have e1:(aN 3:Int).fdiv 192=((aN 3/192:Nat):Int):=(abN _<|by decide).trans rfl;have e2:((((aN 3:Int).fdiv 192).fdiv<|(2:Int)^(k:Int).toNat).fmod 2)=((aN 3/192/2^k%2:Nat):Int):=by rw[e1];exact Bo (b:=2) (c:=2) (s:=aN 3/192) (k:=k) (bi:=2) (ci:=2) rfl rfl
   have m2:aN 3/192/2^k%2<2:=kg _ (by decide);have hp:=DX (x:=(aN 3:Int).fdiv 192) (b:=2) (k:=k) (bi:=2) rfl (by decide) (by decide) (ah [_,_] (.lt .o .i<|.le .i (.n 6)<|.g 1 0<|.le .o .t) rfl k6 hn);have sg:∀st (e:aq),fF (d+10) e (.str "()") (.int<|(((aN 3:Int).fdiv 192).fdiv<|(2:Int)^(k:Int).toNat).fmod 2) st (.str<|sgC<|wdB k) st:=λst e=>by
    rw[e2];refine wS (k:=aN 3/192/2^k%2) ?_ (Nat.lt_trans m2<|by decide);unfold wdB;by_cases z:aN 3/192/2^k%2=1
    ·rw[z];rfl
    rw[(Nat.mod_two_eq_zero_or_one _).resolve_right z];rfl
   exact dk (sc:=[.val<|af<|aN 3,.val<|.str<|sgC<|wdB k]) (by rfl')<|am (sg _ _)<|am (show(2:Int)≠0 by decide)<|am hp<|am (pw<|ah [_,_,_] (.lt .o .i<|.le .i .u<|.g 1 0<|.lt .o .u) rfl k6 hn)<|am (r3 (by decide)<|by decide)<|am (bQ (by decide) rfl) aX,rfl⟩))
 rw[show (aK ac.length).map (λk=>CV.str<|sgC<|wdB k)=(wdK.map sgC).map CV.str by rw[wdK,fV,fV];rfl] at C;have hJ:zU "" (wdK.map sgC)=true:=Hz (B:=1) (λx hx=>by obtain⟨b,_,rfl⟩:=cu.mp hx;cases b<;>decide) (by rw[aV,bW];show _<=2^24;lia);have cj:=λ(st:List ae)(h:st[80]?=some (ax<|wdK.map sgC))=>AR (d:=d+10) h hJ;rw[Bu] at cj;exact aW (sc:=[.bg (.bi "str.join") [.str ""],.c7 (.ab 80) λst=>st++[ax<|wdK.map sgC],.val<|.str<|bh wdK]) (by rfl')<|am (cj _ rfl)<|am gP<|am C<|am yx aX
end
section
variable {d:Nat}
noncomputable def Ch (l6:Int):List ae:=coY l6 L7 lW J2
theorem q5 {n:Nat}(hn:78<=n):lW.lo n=true:=Bl hn (by rfl)
theorem oq {l6:Int}{n:Nat}(hn:81<=n):((Ch l6).all λo=>o.lo n)=true:=cp (ah [_] (.le (.n 81) .o<|.g 1 0<|.le (.n 51) .o) rfl hn) (BW<|ah [_] (.le (.n 81) .o<|.g 1 0<|.le (.n 80) .o) rfl hn) (q5<|ah [_] (.le (.n 81) .o<|.g 1 0<|.le (.n 78) .o) rfl hn)<|cC (jH<|ah [_] (.le (.n 81) .o<|.g 1 0<|.le (.n 78) .o) rfl hn)<|BS<|bd _ _
def tR:aq:=iL (g7 dCO.body 28)
def lS:aq:=wE tR
abbrev P7:aY:=cI cCO (fH tR) 82 [("word",17),("spare",15)]
noncomputable def moF (k:Nat):List Nat:=(aK k).filter λi=>n7 (bh (k9 wdK i k))
noncomputable def moK:List Nat:=((aK ac.length).filter λk=>!(moF k).isEmpty).map λk=>ac.getD k 0
noncomputable def moT (l6:Int)(acc:List CV)(k:Nat):List ae:=Ch l6++[.list acc,.frame [],.cell (some (af k))]
theorem Sb {l6:Int}{acc:List CV}{k:Nat}(hn:ac.length<=6)(hk:k<ac.length)(ha:CV.cV 81 acc=true):a8 (d+10) P7 lS (moT l6 acc k) (.ab 84) (moT l6 acc k++[a0 (moF k)]):=by
 have C:=oJ (b30 (d:=d+10) (c:=P7) (cl:=[("word",17),("k",83)]) (T:=moT l6 acc k) (st:=moT l6 acc k) (n:=84) (x:="i") (a:=.fW 0 k 1) (P:=λ_=>True) (xs:=aK k) (λi=>n7<|bh<|k9 wdK i k) af af (elt:=ew lS 0) (iter:=kZ lS) (ifs:=[wE lS]) (fJ:=0) (px:=AT (uL lS).target) (pos:=AT lS) (scope:=fH lS) ⟨⟨by rfl',by rfl',by rfl',by rfl',by rfl'⟩,by rfl',
  dk (sc:=[.val<|.fW 0 k 1]) (by rfl') (am afo<|am yn aX),mE _<|ah [_,_] (.lt .o .i<|.le .i (.n 6)<|.g 1 0<|.le .o<|.n<|2^20) rfl hk hn,λ_=>trivial,rfl,aG _,cC (oq<|by decide) (by show(CV.cV 84 acc&&(true&&(true&&true)))=true;rw[CV.vh (by decide) _ ha];rfl),by rw[aV,fb];exact ah [_,_] (.lt .o .i<|.le .i (.n 6)<|.g 1 0<|.le .o<|.n<|2^20) rfl hk hn⟩
  (λi hi oP _=>⟨ms (by have hi:=gz.mp hi;have QJ:=λ(st:List ae)(e:aq)=>yu (d:=d+10) (e:=e) (x:=bh wdK) (a:=af i) (b:=.int<|(k:Int)+1) (lo:=some (i:Int)) (hi:=some<|(k:Int)+1) rfl rfl (st:=st) (by have:=yJ (bh wdK) (some (i:Int))<|some<|(k:Int)+1;rw[np,bW] at this;show _<=2^24;exact ah [_,_] (.le .o (.n 6)<|.le .i .o<|.g 1 0<|.le .i<|.n<|2^24) rfl hn this);rw[akP (bW▸hk)<|by lia] at QJ;have evn:=λ(st:List ae)=>aaq (d:=d+8) (st:=st) (x:=bh<|k9 wdK i k) (by rw[np];exact kT<|by rw[bW];exact fC hn<|by decide);generalize bh (k9 wdK i k)=E at *;generalize n7 E=b at *;cases b<;>exact nX (sc:=[.val<|.str E,.val<|.bool _]) (by rfl')<|am (evn _)<|am (cK QG)<|am (QJ _ _) aX),λ_=>dk (sc:=[]) (by rfl') aX,rfl⟩))
 rw[show ((aK k).filter λi=>n7<|bh<|k9 wdK i k).map af=((moF k).map<|λm:Nat=>(m:Int)).map CV.int by rw[moF,fV];rfl] at C;exact C
theorem PC (xs:List Nat):((xs.map λm:Nat=>(m:Int)).map CV.int).isEmpty=xs.isEmpty:=by cases xs<;>rfl
theorem Si {l6:Int}{acc:List CV}{k:Nat}(hn:ac.length<=6)(hk:k<ac.length)(ha:CV.cV 81 acc=true):fx (d+10) P7 lS (moT l6 acc k) (!(moF k).isEmpty) (moT l6 acc k):=by have T:fx (d+10) P7 lS (moT l6 acc k) (!((((moF k).map λm:Nat=>(m:Int)).map CV.int).isEmpty)) (moT l6 acc k++[a0<|moF k]):=LD rfl (Sb hn hk ha) (adC rfl (by rw[aV,aV,moF];have:=abZ (λi=>n7<|bh<|k9 wdK i k)<|aK k;rw[fb] at this;exact ah [_,_,_] (.lt .o .i<|.le .i (.n 6)<|.le .u .o<|.g 1 0<|.it (.c .u)<|.n<|2^63) rfl hk hn this));rw[PC] at T;exact T.drop (aG _) (cC (oq<|by show 81<=84;decide)<|by show(CV.cV 84 acc&&(true&&(true&&true)))=true;rw[CV.vh (by decide) _ ha];rfl)
noncomputable def SM:List (Str×CV):=L7++[(("more":Str),CV.ab 81)]
noncomputable def J3:List ae:=J2++[a0 moK]
theorem PD {l6:Int}(hn:ac.length<=6):aI (d+10) cCO ((dCO.body.drop 28).take 1) (Ch l6) .next (coY l6 SM lW J3):=by
 have ln:∀st:List ae,bk (d+10) (.bi "len") [.str<|bh wdK] [] st (.int ac.length) st:=λst=>by have:=afn (d:=d+10) (st:=st) (x:=bh wdK) (by rw[np,bW];exact ah [_] (.le .o (.n 6)<|.g 1 0<|.it (.c .o)<|.n<|2^63) rfl hn);rwa[np,bW] at this
 have C:=KB (j5 (d:=d+10) (c:=cCO) (cl:=[("word",17),("spare",15)]) (T:=Ch l6) (st:=Ch l6) (n:=81) (x:="k") (a:=.fW 0 ac.length 1) (P:=λ_=>True) (xs:=aK ac.length) (φ:=af) (ψ:=λk=>af<|ac.getD k 0) (f:=λk=>!(moF k).isEmpty) (elt:=ew tR 0) (iter:=kZ tR) (ifs:=[lS]) (fJ:=0) (px:=AT (uL tR).target) (pos:=AT tR) (scope:=fH tR) ⟨by rfl',by rfl',by rfl',by rfl'⟩ (by rfl') (by rfl') (by rfl')
  (dk (sc:=[.val<|.int ac.length,.val<|.fW 0 ac.length 1]) (by rfl')<|am afo<|am yn<|am (ln _)<|am gP aX) (mE _<|ah [_] (.le .o (.n 6)<|.g 1 0<|.le .o<|.n<|2^20) rfl hn) (λ_=>trivial) rfl (aG _) (oq<|aG _) (by rw[fb];exact ah [_] (.le .o (.n 6)<|.g 1 0<|.le .o<|.n<|2^20) rfl hn)
  (λk hk acc ha=>by have k1:=gz.mp hk;have sb:∀st (e:aq),st[73]?=some (a0 ac)->fF (d+10) e (.ab 73) (af k) st (af<|ac.getD k 0) st:=λst e h=>jL h (by rw[ed,bA k1];rfl)<|ah [_] (.le .o (.n 6)<|.g 1 0<|.lt .o<|.n<|2^40) rfl hn;exact⟨ms<|Si hn k1 ha,λ_=>dk (sc:=[.val<|af<|ac.getD k 0]) (by rfl')<|am (sb _ _ rfl) aX,rfl⟩))
 rw[show ((aK ac.length).filter λk=>!(moF k).isEmpty).map (λk=>af<|ac.getD k 0)=(moK.map<|λm:Nat=>(m:Int)).map CV.int by rw[moK,fV,fV];rfl] at C;exact aW (sc:=[.c7 (.ab 81) λst=>st++[a0 moK]]) (by rfl')<|am C aX
end
section
variable {d:Nat}
theorem Ci {st:List ae}{k:Nat}(hk:st[k]?=some (a0 [0])):oN d .Mult (.ab k) (.int 6) st (.ab st.length) (st++[a0 Q.crowd]):=λA own s x y q S ra rb=>by
 obtain⟨a,vs,n,rfl,ha,ho,hr,hl⟩:=S.kY hk ra;obtain⟨u,rfl⟩:=rb;obtain⟨v,r,e,h1,h2⟩:=hr;obtain rfl:r=[]:=h2;subst e;exact wpAny_binaryOp_repeat_ref rfl ⟨_,ho,rfl⟩ (λs'=>typeIs_int s' 6 u) noFill_list_mul F.fills_int_mul F.slot_int_rmul repeat_list F.slot_int_index.lookup (vU F.slot_int_rmul (typeIs_int s 6 u) F.entry_int_rmul (F.args_int_rmul_2 _ _) (int___rmul___int_list 6 u a [v].toArray n)
  ⟨ho,rfl,⟨_,ho,rfl⟩,vU F.slot_list_mul ⟨_,ho,rfl⟩ F.entry_list_mul (F.args_list_mul_2 _ _) (AutoListH.list___mul___list_int_3 a [v].toArray n 6 u (by decide) (by show ¬(1*6>(2^63-1)/8);decide)<|by show ¬Cb.List.listTooLong (1*6)=true;decide) ⟨ho,S.newList ⟨_,_,rfl,h1,⟨_,_,rfl,h1,⟨_,_,rfl,h1,⟨_,_,rfl,h1,⟨_,_,rfl,h1,⟨_,_,rfl,h1,rfl⟩⟩⟩⟩⟩⟩⟩⟩)
end
section
variable {d:Nat}
structure G2 (w1 w2 ms:List Nat):Prop where
 n6:ac.length<=6
 f6:(faK true).length<=12
 a6:(faK false).length<=12
 de:dh wdK ac (faK true) (faK false)=(w1,w2)
 w1l:w1.length<=24
 w2l:w2.length<=24
 pE:hY.Pairwise (·<·)
 pL:ic.Pairwise (·<·)
 p1:w1.Pairwise (·<·)
 p2:w2.Pairwise (·<·)
 c0:Q.halfGo hY ic Q.crowd 0 0=faK false
 c1:Q.halfGo w1 w2 Q.crowd 0 0=ms
 c2:ms.Perm (faK false++moK)
 c3:ms.Pairwise (·<=·)
noncomputable def Sk (l6:Int):List ae:=coY l6 SM lW J3
noncomputable def S5:List (Str×CV):=("k",.any)::("one",.ab 82)::("other",.ab 83)::(y6++[(("more":Str),CV.ab 81)])
noncomputable def ow (l6:Int)(w1 w2:List Nat):List ae:=coY l6 S5 lW J3++[a0 w1,a0 w2]
theorem PG {l6:Int}{w1 w2 ms:List Nat}(H:G2 w1 w2 ms):aI (d+10) cCO ((dCO.body.drop 29).take 1) (Sk l6) .next (ow l6 w1 w2):=by exact aW (sc:=[.c7 (.cB [.ab 82,.ab 83]) λst=>st++[a0 w1,a0 w2]]) rfl (am ((λ(st:List ae)(g1:st[75]?=some (a0<|faK true))(g2:st[76]?=some (a0<|faK false))(g3:st[73]?=some (a0 ac))=>BO (d:=d+3) (by have:=H.n6;exact ah [_] (.le .o (.n 6)<|.g 1 0<|.lt .o<|.n<|2^16) rfl this) bW (by have:=H.f6;exact ah [_] (.le .o (.n 12)<|.g 1 0<|.lt .o<|.n<|2^16) rfl this) (by have:=H.a6;exact ah [_] (.le .o (.n 12)<|.g 1 0<|.lt .o<|.n<|2^16) rfl this) H.de g1 g2 g3<|by decide) _ rfl rfl rfl)<|am (cK Py) aX)
theorem J5:moK.length<=ac.length:=by rw[moK,aV];have:=abZ (λk=>!(moF k).isEmpty)<|aK ac.length;rwa[fb] at this
noncomputable def rA (ms:List Nat):List ae:=[a0 [0],a0 Q.crowd,a0 (faK false),a0 [0],a0 Q.crowd,a0 ms,a0 (faK false++moK),a0 ms]
theorem PH {l6:Int}{w1 w2 ms:List Nat}(H:G2 w1 w2 ms):aI (d+10) cCO ((dCO.body.drop 30).take 1) (ow l6 w1 w2) .next (ow l6 w1 w2++rA ms):=by
 have mc:=λ(st:List ae)(k:Nat)(h:st[k]?=some (a0 [0]))=>Ci (d:=d+10) h;have h1:=IS (d:=d+3) (hs:=Q.crowd) (e:=hY) (l:=ic) (by decide) (by have:=wb;exact ah [_] (.le .o (.n 6)<|.g 1 0<|.lt .o<|.n<|2^16) rfl this) (by have:=wf;exact ah [_] (.le .o (.n 6)<|.g 1 0<|.lt .o<|.n<|2^16) rfl this) H.pE H.pL;rw[H.c0] at h1;have h2:=IS (d:=d+3) (hs:=Q.crowd) (e:=w1) (l:=w2) (by decide) (by have:=H.w1l;exact ah [_] (.le .o (.n 24)<|.g 1 0<|.lt .o<|.n<|2^16) rfl this) (by have:=H.w2l;exact ah [_] (.le .o (.n 24)<|.g 1 0<|.lt .o<|.n<|2^16) rfl this) H.p1 H.p2;rw[H.c1] at h2;have b1:=λ(st:List ae)(g1:st[85]?=some (a0 Q.crowd))(g2:st[19]?=some (a0 hY))(g3:st[20]?=some (a0 ic))=>oa h1 g1 g2 g3 (by decide);have b2:=λ(st:List ae)(g1:st[88]?=some (a0 Q.crowd))(g2:st[82]?=some (a0 w1))(g3:st[83]?=some (a0 w2))=>oa h2 g1 g2 g3 (by decide);have n1:=λ(st:List ae)(g1:st[86]?=some (a0<|faK false))(g2:st[76]?=some (a0<|faK false))=>lp (d:=d+9) g1 g2;have n2:=λ(st:List ae)(g1:st[89]?=some (a0 ms))(g2:st[91]?=some (a0 ms))=>lp (d:=d+9) g1 g2;have ll:(faK false).length+moK.length<64:=by have:=H.a6;have:=J5;have:=H.n6;exact ah [_,_,_] (.le .o (.n 12)<|.le .i (.n 6)<|.le .u .i<|.g 1 0<|.lt (.a .o .u)<|.n 64) rfl (by assumption) this (by assumption)
 have a1:=λ(st:List ae)(g1:st[76]?=some (a0<|faK false))(g2:st[81]?=some (a0 moK))=>BQ (d:=d+10) g1 g2<|ah [_] (.lt .o (.n 64)<|.g 1 0<|.le .o<|.n<|2^24) rfl ll;have t1:=λ(st:List ae)(g1:st[90]?=some (a0<|faK false++moK))=>tQ (d:=d+10) g1 (by rwa[dJ]) H.c2 H.c3;unfold rA;exact aW (sc:=[.c7 (.ab 85) λst=>st++[a0 Q.crowd],.c7 (.ab 86) λst=>st++[a0<|faK false],.val<|.bool false,.c7 (.ab 88) λst=>st++[a0 Q.crowd],.c7 (.ab 89) λst=>st++[a0 ms],.c7 (.ab 90) λst=>st++[a0<|faK false++moK],.c7 (.ab 91) λst=>st++[a0 ms],.val<|.bool false]) (by rfl)
  (am (n2 _ rfl rfl)<|am (t1 _ rfl)<|am gP<|am (a1 _ rfl rfl)<|am (b2 _ rfl rfl rfl)<|am (cK JX)<|am (mc _ 87 rfl)<|am (by decide:1<=cX)<|am (n1 _ rfl rfl)<|am (b1 _ rfl rfl rfl)<|am (cK JX)<|am (mc _ 84 rfl)<|am (by decide:1<=cX) aX)
theorem PI {l6:Int}{w1 w2 ms:List Nat}(hl:l6=1+sM txL "\n"):aI (d+10) cCO (dCO.body.drop 31) (ow l6 w1 w2++rA ms) (.ret (.bool true)) (ow l6 w1 w2++rA ms):=by have D:t5 (ow l6 w1 w2++rA ms) 31 [] l6 []:=D3 rfl rfl rfl rfl rfl rfl rfl rfl;have L:=ant (d:=d+10) D;have q:(l6==1+sM txL "\n")=true:=hl▸beq_self_eq_true _;generalize hc:sM txL "\n"=n at *;have c:∀st,bk (d+10) (.bi "str.count") [.str txL,.str "\n"] [] st (.int n) st:=λst=>hc▸MP;exact q▸aW (sc:=[.val<|.int l6,.bg (.bi "str.count") [.str txL],.val<|.int n]) (by rfl) (am (c _)<|am gP<|am yy<|am L aX)
end
section
variable {d:Nat}
structure Hq:Prop where
 mo:H5 unL bsK tbK
 ck:m9 (gY "" unL++tlK)=ac.isEmpty
 lf:R0
 lv4:lvK.length<=4
 ru:y7 cmK
 n6:ac.length<=6
 dl:∀k,k<=ac.length->∃o1 o2,IF k o1 o2
 en:∃w1 w2 ms,G2 w1 w2 ms
theorem ox {n:Nat}{xs:List Nat}:(a0 xs).lo n=true:=k8 _
theorem J7 {l6:Int}{w1 w2 ms:List Nat}:((ow l6 w1 w2++rA ms).all λo=>o.lo 92)=true:=by
 refine cC (cC (cp (by decide) ?_ (q5<|by decide)<|cC (cC (jH<|by decide)<|BS<|bd _ _)<|BS ox) ?_) ?_
 ·show(true&&(true&&(true&&((y6++[(("more":Str),CV.ab 81)]).all λp=>p.2.lo 92))))=true;rw[tP (by decide) rfl];rfl
 ·show((a0 _).lo 92&&((a0 _).lo 92&&true))=true;rw[ox,ox];rfl
 show((a0 _).lo 92&&((a0 _).lo 92&&((a0 _).lo 92&&((a0 _).lo 92&&((a0 _).lo 92&&((a0 _).lo 92&&((a0 _).lo 92&&((a0 _).lo 92&&true))))))))=true;simp only [ox];rfl
theorem KC (H:Hq):∃l6 w1 w2 ms,aI (d+10) cCO dCO.body (coB [] {}) (.ret (.bool true)) (ow l6 w1 w2++rA ms):=by obtain⟨c5,l5,l6,X⟩:=QU;obtain⟨w1,w2,ms,E⟩:=H.en;refine⟨l6,w1,w2,ms,?_⟩;refine jY 1 (QE)<|jY 1 (QK)<|jY 1 (QO)<|jY 1 (QP)<|jY 2 (QR)<|jY 1 (QS)<|jY 1 (Q1 X)<|jY 1 (Q2)<|jY 1 (Q3 X) ?_;exact jY 1 (Ou)<|jY 1 (Ox)<|jY 1 (OA)<|jY 1 (OG)<|jY 1 (OJ)<|jY 1 (OW)<|jY 1 (O0)<|jY 1 (O3)<|jY 1 (O4)<|jY 1 (O5)<|jY 1 (O6 H.mo)<|jY 1 O7<|jY 1 (O9 H.ck)<|jY 1 Pi<|jY 1 (Pj H.lf)<|jY 1 (Px H.lv4)<|jY 1 (Pz H.ru (by exact ah [_] (.le .o (.n 6)<|.g 1 0<|.le .o<|.n 12) rfl H.n6) H.dl)<|jY 1 (PB H.n6)<|jY 1 (PD H.n6)<|jY 1 (PG E)<|jY 1 (PH E)<|PI X.ln
theorem S6:gu 340 dCO fCO:=iM (by kernel_rfl) (by kernel_rfl) (by decide +kernel)
theorem Sl (H:Hq):bM (d+12) (.aH 340) [.ab 0] [] [a0 sn] (.bool true) [a0 sn]:=by obtain⟨l6,w1,w2,ms,B⟩:=KC H;have hb:db fCO [a0 sn] [.ab 0] [] [("sums",.ab 0)] [a0 sn]:=pe (λv1 S=>by kernel_rfl) gF;refine (S6.code hb (by kernel_rfl) (λq h=>by obtain rfl:=dE h;exact⟨Jp,rfl⟩) (by rw[dM];with_unfolding_all exact B) (.inl rfl) (by show 1<=92;decide) J7 rfl).qr<|yk [0] (by decide) ?_ rfl rfl;unfold g4;exact cq (gq rfl (fz<|Ho _ _)) iF
theorem KD (H:Hq){st:List ae}{ip:Nat}(hp:st[ip]?=some (a0 sn)):bk (d+12) (.aH 340) [.ab ip] [] st (.bool true) st:=by have:bM (d+12) (.aH 340) [.ab ip] [] st (.bool true) (st++[]):=bM.wR [ip] (Sl H) (by simp) (by exact cq (gq hp<|fz<|Ho _ _) iF) rfl (gC (ij<|gr [ip] 0 ip (by simp) rfl) rfl) rfl iF rfl;rw[dM] at this;exact this.call
end
section
def bS:Nat:=gW (aN 4%64)
def b0:Nat:=gW (aN 5%64)
theorem Hu:bS<64:=by rw[bS,gp];exact kg _ (by decide)
theorem HL:b0<64:=by rw[b0,gp];exact kg _ (by decide)
theorem S7 {s h:Nat}(h6:h<6):(s/2^h%2==1)=(s%64).testBit h:=by rw[show 64=2^6 from rfl,aaI,decide_eq_true h6,aaB,aqR];rw[aad,beq_iff_eq,decide_eq_true_iff]
theorem IH {k n:Nat}(e:n=aN k%64):xm k=Q.hrs n.testBit 6:=by subst e;exact aao λh hh=>S7<|gz.mp hh
theorem jI:hY=Q.hrs bS.testBit 6:=by rw[hY,gp];exact IH gp
theorem jK:ic=Q.hrs b0.testBit 6:=by rw[ic,gp];exact IH gp
theorem Cj {n h:Nat}(hn:n<64):(Q.hrs n.testBit 6).contains h=n.testBit h:=by
 rw[aad,ap9];refine⟨λm=>(Ca.mp m).2,λm=>Ca.mpr ⟨gz.mpr ?_,m⟩⟩;by_cases q:h<6
 ·exact q
 rw[Nat.testBit_lt_two_pow<|sF (show n<2^6 from hn)<|Nat.pow_le_pow_right (by decide)<|by lia] at m;exact nB m
theorem wp:(λh=>hY.contains h)=bS.testBit:=by rw[jI];exact funext λh=>Cj Hu
theorem wv:(λh=>ic.contains h)=b0.testBit:=by rw[jK];exact funext λh=>Cj HL
theorem rY:mkK=Q.marks bS b0:=by rw[mkK,Q.marks];refine congrArg (aam · _)<|funext λh=>?_;rw[mkO,show hY.contains h=bS.testBit h from congrFun wp h,show ic.contains h=b0.testBit h from congrFun wv h];cases bS.testBit h<;>cases b0.testBit h<;>rfl
theorem iu:∀(r:List Bool)(d i:Nat),(fc i r.length).find? (λq=>!r.getD (q-i) false&&kL (r.take (q-i+1)) (d+1))=Q.closeAt r (d+1) i
 |[],d,i=>rfl|b::r,d,i=>by
  rw[dO,mO,vV,fk];have sh:∀(f:Bool)q,q∈fc (i+1) r.length->((!(b::r).getD (q-i) false)&&kL ((b::r).take<|q-i+1) (d+1))=((!r.getD (q-(i+1)) false)&&kL (b::r.take (q-(i+1)+1)) (d+1)):=λf q hq=>by have:=(aah.mp hq).1;rw[show q-i=(q-(i+1))+1 by lia];rfl
  have cg:∀{p p':Nat->Bool} {xs:List Nat},(∀x∈xs,p x=p' x)->xs.find? p=xs.find? p':=λ{p p' xs}=>by induction xs with|nil=>intro _;rfl|cons x xs ih=>intro h;rw[vV,vV,h x<|.head _,ih λy hy=>h y<|.tail _ hy]
  cases b with
  |true=>show (fc (i+1) r.length).find? _=Q.closeAt r (d+2) (i+1);rw[cg<|sh true,<-iu r (d+1) (i+1)];rfl|false=>cases d with|zero=>exact Eq.trans (rfl) (if_pos<|rfl).symm|succ d=>show (fc (i+1) r.length).find? _=(if (d+1+1==1)=true then some i else Q.closeAt r (d+1+1-1) (i+1));rw[if_neg (by simp),show d+1+1-1=d+1 from rfl,cg<|sh true,<-iu r d (i+1)];rfl
theorem Ck {p p':Nat->Bool}:∀{xs:List Nat},(∀x∈xs,p x=p' x)->xs.find? p=xs.find? p'
 |[],_=>rfl|x::xs,h=>by rw[vV,vV,h x<|.head _,Ck λy hy=>h y<|.tail _ hy]
theorem KE (bs:List Bool):j8 bs (λp q=>kL (k9 bs p q) 0)=Q.mates bs:=by
 rw[j8,Q.mates,Q.pairs];have key:∀ps:List Nat,(∀p∈ps,p<bs.length)->(ps.flatMap λp=>dm bs (λp q=>kL (k9 bs p q) 0) p<|fc (p+1)<|bs.length-(p+1))=(ps.filterMap λp=>match bs.drop p with|true::r=>(Q.closeAt r 1<|p+1).map λq=>(p,q)|_=>none).flatMap λx=>[x.1,x.2]:=λps=>by
  induction ps with
  |nil=>intro _;rfl|cons p ps ih=>
   intro h;have hp:=h p<|.head _;rw[aab,vT,ih λq hq=>h q<|.tail _ hq];have hd:bs.drop p=bs[p]::bs.drop (p+1):=Ky hp;have hg:bs.getD p false=bs[p]:=by rw[ed,bA hp];rfl
   have hl:(bs.drop<|p+1).length=bs.length-(p+1):=jA;have hf:(fc (p+1)<|bs.length-(p+1)).find? (λq=>bs.getD p false&&(!bs.getD q false&&kL (k9 bs p q) 0))=(match bs.drop p with|true::r=>Q.closeAt r 1 (p+1)|_=>none):=by rw[hd,hg];cases hb:bs[p] with|false=>exact aqQ.mpr λx _=>by rw[aay];exact λz=>nB z|true=>show _=Q.closeAt (bs.drop<|p+1) (0+1) (p+1);rw[<-iu,hl];refine Ck λq hq=>?_;obtain⟨r,rfl⟩:=Nat.exists_eq_add_of_le (aah.mp hq).1;rw[aaB,k9,hd,hb,Nat.add_sub_cancel_left,show p+1+r+1-p=r+1+1 by rw[Nat.add_assoc,Nat.add_assoc,Nat.add_sub_cancel_left,Nat.add_comm 1],RV];rw[ed,ed,sL];rfl
   unfold dm;rw[hf,hd];cases bs[p] with
   |false=>rfl|true=>
    cases g:Q.closeAt (bs.drop<|p+1) 1 (p+1) with
    |none=>rw[show (match true::bs.drop (p+1) with|true::r=>Q.closeAt r 1 (p+1)|_=>none)=none from g,show (match true::bs.drop (p+1) with|true::r=>(Q.closeAt r 1<|p+1).map λq=>(p,q)|_=>none)=none from by show (Q.closeAt _ 1<|p+1).map _=none;rw[g];rfl];rfl
    |some q=>rw[show (match true::bs.drop (p+1) with|true::r=>Q.closeAt r 1 (p+1)|_=>none)=some q from g,show (match true::bs.drop (p+1) with|true::r=>(Q.closeAt r 1<|p+1).map λq=>(p,q)|_=>none)=some (p,q) from by show (Q.closeAt _ 1<|p+1).map _=_;rw[g];rfl];rfl
 refine(key _ λp hp=>gz.mp hp).trans<|congrArg (aam _)<|congrArg (List.filterMap · _)<|funext λp=>?_;cases bs.drop p with|nil=>rfl|cons b r=>cases b<;>rfl
end
section
theorem Sn:maK=Q.mates bsK:=KE bsK
theorem KF {α:Type}{m:List α}{z:α}:(aK m.length).zip m=(aK m.length).map λk=>(k,m.getD k z):=by refine Ku (by rw[aaD,aV,fb,Nat.min_self]) λi h1 h2=>?_;rw[aaE,aal,aan];rw[aV,fb] at h2;rw[ed,bA h2];rfl
noncomputable def brK:Q.Br:=Q.br bS b0
theorem Cm (f:Nat->Bool->Bool):(((aK mkK.length).zip mkK).filter λx=>f x.1 x.2.1).map (λx=>x.2.2)=((aK bsK.length).filter λk=>f k (bsK.getD k false)).map λk=>ckK.getD k 0:=by
 have e1:∀k,(mkK.getD k (false,0)).1=bsK.getD k false:=λk=>by rw[bsK,ed,ed,dN];cases mkK[k]?<;>rfl
 have e2:∀k,(mkK.getD k (false,0)).2=ckK.getD k 0:=λk=>by rw[ckK,ed,ed,dN];cases mkK[k]?<;>rfl
 rw[KF (z:=(false,0)),List.filter_map,fV,show bsK.length=mkK.length by rw[bsK,aV]];have e3:((λx:Nat×Bool×Nat=>f x.1 x.2.1)∘λk=>(k,mkK.getD k (false,0)))=λk=>f k (bsK.getD k false):=funext λk=>by show f k (mkK.getD k (false,0)).1=_;rw[e1]
 exact e3▸vZ λk _=>e2 k
theorem wN:brK.fore=faK true∧brK.2=faK false∧brK.spare=ac:=by
 have hm:=rY.symm;have hma:Q.mates ((Q.marks bS b0).map (·.1))=maK:=by rw[hm,Sn];rfl
 refine⟨?_,?_,?_⟩
 ·show (((aK (Q.marks bS b0).length).zip<|Q.marks bS b0).filter λx=>(Q.mates<|(Q.marks bS b0).map (·.1)).contains x.1&&x.2.1).map (λx=>x.2.2)=_;rw[hma,hm];apply(Cm λk b=>maK.contains k&&b).trans;rw[faK];congr 1;refine aao λk _=>?_;cases bsK.getD k false<;>cases maK.contains k<;>rfl
 ·show (((aK (Q.marks bS b0).length).zip<|Q.marks bS b0).filter λx=>(Q.mates<|(Q.marks bS b0).map (·.1)).contains x.1&& !x.2.1).map (λx=>x.2.2)=_;rw[hma,hm];apply(Cm λk b=>maK.contains k&& !b).trans;rw[faK];congr 1;refine aao λk _=>?_;cases bsK.getD k false<;>cases maK.contains k<;>rfl
 show (((aK (Q.marks bS b0).length).zip<|Q.marks bS b0).filter λx=> !(Q.mates<|(Q.marks bS b0).map (·.1)).contains x.1).map (λx=>x.2.2)=_;exact hma▸hm▸Cm λk b=> !maK.contains k
theorem eg:∀{xs:List Nat},Q.up xs=true->xs.Pairwise (·<·)
 |[],_=>.nil|_::_,h=>.cons (Q.up_cons h).2<|eg (Q.up_cons h).1
theorem my (E:Nat->Bool)(T:Nat):(Q.hrs E T).Pairwise (·<·):=List.pairwise_lt_range.filter _
structure S8:Prop where
 G:Q.Good (faK true) (faK false) ac
 k0:brK.k0<=ac.length
 six:∀x∈faK true++faK false++ac,x<6
 bits:∀t,t<6->bS.testBit t=Q.Ek (faK true) ac brK.k0 t∧b0.testBit t=Q.Lk (faK false) ac brK.k0 t
theorem ey:S8:=by obtain⟨a,b,c,e⟩:=Q.good_br<|Q.chk_all Hu HL;obtain⟨h1,h2,h3⟩:=wN;have h1:(Q.br bS b0).fore=faK true:=h1;have h2:(Q.br bS b0).2=faK false:=h2;have h3:(Q.br bS b0).spare=ac:=h3;rw[h1,h2,h3] at a c;rw[h3] at b;rw[h1,h2,h3] at e;exact⟨a,b,c,e⟩
theorem lr {xs:List Nat}(h:xs.Pairwise (·<·))(b:∀x∈xs,x<6):xs.length<=6:=by
 have key:∀{xs:List Nat}{n},xs.Pairwise (·<·)->(∀x∈xs,x<6∧n<=x)->xs.length<=6-n:=λ{xs n} p=>by induction p generalizing n with|nil=>exact λ_=>dQ _|cons h1 _ ih=>intro hb;have hx:=hb _<|.head _;exact Nat.le_sub_of_add_le<|fC (Nat.add_le_add_right (Nat.succ_le_succ<|ih λy m=>⟨(hb y<|.tail _ m).1,h1 y m⟩) n)<|ah [_,_,_] (.eq (.a .o<|.a .i .j) (.n 6)<|.le .u .i<|.g 1 0<|.le (.a (.a .o .j) .u)<|.n 6) rfl (Nat.sub_add_cancel hx.1) hx.2
 exact key (n:=0) h λx hx=>⟨b x hx,dQ _⟩
end
section
theorem lG {x:Nat}:∀{ns:List Nat},ns.Pairwise (·<·)->ns=ns.filter (λv=>decide (v<x))++ns.filter (λv=>!decide (v<x))
 |[],_=>rfl|n::ns,.cons h1 h2=>by
  by_cases q:n<x
  ·rw[sR,sR,if_pos<|decide_eq_true q,if_neg (by simp [q]),fM,<-lG h2]
  have e:∀y∈ns,¬y<x:=λy hy=>by have:=h1 y hy;exact ah [_,_,_] (.lt .o .i<|.c 1 0 (.no<|.lt .o .u)<|.g 1 0<|.no<|.lt .i .u) rfl this q
  rw[sR,sR,if_neg (by simp [q]),if_pos (by simp [q]),aac.mpr (λy hy=>by simp [e y hy]),aaj.mpr<|λy hy=>by simp;exact ah [_,_] (.c 1 0 (.no<|.lt .o .i)<|.g 1 0<|.le .i .o) rfl (e y hy)];rfl
theorem KH {r:Bool}{x:Nat}{ns:List Nat}(h:ns.Pairwise (·<·))(hx:x∉ns):i31 r x ns=ns.filter (λv=>decide (v<x))++x::ns.filter (λv=>!decide (v<x)):=by
 have e:i31 r x ns=dv (i03 r x) x ns:=rfl;rw[e];conv=>lhs;rw[lG (x:=x) h]
 refine kJ (λv hv=>?_)<|λv hv=>?_
 ·have:=of_decide_eq_true (Ca.mp hv).2;cases r
  ·show decide ((v:Int)<(x:Int))=true;exact decide_eq_true<|ah [_,_] (.lt .o .i<|.g 1 0<|.it (.c .o)<|.c .i) rfl this
  show (!decide ((x:Int)<(v:Int)))=true;rw[decide_eq_false<|by lia];rfl
 obtain⟨h1,h2⟩:=Ca.mp hv;have h2:¬v<x:=by simpa using h2
 have:v≠x:=λe=>hx<|e▸h1;cases r
 ·show decide ((v:Int)<(x:Int))=false;exact decide_eq_false<|ah [_,_] (.c 1 0 (.no<|.lt .o .i)<|.g 1 0<|.no<|.it (.c .o)<|.c .i) rfl h2
 show (!decide ((x:Int)<(v:Int)))=false;rw[decide_eq_true<|by lia];rfl
theorem II {r:Bool}{x:Nat}{ns:List Nat}(h:ns.Pairwise (·<·))(hx:x∉ns):(i31 r x ns).Pairwise (·<·)∧(i31 r x ns).Perm (x::ns):=by
 rw[KH h hx];refine⟨aaF.mpr ⟨h.filter _,.cons (λv hv=>?_)<|h.filter _,λa ha b hb=>?_⟩,?_⟩
 ·obtain⟨h1,h2⟩:=Ca.mp hv;have h2:¬v<x:=by simpa using h2
  have:v≠x:=λe=>hx<|e▸h1;lia
 ·have ha:=of_decide_eq_true (Ca.mp ha).2;rcases pO.mp hb with rfl|hb
  ·exact ha
  have:¬b<x:=by simpa using (Ca.mp hb).2
  exact ah [_,_,_] (.lt .o .i<|.c 1 0 (.no<|.lt .u .i)<|.g 1 0<|.lt .o .u) rfl ha this
 apply aaG.trans;rw[<-lG h]
noncomputable def dF (b:Bool):List Bool->List Nat->List Nat
 |c::bs,x::xs=>if c=b then x::dF b bs xs else dF b bs xs|_,_=>[]
theorem oC:∀(bs:List Bool)(s e l:List Nat),bs.length=s.length->s.Pairwise (·<·)->e.Pairwise (·<·)->l.Pairwise (·<·)->(∀x∈s,x∉e∧x∉l)->(dh bs s e l).1.Pairwise (·<·)∧(dh bs s e l).2.Pairwise (·<·)∧(dh bs s e l).1.Perm (e++dF true bs s)∧(dh bs s e l).2.Perm (l++dF false bs s)
 |[],s,e,l,_,_,he,hl,_=>by
  have:dh [] s e l=(e,l):=by cases s<;>rfl
  rw[this];have p0:∀b,dF b [] s=[]:=λb=>by cases s<;>rfl
  rw[p0,p0,dM,dM];exact⟨he,hl,.refl _,.refl _⟩
 |b::bs,[],e,l,h,_,_,_,_=>absurd h (by simp)|b::bs,x::xs,e,l,h,.cons h1 h2,he,hl,hm=>by
  have hx:=hm x<|.head _;have hq:bs.length=xs.length:=by simpa using h
  cases b with|true=>have:=II (r:=false) he hx.1;obtain⟨a1,a2,a3,a4⟩:=oC bs xs (i31 false x e) l hq h2 this.1 hl<|λy hy=>⟨λz=>(pO.mp<|this.2.mem_iff.mp z).elim (λe=>by have:=h1 y hy;lia) (hm y<|.tail _ hy).1,(hm y<|.tail _ hy).2⟩;exact⟨a1,a2,a3.trans<|(this.2.append_right _).trans aaG.symm,a4⟩|false=>have:=II (r:=true) hl hx.2;obtain⟨a1,a2,a3,a4⟩:=oC bs xs e (i31 true x l) hq h2 he this.1<|λy hy=>⟨(hm y<|.tail _ hy).1,λz=>(pO.mp<|this.2.mem_iff.mp z).elim (λe=>by have:=h1 y hy;lia) (hm y<|.tail _ hy).2⟩;exact⟨a1,a2,a3,a4.trans<|(this.2.append_right _).trans aaG.symm⟩
theorem wP:∀(k:Nat)(s:List Nat),k<=s.length->dF true (cD k false++cD (s.length-k) true) s=s.drop k∧dF false (cD k false++cD (s.length-k) true) s=s.take k
 |0,s,_=>by
  have:∀s,dF true (cD s.length true) s=s∧dF false (cD s.length true) s=[]:=λs=>by
   induction s with
   |nil=>exact⟨rfl,rfl⟩|cons x s ih=>
    refine⟨?_,?_⟩
    ·show x::_=_;rw[ih.1]
    show dF false (cD s.length true) s=_;exact ih.2
  exact this s
 |k+1,[],h=>absurd h (by simp)|k+1,x::s,h=>by have:=wP k s (by simpa using h);rw[show (x::s).length-(k+1)=s.length-k by simp,List.replicate_succ];exact⟨this.1,congrArg (x::·) this.2⟩
end
section
open Builtin Builtin.Str StrLaws
inductive UnQ:List Bool->List Nat->List Nat->Prop|nil:UnQ [] [] []|bs1:UnQ [] [92] [92]|qt:UnQ [] [34] [34]|sg {bs r t} (b:Bool) (c:Nat):UnQ bs r t->UnQ (b::bs) ((if b then 40 else 41)::92::c::r) ((if b then 40 else 41)::92::c::t)|es {bs r t}:UnQ bs r t->UnQ bs (92::41::r) (92::41::t)|q1 {bs r t} (k:Nat):k≠34->k≠92->UnQ bs r t->UnQ bs (34::k::34::r) t|q2 {bs r t}:UnQ bs r t->UnQ bs (34::92::34::41::34::r) t|q0 {bs r t}:UnQ bs r t->UnQ bs (34::34::r) t
theorem tS {x:Str}{st o p:Nat}{aE:List Str}:eK x ⟨st,some o,aE⟩ (p,dq)=⟨p+1,none,if st=o then aE else aE++[gD x (some (st:Int)) (some (o:Int))]⟩:=by unfold eK;rw[if_pos<|show d4 dq dq=true from rfl]
theorem KK {x:Str}{st o:Nat}{aE:List Str}(h:st<=o)(ho:o<=x.length):nt (if st=o then aE else aE++[gD x (some (st:Int)) (some (o:Int))])=nt aE++(x.cps.toList.drop st).take (o-st):=by
 by_cases q:st=o
 ·rw[if_pos q,q,fk,aar,dM]
 rw[if_neg q,ZE,ZD h ho]
theorem HM {xs:List Nat}{i s:Nat}(h:s<=i):xs.drop s=(xs.drop s).take (i-s)++xs.drop i:=by
 have:(xs.drop s).drop (i-s)=xs.drop i:=by rw[v7,show s+(i-s)=i by exact ah [_,_,_] (.c 0 1 (.le .i<|.a .u .o)<|.eq (.a .u .o) .i<|.c 0 0 (.le .o .i)<|.g 1 1<|.eq (.a .o .u) .i) rfl (fS _ _) (Nat.sub_add_cancel h) h]
 rw[<-this,E5]
theorem HN {x:Str}:∀{bs} {r t},UnQ bs r t->∀i s aE,x.cps.toList.drop i=r->s<=i->i<=x.length->∃s' o' lf,(gS i false r).foldl (eK x) ⟨s,none,aE⟩=⟨s',o',lf⟩∧s'<=x.length∧nt lf++x.cps.toList.drop s'=nt aE++(x.cps.toList.drop s).take (i-s)++t:=by
 have bJ:x.length=x.cps.toList.length:=v0.symm;have lt:∀{u r:List Nat} {i n:Nat},x.cps.toList.drop i=u++r->u.length=n->i<=x.length->i+n<=x.length:=λ{u r i n} h hn hi=>by have:=congrArg oG h;rw[jA,dJ,hn] at this;rw[bJ] at hi ⊢;exact ah [_,_,_,_,_] (.eq (.a .x .i) .o<|.c (-1) 0 (.eq .x<|.a .u .w)<|.c 0 0 (.le .i .o)<|.g 1 0<|.le (.a .i .u) .o) rfl (Nat.sub_add_cancel hi) this hi
 have uC:∀{r:List Nat} {o:Option Nat} (i s:Nat) (aE:List Str),x.cps.toList.drop i=r->s<=i->i<=x.length->∃s' o' lf,(⟨s,o,aE⟩:rT)=⟨s',o',lf⟩∧s'<=x.length∧nt lf++x.cps.toList.drop s'=nt aE++(x.cps.toList.drop s).take (i-s)++r:=λ{r o} i s aE hd hs hi=>⟨s,o,aE,rfl,by exact ah [_,_,_] (.le .o .i<|.le .i .u<|.g 1 0<|.le .o .u) rfl hs hi,by rw[eJ,<-hd,<-HM hs]⟩;have plain:∀{u r t:List Nat} {n:Nat},u.length=n->(∀(i s) aE,x.cps.toList.drop i=r->s<=i->i<=x.length->∃s' o' lf,(gS i false r).foldl (eK x) ⟨s,none,aE⟩=⟨s',o',lf⟩∧s'<=x.length∧nt lf++x.cps.toList.drop s'=nt aE++(x.cps.toList.drop s).take (i-s)++t)->
  (∀i s aE,(gS i false<|u++r).foldl (eK x) ⟨s,none,aE⟩=(gS (i+n) false r).foldl (eK x) ⟨s,none,aE⟩)->∀(i s) aE,x.cps.toList.drop i=u++r->s<=i->i<=x.length->∃s' o' lf,(gS i false<|u++r).foldl (eK x) ⟨s,none,aE⟩=⟨s',o',lf⟩∧s'<=x.length∧nt lf++x.cps.toList.drop s'=nt aE++(x.cps.toList.drop s).take (i-s)++(u++t):=by
  intro u r t n hn ih h i s aE hd hs hi;obtain⟨s',o',lf,h1,h2,h3⟩:=ih (i+n) s aE (ZG hd hn) (ah [_,_,_] (.le .o .i<|.g 1 0<|.le .o<|.a .i .u) rfl hs)<|lt hd hn hi;refine⟨s',o',lf,by rw[h,h1],h2,?_⟩;rw[h3,ZF hs hd hn,eJ,eJ,eJ]
 have Qe:∀{u r t:List Nat} {n:Nat},u.length=n->(∀(i s) aE,x.cps.toList.drop i=r->s<=i->i<=x.length->∃s' o' lf,(gS i false r).foldl (eK x) ⟨s,none,aE⟩=⟨s',o',lf⟩∧s'<=x.length∧nt lf++x.cps.toList.drop s'=nt aE++(x.cps.toList.drop s).take (i-s)++t)->
  (∀i s aE,(gS i false<|u++r).foldl (eK x) ⟨s,none,aE⟩=(gS (i+n) false r).foldl (eK x) ⟨i+n,none,if s=i then aE else aE++[gD x (some (s:Int))<|some (i:Int)]⟩)->∀(i s) aE,x.cps.toList.drop i=u++r->s<=i->i<=x.length->∃s' o' lf,(gS i false<|u++r).foldl (eK x) ⟨s,none,aE⟩=⟨s',o',lf⟩∧s'<=x.length∧nt lf++x.cps.toList.drop s'=nt aE++(x.cps.toList.drop s).take (i-s)++t:=by
  intro u r t n hn ih h i s aE hd hs hi;obtain⟨s',o',lf,h1,h2,h3⟩:=ih (i+n) (i+n) (if s=i then aE else aE++[gD x (some (s:Int))<|some (i:Int)]) (ZG hd hn) (aG _)<|lt hd hn hi;refine⟨s',o',lf,by rw[h,h1],h2,?_⟩;rw[h3,fk,aar,dM,KK hs hi]
 intro bs r t h;induction h with|nil=>exact uC|bs1=>exact uC|qt=>intro i s aE hd hs hi;exact uC i s aE hd hs hi|@sg bs r t b c h ih=>exact plain (u:=[if b then 40 else 41,92,c]) (n:=3) rfl ih λi s aE=>by cases b<;>(show abX _ _ (gS i false<|_::92::c::r)=_;rw[kO (by decide),Ep,fu,fu,BH<|Qb c];rfl)|@es bs r t h ih=>exact plain (u:=[92,41]) (n:=2) rfl ih λi s aE=>by show abX _ _ (gS i false<|92::41::r)=_;rw[Ep,fu,BH<|Qb 41]|@q1 bs r t k h1 h2 h ih=>exact Qe (u:=[34,k,34]) (n:=3) rfl ih λi s aE=>by show abX _ _ (gS i false<|34::k::34::r)=_;rw[kO (by decide),kO h2,kO (by decide),fu,fu,fu];show abX _ (eK x (eK x (eK x ⟨s,none,aE⟩ (i,dq)) _) (i+1+1,dq)) _=_;rw[Qc,BH<|amp h1,tS]|@q2 bs r t h ih=>exact Qe (u:=[34,92,34,41,34]) (n:=5) rfl ih λi s aE=>by show abX _ _ (gS i false<|34::92::34::41::34::r)=_;rw[kO (by decide),Ep,kO (by decide),kO (by decide),fu,fu,fu,fu];show abX _ (eK x (eK x (eK x (eK x ⟨s,none,aE⟩ (i,dq)) _) _) (i+1+2+1,dq)) _=_;rw[Qc,BH<|Qb 34,BI,tS]|@q0 bs r t h ih=>exact Qe (u:=[34,34]) (n:=2) rfl ih λi s aE=>by show abX _ _ (gS i false<|34::34::r)=_;rw[kO (by decide),kO (by decide),fu,fu];show abX _ (eK x (eK x ⟨s,none,aE⟩ (i,dq)) (i+1,dq)) _=_;rw[Qc,tS]
theorem KN {bs:List Bool}{r t:List Nat}(h:UnQ bs r t):34∈r∨r=t:=by induction h with|nil=>exact .inr rfl|bs1=>exact .inr rfl|qt=>exact .inr rfl|sg b c h ih=>exact ih.elim (λh=>.inl<|.tail _<|.tail _<|.tail _ h) λh=>.inr (by rw[h])|es h ih=>exact ih.elim (λh=>.inl<|.tail _<|.tail _ h) λh=>.inr (by rw[h])|q1 k h1 h2 h ih=>exact .inl (.head _)|q2 h ih=>exact .inl (.head _)|q0 h ih=>exact .inl<|.head _
theorem oD {p:Nat}:∀{l:List (Nat×Str)} {o:Int},j1 (l++[(p,m7)]) o=j1 l o
 |[],o=>by show j1 ((p,m7)::[]) o=_;rw[ZI rfl rfl]|(i,s)::l,o=>by show j1 ((i,s)::(l++[(p,m7)])) o=_;rw[Dx,Dx,oD,oD,oD]
set_option tactic.hygienic true in
theorem So:∀{bs} {r t},UnQ bs r t->∀(i o:Nat),cpB (j1 (gS i false t) (o:Int))=kL bs o:=by
 intro bs r t h;induction h with
 |nil=>intro i o;cases o<;>rfl|bs1=>intro i o;cases o<;>rfl|qt=>intro i o;rw[kO (by decide),ZI rfl rfl];cases o<;>rfl|sg b c h ih=>
  intro i o;cases b with
  |true=>rw[if_pos rfl,kO (by decide),Ep,amw,ZI rfl rfl];exact ih (i+1+2) (o+1)|false=>
   rw[if_neg fL];cases o with
   |zero=>rw[kO (by decide),show((0:Nat):Int)=0 from rfl,ZJ];rfl|succ o=>rw[kO (by decide),Ep,ZK,ZI rfl rfl];exact ih _ o
 |es h ih=>intro i o;rw[Ep,ZI rfl rfl];exact ih _ o|q1 k h1 h2 h ih=>exact ih|q2 h ih=>exact ih|q0 h ih=>exact ih
theorem KO {x:Str}{z:rT}:(kG x).foldl (eK x) z=(gS 0 false x.cps.toList).foldl (eK x) z:=by
 unfold kG;by_cases q:pf false x.cps.toList=true
 ·rw[if_pos q,aqS];show eK x _ (x.cps.toList.length-1,m7)=_;exact BH rfl
 rw[if_neg q,dM]
theorem PJ {y:Str}{o:Int}:j1 (kG y) o=j1 (gS 0 false y.cps.toList) o:=by
 unfold kG;by_cases q:pf false y.cps.toList=true
 ·rw[if_pos q,oD]
 rw[if_neg q,dM]
theorem wQ {bs:List Bool}{x:Str}{t:List Nat}(h:UnQ bs x.cps.toList t):m9 x=kL bs 0:=by
 have e:(j0 x).cps.toList=t:=by
  unfold j0;by_cases hq:ko dq x=true
  ·rw[if_pos hq,Ix];obtain⟨s,o,aE,h1,h2,h3⟩:=HN h 0 0 [] rfl (aG _) (dQ _);have e:pg x=⟨s,o,aE⟩:=by rw[pg,KO,h1]
   change nt (tE x)=t;have h4:nt aE++x.cps.toList.drop s=t:=h3;rw[tE,e];by_cases q:s<x.length
   ·rw[if_pos q,ZE,amo h2,h4]
   rw[if_neg q,<-h4,abp<|v0▸Q0 q,dM]
  rw[if_neg hq];exact(KN h).elim (λh=>absurd ((by apply(found_iff x dq).mpr;obtain⟨i,hi,e⟩:=pN.mp h;refine⟨i,by rw[show dq.length=1 from rfl];rw[v0] at hi;exact hi,?_⟩;rw[subAt_eq,show dq.length=1 from rfl];exact(take1_drop (c:=34)).mpr<|by rw[bA hi,e])) hq) id
 have c:=So h 0 0;rw[<-e,<-PJ] at c;rw[<-c];rfl
theorem HO {bs:List Bool}{r t:List Nat}(h:UnQ bs r t):∀j<6,∃t',UnQ bs ((iP.getD j "").cps.toList++r) t'
 |0,_=>⟨_,h⟩|1,_=>⟨_,.q1 41 (by decide) (by decide) h⟩|2,_=>⟨_,.q1 40 (by decide) (by decide) h⟩|3,_=>⟨_,.es h⟩|4,_=>⟨_,.q2 h⟩|5,_=>⟨_,.q0 h⟩|n+6,hn=>absurd hn<|ah [_,_] (.g 1 0<|.no<|.lt (.a .o .i) .i) rfl
theorem KQ {bs:List Bool}{r t:List Nat}{k:Nat}(h:UnQ bs r t):∃t',UnQ (bsK.getD k false::bs) ((unK k).cps.toList++r) t':=by
 have h1:UnQ (bsK.getD k false::bs) ((sgC (bsK.getD k false)++"\\"++fN bc (k%4)).cps.toList++r) ((if bsK.getD k false then 40 else 41)::92::gN (bc+k%4)::t):=by have:=UnQ.sg (bsK.getD k false) (gN<|bc+k%4) h;revert this;generalize bsK.getD k false=b;intro this;cases b<;>exact this
 have e:(unK k).cps.toList++r=(cond (k%3==phK) pcK "").cps.toList++((sgC (bsK.getD k false)++"\\"++fN bc (k%4)).cps.toList++r):=by unfold unK;simp only [vR,z3,eJ]
 rw[e];cases (k%3==phK) with|false=>exact⟨_,h1⟩|true=>show∃t',UnQ _ (pcK.cps.toList++_) t';rw[show pcK=iP.getD (aN 1/192%6) "" from gp];exact HO h1 _ (kg _<|by decide)
theorem o5 {r t:List Nat}(h:UnQ [] r t):∀ks:List Nat,∃t',UnQ (ks.map λk=>bsK.getD k false) ((gY "" (ks.map unK)).cps.toList++r) t'
 |[]=>⟨_,h⟩|k::ks=>by obtain⟨t',u⟩:=o5 h ks;obtain⟨t'',u'⟩:=KQ u;rw[Ix,eC,eC,eC,RW,eJ,<-Ix];exact⟨t'',u'⟩
theorem KR (p q:Nat):m9 (gY "" (jc unL p q))=kL (k9 bsK p q) 0:=by
 obtain⟨t,u⟩:=o5 .nil<|((aK bsK.length).drop p).take<|q+1-p;have e1:(((aK bsK.length).drop p).take<|q+1-p).map (λk=>bsK.getD k false)=k9 bsK p q:=by rw[oH,rn,ZN];rfl
 rw[e1,oH,rn,dM] at u;exact wQ u
theorem KT:m9 (gY "" unL++tlK)=kL bsK 0:=by
 have:∀j<3,∃r t,UnQ [] r t∧(tlL.getD j "").cps.toList=r:=λj hj=>match j,hj with
  |0,_=>⟨_,_,.nil,rfl⟩|1,_=>⟨_,_,.bs1,rfl⟩|2,_=>⟨_,_,.qt,rfl⟩|n+3,h=>absurd h<|ah [_,_] (.g 1 0<|.no<|.lt (.a .o .i) .i) rfl
 obtain⟨r,t,h,e⟩:=this (aN 2/576%3) (kg _<|by decide);obtain⟨t',u⟩:=o5 h<|aK bsK.length;rw[ZN,<-e] at u;apply wQ;rwa[vR,z3,show tlK=tlL.getD (aN 2/576%3) "" from gp]
theorem S9:H5 unL bsK tbK where
 ul:=by rw[unL,aV,fb]
 n:=cH
 ux:=λu hu=>fC (tG u hu) (by decide)
 ck:=λp q _ _=>KR p q
 ev:=λp q _ _=>Zg _
end
section
def P8:List Bool->Nat->Bool
 |[],o=>bT o 0|true::r,o=>P8 r (o+1)|false::_,0=>false|false::r,o+1=>P8 r o
theorem Cr:∀(w:List Bool) o,kL w o=P8 w o
 |[],_=>rfl|true::r,o=>Cr r (o+1)|false::_,0=>rfl|false::r,o+1=>Cr r o
def HQ (i:Nat):Bool:=(fc (8*i) 8).all λe=>(aK 64).all λl=>P8 ((Q.marks e l).map (·.1)) 0==(Q.br e l).spare.isEmpty
theorem Sp:HQ 0=true:=by decide +kernel
theorem Sq:HQ 1=true:=by decide +kernel
theorem Ss:HQ 2=true:=by decide +kernel
theorem Su:HQ 3=true:=by decide +kernel
theorem Sv:HQ 4=true:=by decide +kernel
theorem Sw:HQ 5=true:=by decide +kernel
theorem Sz:HQ 6=true:=by decide +kernel
theorem SA:HQ 7=true:=by decide +kernel
theorem HS:∀i,i<8->HQ i=true
 |0,_=>Sp|1,_=>Sq|2,_=>Ss|3,_=>Su|4,_=>Sv|5,_=>Sw|6,_=>Sz|7,_=>SA|n+8,h=>absurd h<|ah [_,_] (.g 1 0<|.no<|.lt (.a .o .i) .i) rfl
theorem Ta:m9 (gY "" unL++tlK)=ac.isEmpty:=by have he:=Hu;have h:=dI.mp (HS (bS/8)<|ah [_,_] (.le (.m 8 .i) .o<|.lt .o (.n 64)<|.g 8 0<|.lt .i<|.n 8) rfl (Nat.mul_div_le _ 8) he) bS<|aah.mpr ⟨by exact ah [_,_] (.le (.m 8 .i) .o<|.g 1 0<|.le (.m 8 .i) .o) rfl (Nat.mul_div_le _ 8),by exact ah [_,_] (.lt .o (.a (.m 8 .i)<|.n 8)<|.g 1 0<|.lt .o<|.a (.m 8 .i)<|.n 8) rfl (fD _ 8 rfl)⟩;have e3:(Q.br bS b0).spare=ac:=wN.2.2;rw[KT,Cr,bsK,rY,eq_of_beq<|dI.mp h b0<|gz.mpr HL,e3]
end
section
noncomputable def atH (h:Nat):List Nat:=cmO.filter λj=>hrK j==h
theorem tW:dP=(aK 6).flatMap λh=>(atH h).map λ_=>h:=by rw[dP,nj,fV,cL,aak];exact congrArg (aam · _)<|funext λh=>vZ λj hj=>eq_of_beq (Ca.mp hj).2
theorem KU:pC=(aK 6).flatMap λh=>(atH h).map (fN bc):=by rw[pC,nj,fV,cL,aak];rfl
theorem PK:∀b:Bool,∀i,i<6->∀h,h<6->d4 (bZ ((cQ (cond b "ABCDEF" "abcdef")).getD i "")) (bZ ((cQ "aBcDeF").getD h ""))=(i==h):=by decide +kernel
theorem Do {h:Nat}(hh:h<6):cmK h=(atH h).map (fN bc):=by rw[cmK,Ef,hsK,List.filter_map,fV];have e:((λp:Str×Str=>d4 (bZ p.1)<|bZ<|ltK h)∘λj=>(leK j,fN bc j))=λj=>hrK j==h:=funext λj=>PK (grB j) (hrK j) (vg j) h hh;rw[e];rfl
theorem o6 {α:Type}(c:Nat->List α):∀t,Q.ord c t=(aK t).flatMap c
 |0=>rfl|t+1=>by rw[Q.ord,o6 c t,abK,aag,aab,aaf,dM]
theorem DE {α β:Type}{f g:α->List β}{xs:List α}(h:∀x∈xs,f x=g x):xs.flatMap f=xs.flatMap g:=by rw[aaw,aaw];congr 1;exact vZ h
theorem KV:Q.ord cmK 6=pC:=by rw[o6,KU];exact DE λh hh=>Do<|gz.mp hh
theorem wT:∀x∈dP,x<6:=λx hx=>by rw[tW] at hx;obtain⟨h,hh,hx⟩:=aae.mp hx;obtain⟨j,_,rfl⟩:=cu.mp hx;exact gz.mp hh
theorem IJ (f:Nat->List Nat)(hf:∀h,∀x∈f h,x=h):∀n,((aK n).flatMap f).Pairwise (·<=·)
 |0=>.nil|n+1=>by
  rw[abK,aag,aab,aaf,dM];refine aaF.mpr ⟨IJ f hf n,?_,λa ha b hb=>?_⟩
  ·have key:∀xs:List Nat,(∀x∈xs,x=n)->xs.Pairwise (·<=·):=λxs=>by induction xs with|nil=>exact λ_=>.nil|cons x xs ih=>exact λh=>.cons (λy hy=>h x (.head _)▸h y (.tail _ hy)▸aG _)<|ih λy hy=>h y<|.tail _ hy
   exact key _<|hf n
  obtain⟨h,hh,ha⟩:=aae.mp ha;exact hf h a ha▸hf n b hb▸Ff (gz.mp hh)
theorem DH:dP.Pairwise (·<=·):=by exact tW▸IJ _ (λh x hx=>by obtain⟨j,_,rfl⟩:=cu.mp hx;rfl) 6
theorem wU (f:Nat->List Nat)(hf:∀h,∀x∈f h,x=h)(t:Nat):∀n,Q.less ((aK n).flatMap f) t=((aK (min n t)).flatMap f).length
 |0=>by rw[Nat.zero_min];rfl|n+1=>by
  rw[abK,aag,aab,aaf,dM];have ih:=wU f hf t n;unfold Q.less at ih ⊢;rw[aqP,dJ,ih];by_cases q:n<t
  ·rw[aaj.mpr (λx hx=>by rw[hf n x hx];exact decide_eq_true q),show min (n+1) t=n+1 by lia,show min n t=n by exact ah [_,_,_] (.le .u .o<|.c 0 (-1) (.eq .u .o)<|.c 0 0 (.lt .o .i)<|.g 1 1<|.eq .u .o) rfl (Nat.min_le_left _ _) (Nat.min_eq_left<|Nat.le_of_lt q) q,abK,aag,dJ,aab,aaf,dM]
  rw[aac.mpr (λx hx=>by rw[hf n x hx];simpa using q),show min (n+1) t=t by lia,show min n t=t by exact ah [_,_,_] (.le .u .i<|.c 0 (-1) (.eq .u .i)<|.c 0 0 (.no<|.lt .o .i)<|.g 1 1<|.eq .u .i) rfl (Nat.min_le_right _ _) (Nat.min_eq_right<|Nat.le_of_not_lt q) q];exact aaL _
theorem DI {t:Nat}(ht:t<=6):Q.A cmK t=Q.less dP t:=by
 rw[tW,wU _ (λh x hx=>by obtain⟨j,_,rfl⟩:=cu.mp hx;rfl),Q.A,o6,show min 6 t=t by exact ah [_,_,_] (.le .u .o<|.c 0 (-1) (.eq .u .o)<|.c 0 0 (.le .o .i)<|.g 1 1<|.eq .u .o) rfl (Nat.min_le_right _ _) (Nat.min_eq_right ht) ht];rw[DE λh hh=>Do<|sF (gz.mp hh) ht];have:∀ts:List Nat,(ts.flatMap λh=>(atH h).map<|fN bc).length=(ts.flatMap λh=>(atH h).map λ_=>h).length:=λts=>by induction ts with|nil=>rfl|cons x ts ih=>rw[aab,aab,dJ,dJ,ih,aV,aV]
 exact this _
theorem Tb:y7 cmK where
 x:=λt ht x hx=>by rw[Do ht] at hx;obtain⟨j,hj,rfl⟩:=cu.mp hx;refine⟨λe=>?_,Im<|kB j (Ca.mp hj).1⟩;have:=congrArg Fi e;rw[vc] at this;exact absurd this (by decide)
 n:=by rw[KV,jG];decide
theorem KY {A A':Nat->Nat}{E:Nat->Bool}:∀{t},(∀s,s<=t->A s=A' s)->Q.D1 A E t=Q.D1 A' E t
 |0,_=>rfl|t+1,h=>by show min _ _=min _ _;rw[KY<|λs hs=>h s<|ah [_,_,_] (.le .o .i<|.g 1 0<|.le .o<|.a .i .u) rfl hs,h (t+1)<|aG _]
theorem K0 {A A':Nat->Nat}{E L:Nat->Bool}{t:Nat}(h:∀s,s<=t->A s=A' s):Q.D2 A E L t=Q.D2 A' E L t:=by exact KY λs hs=>KY λr hr=>h r<|ah [_,_,_] (.le .o .i<|.le .i .u<|.g 1 0<|.le .o .u) rfl hr hs
theorem o7 (D:Nat->Nat):∀T,Q.lv D T=(aK T).filter λt=>decide (D t<D (t+1))
 |0=>rfl|T+1=>by
  rw[Q.lv,o7 D T,abK,aqP,sR,aat];by_cases q:D T<D (T+1)
  ·rw[if_pos q,if_pos<|decide_eq_true q]
  rw[if_neg q,if_neg<|by simpa using q]
theorem wV {A:Nat->Nat}{E L:Nat->Bool}(hA:∀t,A t<=A (t+1)):∀t,(Q.lv (Q.D2 A E L) t).length=Q.D2 A E L t
 |0=>rfl|t+1=>by
  rw[Q.lv,dJ,wV hA t];by_cases q:Q.D2 A E L t<Q.D2 A E L (t+1)
  ·rw[if_pos q];exact ah [_,_] (.lt .o .i<|.c 0 1 (.le .i<|.a .o .j)<|.g 1 1<|.eq (.a .o .j) .i) rfl q (Q.D2_one A E L t)
  rw[if_neg q];exact ah [_,_] (.le .o .i<|.c 0 1 (.no<|.lt .o .i)<|.g 1 1<|.eq (.a .o .k) .i) rfl (Q.D2_step (E:=E) (L:=L) hA t) q
end
section
theorem DJ:JQ=Q.D2 (Q.less dP) bS.testBit b0.testBit:=by rw[JQ,wp,wv]
theorem IK:lvK=Q.lv (Q.D2 (Q.less dP) bS.testBit b0.testBit) 6:=by rw[lvK,DJ,o7]
theorem Td:R0:=λt ht=>by
 have hE:∀b,b<=6->Q.less hY b=Q.cnt bS.testBit b:=λb hb=>jI▸Q.less_hrs _ hb;have hL:∀b,b<=6->Q.less ic b=Q.cnt b0.testBit b:=λb hb=>jK▸Q.less_hrs _ hb;have key:∀a b,a<=b->b<=t->lfZ dP hY ic a b t=(Q.sumAt (Q.less dP) bS.testBit b0.testBit t a b):=λa b oQ hbt=>by have c1:=Q.cnt_le bS.testBit oQ;have c2:=Q.cnt_le b0.testBit hbt;rw[lfZ,hE b<|ah [_,_] (.lt .o (.n 7)<|.le .i .o<|.g 1 0<|.le .i<|.n 6) rfl ht hbt,hE a<|ah [_,_,_] (.lt .o (.n 7)<|.le .i .o<|.le .u .i<|.g 1 0<|.le .u<|.n 6) rfl ht hbt oQ,hL t<|ah [_] (.lt .o (.n 7)<|.g 1 0<|.le .o<|.n 6) rfl ht,hL b<|ah [_,_] (.lt .o (.n 7)<|.le .i .o<|.g 1 0<|.le .i<|.n 6) rfl ht hbt,Q.sumAt];exact ah [_,_,_,_,_,_,_] (.le .i (.a .y .o)<|.le .w (.a (.v 6) .u)<|.c 0 1 (.eq (.a .y .o) .i)<|.c 0 1 (.eq (.a (.v 6) .u) .w)<|.c 0 0 (.le .o .i)<|.c 0 0 (.le .u .w)<|.g 1 1<|.ie (.s (.a (.s (.a (.c .x)<|.c .i)<|.c .o)<|.c .w)<|.c .u)<|.c<|.a (.a .x .y)<|.v 6) rfl (fS _ _) (fS _ _) (Nat.sub_add_cancel c1) (Nat.sub_add_cancel c2) c1 c2
 rw[DJ];refine⟨?_,λa b oQ hbt=>key a b oQ hbt▸EV.mpr (Q.D2_min_le (Q.less_zero dP) oQ hbt)⟩;obtain⟨a,b,oQ,hbt,e⟩:=Q.D2_min_at (Q.less_zero dP) t;exact⟨a,b,oQ,hbt,by rw[key a b oQ hbt,e]⟩
theorem DL {xs:List Nat}{E:Nat->Bool}(h:xs.Pairwise (·<·))(hE:∀x,xs.contains x=E x)(b:∀x∈xs,x<6):xs=Q.hrs E 6:=by
 have h1:=h.imp λh=>pQ h;have h2:=(my E 6).imp λh=>pQ h;have p:=(aaK h1 h2).mpr λa=>by rw[<-ap9,hE a];exact⟨λm=>Ca.mpr ⟨gz.mpr<|b a<|ap9.mp<|(hE a).trans m,m⟩,λm=>(Ca.mp m).2⟩
 exact p.eq_of_pairwise (λ_ _ _ _ h1 h2=>abh h1 h2) (BT h)<|BT<|my E 6
theorem o9 {α:Type}{xs:List α}{a b:Nat}(h:b<=a):(xs.take a).drop b++xs.drop a=xs.drop b:=by
 have:(xs.drop b).drop (a-b)=xs.drop a:=by rw[v7,show b+(a-b)=a by lia]
 rw[<-this,List.drop_take,E5]
theorem DM {c:Nat->List Str}{E L:Nat->Bool}:∀t,Q.gone c E L t=(aK (Q.D2 (Q.A c) E L t)).map λi=>((Q.lv (Q.D2 (Q.A c) E L) t).getD i 0,(Q.ord c t).getD i "")
 |0=>rfl|t+1=>by
  have hA:=Q.A_mono c;have l1:=wV (E:=E) (L:=L) hA t;have h1:=Q.D2_one (Q.A c) E L t;have h2:=Q.D2_step (E:=E) (L:=L) hA t;have h3:Q.D2 (Q.A c) E L t<=(Q.ord c t).length:=fC (Q.D2_le t)<|Q.D1_le (Q.A0 c) t;have h4:Q.D2 (Q.A c) E L (t+1)<=(Q.ord c<|t+1).length:=fC (Q.D2_le<|t+1)<|Q.D1_le (Q.A0 c)<|t+1;have jg:∀i,i<Q.D2 (Q.A c) E L t->∀xs ys,((Q.lv (Q.D2 (Q.A c) E L) t++xs).getD i 0,(Q.ord c t++ys).getD i "")=((Q.lv (Q.D2 (Q.A c) E L) t).getD i 0,(Q.ord c t).getD i ""):=λi hi xs ys=>by rw[ed,ed,d2<|Nat.lt_of_lt_of_eq hi l1.symm,d2<|Nat.lt_of_lt_of_le hi h3,ed,ed]
  rw[Q.gone,DM t];by_cases q:Q.D2 (Q.A c) E L t<Q.D2 (Q.A c) E L (t+1)
  ·have e:Q.D2 (Q.A c) E L (t+1)=Q.D2 (Q.A c) E L t+1:=Nat.le_antisymm h1 q;rw[if_pos q,e,abK,fU];have hg:(Q.ord c<|t+1)[Q.D2 (Q.A c) E L t]?=some ((Q.ord c<|t+1).getD (Q.D2 (Q.A c) E L t) ""):=by rw[ed,bA<|Nat.lt_of_lt_of_le q h4];rfl
   rw[hg];congr 1
   ·refine vZ λi hi=>?_;rw[Q.lv,Q.ord];exact (jg i (gz.mp hi) _ _).symm
   show [(t,_)]=[(_,_)];rw[Q.lv,if_pos q];congr 1;congr 1;rw[ed,dT<|Nat.le_of_eq l1,l1,fk];rfl
  rw[if_neg q,dM,show Q.D2 (Q.A c) E L (t+1)=Q.D2 (Q.A c) E L t from Nat.le_antisymm (Nat.le_of_not_lt q) h2];refine vZ λi hi=>?_;rw[Q.lv,Q.ord];exact (jg i (gz.mp hi) _ _).symm
end
section
theorem K4:ac.length<=6:=lr (eg ey.G.us) λx hx=>ey.six x<|f7.mpr<|.inr hx
theorem PN:(faK true).length<=6:=lr (eg ey.G.uf) λx hx=>ey.six x<|f7.mpr<|.inl<|f7.mpr<|.inl hx
theorem SN:(faK false).length<=6:=lr (eg ey.G.ua) λx hx=>ey.six x<|f7.mpr<|.inl<|f7.mpr<|.inr hx
theorem PP:∀x∈faK true,x<6:=λx hx=>ey.six x<|f7.mpr<|.inl<|f7.mpr<|.inl hx
theorem HU:∀x∈faK false,x<6:=λx hx=>ey.six x<|f7.mpr<|.inl<|f7.mpr<|.inr hx
theorem DN:∀x∈ac,x<6:=λx hx=>ey.six x<|f7.mpr<|.inr hx
theorem pa {xs ys zs:List Nat}(h:xs.Perm (ys++zs))(x:Nat):xs.contains x=(ys.contains x||zs.contains x):=by rw[aad,ap8,ap9,ap9,ap9,h.mem_iff,f7]
theorem PY {o1 o2:List Nat}{E L:Nat->Bool}(hE:∀x,o1.contains x=E x)(hL:∀x,o2.contains x=L x)(hv:Q.lv (Q.D2 (Q.less dP) E L) 6=lvK):g5 (ruZ cmK o1 o2 6).left=wl∧(ruZ cmK o1 o2 6).q2++(ruZ cmK o1 o2 6).q1=F3:=by
 have e6:Q.D2 (Q.A cmK) E L 6=lvK.length:=by rw[K0 λs hs=>DI hs,<-hv,wV<|Q.less_mono dP]
 have elv:Q.lv (Q.D2 (Q.A cmK) E L) 6=lvK:=by rw[<-hv,o7,o7];refine aao λt ht=>?_;have:=gz.mp ht;rw[K0 λs hs=>DI (by lia),K0 λs hs=>DI<|by lia]
 have r:ruZ cmK o1 o2 6=⟨(Q.ord cmK 6).drop<|Q.D1 (Q.A cmK) E 6,((Q.ord cmK 6).take<|Q.D1 (Q.A cmK) E 6).drop<|Q.D2 (Q.A cmK) E L 6,Q.gone cmK E L 6⟩:=by show Q.runS cmK o1.contains o2.contains 6=_;rw[funext hE,funext hL,Q.run_eq]
 rw[r];refine⟨?_,?_⟩
 ·show (Q.gone cmK E L 6).map _=_;rw[DM,fV,e6,elv,KV];rfl
 show ((Q.ord cmK 6).take _).drop _++(Q.ord cmK 6).drop _=_;rw[o9<|Q.D2_le 6,e6,KV];rfl
theorem Te:∀k,k<=ac.length->∃o1 o2,IF k o1 o2:=λk hk=>by
 have B:=ey;have hs:=eg B.G.us;have hl:(cD k false++cD (ac.length-k) true).length=ac.length:=by rw[dJ,Fm,Fm];exact ah [_,_,_] (.c 0 1 (.le .i<|.a .u .o)<|.eq (.a .u .o) .i<|.c 0 0 (.le .o .i)<|.g 1 1<|.eq (.a .o .u) .i) rfl (fS _ _) (Nat.sub_add_cancel hk) hk
 obtain⟨a1,a2,a3,a4⟩:=oC (cD k false++cD (ac.length-k) true) ac (faK true) (faK false) hl hs (eg B.G.uf) (eg B.G.ua)<|λx hx=>⟨B.G.nf x hx,B.G.na x hx⟩;obtain⟨p1,p2⟩:=wP k ac hk;rw[p1] at a3;rw[p2] at a4;generalize hd:dh (cD k false++cD (ac.length-k) true) ac (faK true) (faK false)=o at a1 a2 a3 a4;obtain⟨o1,o2⟩:=o;have hE:∀x,o1.contains x=Q.Ek (faK true) ac k x:=pa a3;have hL:∀x,o2.contains x=Q.Lk (faK false) ac k x:=pa a4;have q1:=DL a1 hE<|λx hx=>(f7.mp<|a3.mem_iff.mp hx).elim (PP x) λh=>DN x<|Sa h;obtain⟨_,_,e3⟩:=wN;obtain⟨e1,e2,_⟩:=wN;have W:=Q.weber Hu HL DH wT (by show k<=brK.spare.length;rwa[e3]);have W:Q.halfGo (Q.hrs (Q.Ek brK.fore brK.spare k) 6) (Q.hrs (Q.Lk brK.2 brK.spare k) 6) dP 0 0=Q.lv (Q.D2 (Q.less dP) bS.testBit b0.testBit) 6:=W;rw[e1,e3,show brK.2=faK false from e2,<-IK] at W;have V:=Q.half_leaves (E:=Q.Ek (faK true) ac k) (L:=Q.Lk (faK false) ac k) DH wT;rw[W] at V;obtain⟨r1,r2⟩:=PY hE hL V.symm;exact⟨o1,o2,{kn:=hk,n6:=fC K4 (by decide),f6:=fC PN (by decide),a6:=fC SN (by decide),de:=hd,s1:=a3,s2:=a4,p1:=a1,p2:=a2,r1:=r1,r2:=r2,ha:=by rwa[show o1=_ from q1,show o2=_ from (DL a2 hL<|λx hx=>(f7.mp<|a4.mem_iff.mp hx).elim (HU x) λh=>DN x<|B4 h)]}⟩
theorem SB:lvK.length<=4:=by rw[IK,wV<|Q.less_mono dP];apply fC<|fC (Q.D2_le 6)<|Q.D1_le (Q.less_zero dP) 6;exact oh▸abZ _ _
end
section
noncomputable def stQ (d:Nat)(b:Bool):Nat:=cond b (d+1) (d-1)
noncomputable def y8 (w:List Bool):Nat:=w.foldl stQ 0
noncomputable def DO:List Bool->Nat->Option Nat
 |[],d=>some d|true::r,d=>DO r (d+1)|false::_,0=>none|false::r,d+1=>DO r d
theorem pi:∀(w:List Bool) d,kL w d=true↔DO w d=some 0
 |[],d=>by show bT d 0=true↔some d=some 0;rw[Nat.beq_eq];exact⟨λh=>by rw[h],dE⟩|true::r,d=>pi r (d+1)|false::r,0=>⟨λh=>nB h,λh=>nomatch h⟩|false::r,d+1=>pi r d
theorem iO:∀(u v:List Bool) d,DO (u++v) d=(DO u d).bind (DO v)
 |[],v,d=>rfl|true::u,v,d=>iO u v (d+1)|false::u,v,0=>rfl|false::u,v,d+1=>iO u v d
theorem tX:∀{v:List Bool} {d m},DO v d=some m->∀e,v.foldl stQ (d+e)=m+e
 |[],d,m,h,e=>by obtain rfl:=dE h;rfl|true::r,d,m,h,e=>by have:=tX (v:=r) (d:=d+1) h e;rw[show d+1+e=d+e+1 by exact ah [_,_,_] (.g 1 1<|.eq (.a (.a .o .i) .u)<|.a (.a .o .u) .i) rfl] at this;exact this|false::r,0,m,h,e=>nomatch h|false::r,d+1,m,h,e=>by have:=tX (v:=r) (d:=d) h e;show r.foldl stQ (d+1+e-1)=_;rw[show d+1+e-1=d+e by lia];exact this
theorem DP {w:List Bool}:∀n,n<=w.length->∀m,m<=y8 (w.take n)->∃i,i<=n∧DO ((w.take n).drop i) 0=some m
 |0,_,m,hm=>by obtain rfl:m=0:=aas.mp hm;exact⟨0,aG _,rfl⟩|n+1,hn,m,hm=>by
  have et:w.take (n+1)=w.take n++[w[n]]:=by rw[aa2,bA<|by lia];rfl
  have el:(w.take n).length=n:=by rw[nG];lia
  have ih:=DP n<|ah [_,_,_] (.le (.a .o .i) .u<|.g 1 0<|.le .o .u) rfl hn;rw[y8,et,aqS] at hm;have hm:=hm;have dn:∀i,i<=n->(w.take<|n+1).drop i=(w.take n).drop i++[w[n]]:=λi hi=>by rw[et,aaQ<|by lia]
  by_cases m0:m=0
  ·subst m0;exact ⟨n+1,aG _,by rw[Fn<|by rw[nG];lia];rfl⟩
  cases hb:w[n] with|true=>rw[hb] at hm;have hm:m<=y8 (w.take n)+1:=hm;obtain⟨i,hi,e⟩:=ih (m-1) (by lia);refine⟨i,ah [_,_,_] (.le .o .i<|.g 1 0<|.le .o<|.a .i .u) rfl hi,?_⟩;rw[dn i hi,hb,iO,e];show some (m-1+1)=some m;rw[Nat.sub_add_cancel<|Nat.pos_of_ne_zero m0]|false=>rw[hb] at hm;have hm:m<=y8 (w.take n)-1:=hm;obtain⟨i,hi,e⟩:=ih (m+1) (by lia);refine⟨i,ah [_,_,_] (.le .o .i<|.g 1 0<|.le .o<|.a .i .u) rfl hi,?_⟩;rw[dn i hi,hb,iO,e];rfl
theorem wW {w:List Bool}{i k:Nat}(hk:k<w.length)(hi:i<=k):k9 w i k=(w.take k).drop i++[w[k]]:=by rw[k9,List.drop_take,Nat.succ_sub hi,aa2,sL,Nat.add_sub_of_le hi,bA hk];rfl
theorem HV {w:List Bool}{k:Nat}(hk:k<w.length):(∃i,i<k∧kL (k9 w i k) 0=true)↔w[k]=false∧0<y8 (w.take k):=by
 constructor
 ·intro ⟨i,hi,h⟩;rw[pi,wW hk (by lia),iO] at h;cases g:DO ((w.take k).drop i) 0 with
  |none=>rw[g] at h;nomatch h|some m=>
   rw[g] at h;have h:=h;cases hb:w[k] with
   |true=>rw[hb] at h;have:=h;exact absurd (dE this) (ah [_] (.g 1 0<|.no<|.eq (.a .o .j) .k) rfl)|false=>
    rw[hb] at h;refine⟨rfl,?_⟩
    match m,h,g with
    |0,h,_=>nomatch h|m+1,h,g=>have:=tX g<|((w.take k).take i).foldl stQ 0;rw[lq,<-aqS,E5] at this;rw[y8,this];exact ah [_,_] (.g 1 0<|.lt .k<|.a (.a .o .j) .i) rfl
 intro ⟨hb,hd⟩;obtain⟨i,hi,e⟩:=DP k (ah [_,_] (.lt .o .i<|.g 1 0<|.le .o .i) rfl hk) 1 hd;have hik:i<k:=by
  rcases abE hi with h|h
  ·exact h
  subst h;rw[Fn<|by rw[nG];lia] at e;exact absurd (dE e) (by decide)
 refine⟨i,hik,?_⟩;rw[pi,wW hk (by lia),hb,iO,e];rfl
end
section
theorem lK {b:Bool}{t:Nat}:∀{bs:List Bool}{s:List Nat},t∈dF b bs s↔(b,t)∈bs.zip s
 |[],s=>⟨λh=>by have e:dF b [] s=[]:=(by cases s<;>rfl);exact absurd (e▸h) (by simp),λh=>absurd h<|by simp⟩|c::bs,[]=>⟨λh=>absurd h (by show ¬t∈[];simp),λh=>absurd h<|by simp⟩|c::bs,x::s=>by
  rw[List.zip_cons_cons,pO,<-lK (bs:=bs)];by_cases q:c=b
  ·have e:dF b (c::bs) (x::s)=x::dF b bs s:=if_pos q;rw[e,pO];subst q;exact⟨λh=>h.elim (λh=>.inl<|by rw[h]) .inr,λh=>h.elim (λh=>.inl<|congrArg Prod.snd h) .inr⟩
  have e:dF b (c::bs) (x::s)=dF b bs s:=if_neg q;rw[e];exact⟨.inr,λh=>h.elim (λh=>absurd (congrArg Prod.fst h).symm q) id⟩
theorem wY {t:Nat}:∀{zp:List (Bool×Nat)},zp.Pairwise (λp q=>p.2<q.2)->zp.filter (λp=>decide (p.2<t+1))=zp.filter (λp=>decide (p.2<t))++zp.filter (λp=>p.2==t)
 |[],_=>rfl|p::zp,.cons h1 h2=>by
  have ih:=wY (t:=t) h2;by_cases q:p.2<t
  ·rw[sR,if_pos (decide_eq_true<|by lia),sR,if_pos<|decide_eq_true q,sR,if_neg (by simp;exact ah [_,_] (.lt .o .i<|.g (-1) 0<|.no<|.eq .o .i) rfl q),fM,ih]
  have n1:zp.filter (λp=>decide (p.2<t+1))=[]:=aac.mpr λa ha=>by have:=h1 a ha;simp;exact ah [_,_,_] (.lt .o .i<|.c 1 0 (.no<|.lt .o .u)<|.g 1 0<|.le (.a .u .j) .i) rfl this q
  have n2:zp.filter (λp=>decide (p.2<t))=[]:=aac.mpr λa ha=>by have:=h1 a ha;simp;exact ah [_,_,_] (.lt .o .i<|.c 1 0 (.no<|.lt .o .u)<|.g 1 0<|.le .u .i) rfl this q
  have n3:zp.filter (λp=>p.2==t)=[]:=aac.mpr λa ha=>by have:=h1 a ha;simp;exact ah [_,_,_] (.lt .o .i<|.c 1 0 (.no<|.lt .o .u)<|.g 1 0<|.no<|.eq .i .u) rfl this q
  rw[sR,sR,sR,n1,n2,n3,if_neg<|show ¬decide (p.2<t)=true by simpa using q];by_cases e:p.2=t
  ·rw[if_pos (decide_eq_true<|by lia),if_pos<|beq_iff_eq.mpr e];rfl
  rw[if_neg (by simp;lia),if_neg<|by simpa using e];rfl
theorem DQ {t:Nat}:∀{zp:List (Bool×Nat)},zp.Pairwise (λp q=>p.2<q.2)->zp.filter (λp=>p.2==t)=[]∨∃b,zp.filter (λp=>p.2==t)=[(b,t)]
 |[],_=>.inl rfl|p::zp,.cons h1 h2=>by
  rw[sR];by_cases e:p.2=t
  ·rw[if_pos<|beq_iff_eq.mpr e,show zp.filter (λp=>p.2==t)=[] from aac.mpr λa ha=>by simp;exact ah [_,_,_] (.lt .o .i<|.c (-1) 0 (.eq .o .u)<|.g 1 0<|.no<|.eq .i .u) rfl (h1 a ha) e];exact .inr ⟨p.1,by rw[<-e]⟩
  rw[if_neg<|by simpa using e];exact DQ h2
theorem wZ:∀{zp:List (Bool×Nat)}{k:Nat}{p:Bool×Nat},zp.Pairwise (λp q=>p.2<q.2)->zp[k]?=some p->zp.filter (λq=>decide (q.2<p.2))=zp.take k
 |[],k,p,_,h=>by simp at h|z::zp,0,p,.cons h1 h2,h=>by obtain rfl:=dE h;exact aac.mpr λa ha=>(pO.mp ha).elim (λe=>by rw[e];simp) (λha=>by simp;exact ah [_,_] (.lt .o .i<|.g 1 0<|.le .o .i) rfl (h1 a ha))|z::zp,k+1,p,.cons h1 h2,h=>by have h:=h;rw[sR,if_pos<|decide_eq_true<|h1 p<|c8 h,wZ h2 h,RV]
theorem IL {zp:List (Bool×Nat)}{P R:Nat->Bool}(hz:zp.Pairwise (λp q=>p.2<q.2))(hP:∀t,P t=true↔(true,t)∈zp)(hR:∀t,R t=true↔(false,t)∈zp):∀t,Q.op P R t=y8 ((zp.filter λp=>decide (p.2<t)).map (·.1))
 |0=>by rw[aac.mpr λa _=>by simp];rfl|t+1=>by
  have ih:=IL hz hP hR t;rw[wY hz,fU,y8,aqS];show _=abX stQ (y8 _) _;rw[<-ih];show(if P t then Q.op P R t+1 else if R t then Q.op P R t-1 else Q.op P R t)=_;have mm:∀b,(b,t)∈zp↔(b,t)∈zp.filter (λp=>p.2==t):=λb=>⟨λh=>Ca.mpr ⟨h,beq_self_eq_true _⟩,λh=>(Ca.mp h).1⟩;rcases DQ (t:=t) hz with e|⟨b,e⟩
  ·have n:∀b,¬(b,t)∈zp:=λb h=>by rw[mm b,e] at h;nomatch h
   rw[if_neg<|λh=>n _<|(hP t).mp h,if_neg<|λh=>n _<|(hR t).mp h,e];rfl
  have m:∀b',(b',t)∈zp↔b'=b:=λb'=>by rw[mm b',e,gV];exact⟨λh=>congrArg Prod.fst h,λh=>by rw[h]⟩
  rw[e];cases b with|true=>rw[if_pos<|(hP t).mpr<|(m true).mpr rfl];rfl|false=>rw[if_neg (λh=>absurd ((m true).mp<|(hP t).mp h)<|by decide),if_pos<|(hR t).mpr<|(m false).mpr rfl];rfl
theorem DU {P R:Nat->Bool}:∀t,(∀x,x<t->P x=false)->Q.op P R t=0
 |0,_=>rfl|t+1,h=>by
  show(if P t then Q.op P R t+1 else if R t then Q.op P R t-1 else Q.op P R t)=0;rw[DU t<|λx hx=>h x<|ah [_,_,_] (.lt .o .i<|.g 1 0<|.lt .o<|.a .i .u) rfl hx,if_neg<|by rw[h t<|ah [_] (.g 1 0<|.lt .o<|.a .o .j) rfl];exact λz=>nB z];by_cases q:R t=true
  ·rw[if_pos q]
  rw[if_neg q]
theorem w0:Q.crowd.Pairwise (·<=·):=by decide
theorem rZ:∀x∈Q.crowd,x<6:=by decide
end
section
theorem w3:∀t,t<6->bS.testBit t=Q.Ek (faK true) ac brK.k0 t∧b0.testBit t=Q.Lk (faK false) ac brK.k0 t:=ey.bits
theorem Lb:Q.halfGo hY ic Q.crowd 0 0=faK false:=by
 have B:=ey;have e1:hY=Q.hrs (λh=>Q.has (faK true) h||Q.has (ac.drop brK.k0) h) 6:=jI▸Q.hrs_congr λt ht=>(w3 t ht).1;have e2:ic=Q.hrs (λh=>Q.has (faK false) h||Q.has (ac.take brK.k0) h) 6:=jK▸Q.hrs_congr λt ht=>(w3 t ht).2;rw[e1,e2,Q.half_leaves w0 rZ];have sp:∀x∈ac.take brK.k0,∀y∈ac.drop brK.k0,x<y:=λx hx y hy=>by have h:=eg B.G.us;rw[<-E5 brK.k0 ac] at h;exact(aaF.mp h).2.2 x hx y hy
 have C:=(Q.crowd_eq B.G (λh hh=>⟨Sa<|Q.has_mem.mp hh,by rw[Q.not_has];exact λz=>J' _<|sp h z h<|Q.has_mem.mp hh⟩) (λh hh=>B4<|Q.has_mem.mp hh) 6<|aG _).2;rw[C];refine(DL (eg B.G.ua) (λx=>?_) HU).symm;show Q.has (faK false) x=_;cases hr:Q.has (ac.take brK.k0) x with
 |false=>rw[aay,Bool.or_false]|true=>
  rw[DU x λy hy=>?_]
  ·show _=(Q.has (faK false) x||(true&&false));rw[abC,Bool.or_false]
  rw[Q.not_has];exact λz=>by have:=sp x (Q.has_mem.mp hr) y z;exact ah [_,_] (.lt .o .i<|.lt .i .o<|.g 0 0 .f) rfl hy this
theorem DV {k:Nat}(hk:k<ac.length):(wdK.zip ac)[k]?=some (wdK[k]'(by rw[bW];exact hk),ac[k]):=by rw[bA (by rwa[aaD,bW,Nat.min_self]),aaE]
theorem IM:(wdK.zip ac).Pairwise (λp q=>p.2<q.2):=by have h:=eg ey.G.us;have e:(wdK.zip ac).map (·.2)=ac:=List.map_snd_zip<|bW▸aG _;rw[<-e] at h;exact List.pairwise_map.mp h
noncomputable def w7 (b:Bool)(h:Nat):Bool:=Q.has (dF b wdK ac) h
theorem mF {b:Bool}{h:Nat}:w7 b h=true↔(b,h)∈wdK.zip ac:=by rw[w7,Q.has_mem,lK]
theorem pn {b:Bool}{h:Nat}(m:(b,h)∈wdK.zip ac):∃k,∃hk:k<ac.length,(wdK[k]'(by rw[bW];exact hk))=b∧ac[k]=h:=by obtain⟨k,hk,e⟩:=pN.mp m;rw[aaD,bW,Nat.min_self] at hk;rw[aaE] at e;exact⟨k,hk,congrArg Prod.fst e,congrArg Prod.snd e⟩
theorem Lc {b c:Bool}{h:Nat}(m:(b,h)∈wdK.zip ac)(n:(c,h)∈wdK.zip ac):b=c:=by
 obtain⟨i,hi,e1,e2⟩:=pn m;obtain⟨j,hj,f1,f2⟩:=pn n;have hs:=List.pairwise_iff_getElem.mp<|eg ey.G.us;have:i=j:=by
  rcases Nat.lt_trichotomy i j with q|q|q
  ·have:=hs i j hi hj q;exact ah [_,_,_,_,_] (.c 1 1 (.lt .o .i)<|.c (-1) (-1) (.eq .o .u)<|.c 1 1 (.eq .i .u)<|.g 0 0<|.eq .w .x) rfl this e2 f2
  ·exact q
  have:=hs j i hj hi q;exact ah [_,_,_,_,_] (.c 1 1 (.lt .o .i)<|.c (-1) (-1) (.eq .o .u)<|.c 1 1 (.eq .i .u)<|.g 0 0<|.eq .w .x) rfl this f2 e2
 subst this;exact e1.symm.trans f1
theorem PZ {k:Nat}(hk:k<ac.length):Q.op (w7 true) (w7 false) ac[k]=y8 (wdK.take k):=by rw[IL IM (λt=>mF)<|λt=>mF,wZ IM<|DV hk,oH,List.map_fst_zip<|bW▸aG _]
theorem IN {k:Nat}(hk:k<ac.length):(!(moF k).isEmpty)=true↔(wdK[k]'(by rw[bW];exact hk))=false∧0<y8 (wdK.take k):=by
 rw[<-HV (by rwa[bW])];constructor
 ·intro h;cases e:moF k with|nil=>rw[e] at h;exact nB h|cons i r=>have:i∈moF k:=e▸.head _;obtain⟨h1,h2⟩:=Ca.mp this;rw[Zg] at h2;exact⟨i,gz.mp h1,h2⟩
 intro ⟨i,hi,h⟩;have:i∈moF k:=Ca.mpr ⟨gz.mpr hi,by rwa[Zg]⟩;cases e:moF k with|nil=>rw[e] at this;exact absurd this (by simp)|cons a r=>rfl
theorem DY {x:Nat}:x∈moK↔w7 false x=true∧0<Q.op (w7 true) (w7 false) x:=by
 have gd:∀k,(hk:k<ac.length)->ac.getD k 0=ac[k]:=λk hk=>by rw[ed,bA hk];rfl
 constructor
 ·intro h;obtain⟨k,hk,rfl⟩:=cu.mp h;obtain⟨h1,h2⟩:=Ca.mp hk;have h1:=gz.mp h1;obtain⟨a,b⟩:=(IN h1).mp h2;rw[gd k h1,PZ h1,mF];refine⟨?_,b⟩;have:=c8<|DV h1;rwa[a] at this
 intro ⟨h1,h2⟩;obtain⟨k,hk,e1,e2⟩:=pn<|mF.mp h1;rw[<-e2,PZ hk] at h2;exact cu.mpr ⟨k,Ca.mpr ⟨gz.mpr hk,(IN hk).mpr ⟨e1,h2⟩⟩,(gd k hk).trans e2⟩
theorem P1:moK.Nodup:=by
 have hs:=(eg ey.G.us).imp λh=>pQ h;have e:(aK ac.length).map (λk=>ac.getD k 0)=ac:=by refine Ku (by rw[aV,fb]) λi h1 h2=>?_;rw[aal,aan,ed,bA h2];rfl
 rw[<-e] at hs;exact List.Nodup.sublist (List.Sublist.map _ List.filter_sublist) hs
theorem Tf:∃w1 w2 ms,G2 w1 w2 ms:=by
 have B:=ey;obtain⟨a1,a2,a3,a4⟩:=oC wdK ac (faK true) (faK false) bW (eg B.G.us) (eg B.G.uf) (eg B.G.ua)<|λx hx=>⟨B.G.nf x hx,B.G.na x hx⟩;generalize hd:dh wdK ac (faK true) (faK false)=o at a1 a2 a3 a4;obtain⟨w1,w2⟩:=o;have a1:w1.Pairwise (·<·):=a1;have a2:w2.Pairwise (·<·):=a2;have ps:∀b x,x∈dF b wdK ac->x∈ac:=λb x hx=>by obtain⟨k,hk,_,e⟩:=pn<|lK.mp hx;rw[<-e];exact Rs hk
 have b1:∀x∈w1,x<6:=λx hx=>(f7.mp<|a3.mem_iff.mp hx).elim (PP x) λh=>DN x<|ps _ x h;have b2:∀x∈w2,x<6:=λx hx=>(f7.mp<|a4.mem_iff.mp hx).elim (HU x) λh=>DN x<|ps _ x h;have q1:w1=Q.hrs (λh=>Q.has (faK true) h||w7 true h) 6:=DL a1 (pa a3) b1;have q2:w2=Q.hrs (λh=>Q.has (faK false) h||w7 false h) 6:=DL a2 (pa a4) b2;have C:=(Q.crowd_eq (P:=w7 true) (R:=w7 false) B.G (λh hh=>⟨ps _ h<|Q.has_mem.mp hh,by
  cases g:w7 false h with
  |false=>rfl|true=>exact absurd (Lc (mF.mp hh)<|mF.mp g)<|by decide⟩) (λh hh=>ps _ h<|Q.has_mem.mp hh) 6<|aG _).2
 have V:=Q.half_leaves (E:=λh=>Q.has (faK true) h||w7 true h) (L:=λh=>Q.has (faK false) h||w7 false h) w0 rZ;rw[C,<-q1,<-q2] at V;have m6:∀x,x∈moK->x∈ac:=λx hx=>ps _ x<|Q.has_mem.mp (DY.mp hx).1;have nd:(faK false++moK).Nodup:=xz.mpr ⟨(eg B.G.ua).imp λh=>pQ h,P1,λa ha b hb e=>B.G.na b (m6 b hb)<|e▸ha⟩;refine⟨w1,w2,_,{n6:=K4,f6:=fC PN (by decide),a6:=fC SN (by decide),de:=hd,w1l:=fC (lr a1 b1) (by decide),w2l:=fC (lr a2 b2) (by decide),pE:=jI▸my _ _,pL:=jK▸my _ _,p1:=a1,p2:=a2,c0:=Lb,c1:=V,c2:=?_,c3:=BT (my _ _)}⟩;refine(aaK ((my _ 6).imp λh=>pQ h) nd).mpr λx=>?_;rw[f7,DY];constructor
 ·intro h;have:=(Ca.mp h).2;rcases ap8.mp this with h|h
  ·exact .inl<|Q.has_mem.mp h
  obtain⟨h1,h2⟩:=iR.mp h;exact .inr ⟨h1,Q.blt_iff.mp h2⟩
 intro h;rcases h with h|⟨h1,h2⟩
 ·exact Ca.mpr ⟨gz.mpr<|HU x h,ap8.mpr<|.inl<|Q.has_mem.mpr h⟩
 exact Ca.mpr ⟨gz.mpr<|DN x<|ps _ x<|Q.has_mem.mp h1,ap8.mpr<|.inr<|iR.mpr ⟨h1,Q.blt_iff.mpr h2⟩⟩
theorem P2:Hq:={mo:=S9,ck:=Ta,lf:=Td,lv4:=SB,ru:=Tb,n6:=K4,dl:=Te,en:=Tf}
end
section
variable {d:Nat}
abbrev cLW:aY:=da dLW.scope 0 none
def Ld:aq:=iL (g7 dLW.body 0)
def Eb:aq:=ew (match g7 dLW.body 2 with|.Return (some e) _=>e|_=>default) 0
noncomputable def DZ (L:ai):List ae:=[.frame [("script",.aH L)],.cell none,.cell none]
noncomputable def pr (L:ai)(zs:List Int)(c:Option CV):List ae:=[.frame [("script",.aH L)],.cell (some (.ab 4)),.cell c,.list ((zs.take 60).map CV.int),a0 (fq zs)]
noncomputable def pD:CV:=.cB [af 421,af 870,af 381,af 432,af 118,af 333]
noncomputable def Ec (rs:List Nat):List Nat:=(aK 6).map λk=>Ea.getD k 0+(r6 rs k).sum
section
variable {L:ai}{zs:List Int}
theorem D0 (GA:IA L zs)(hz:zs.length<=63):aI d cLW (dLW.body.take 1) (DZ L) .next (pr L zs none):=by
 have hs:=λe=>(show fF d e (.aH L) (.sl [(.none),(.int 60),(.none)]) (DZ L) (.ab (DZ L).length) ((DZ L)++[.list<|e7 (zs.map CV.int) none (some 60) none]) from λA own s x y q S ra rb=>by
  subst ra;obtain⟨o,vs,n,ho,hc,hd,hr⟩:=GA.bD;have hr:=hr own s.heap;obtain⟨sa,ss,rfl,_,_,wB,va,_,rfl,ra,vb,_,rfl,rb,vz,_,rfl,rz,jD⟩:=rb;subst jD;have hl:=aF.length hr;have hL:s.heap.IsList L vs.toArray:=⟨o,S.bj _ _ ho,hc,n,hd⟩;apply yt hL.typeIs abD.lookup;refine aql hL ⟨_,wB,rfl,rfl⟩ (AQ rfl ra) (AQ rfl rb) (AQ rfl rz) (by decide) ?_<|ig▸hl▸(by rw[aV];show _<=2^24;exact ah [_] (.le .o (.n 63)<|.g 1 0<|.le .o<|.n<|2^24) rfl hz);have fX:aF own s.heap (e7 (zs.map CV.int) none (some 60) none) (e7 vs none (some 60) none):=by unfold e7;exact hl▸GV hr _
  obtain⟨av,E,S',r'⟩:=S.newList fX;have e:Ru vs.toArray none (some 60) none=(e7 vs none (some 60) none).toArray:=by unfold Ru e7;simp
  exact e▸⟨av,E,S',r'⟩)
 rw[Hf,show((zs.map CV.int).drop<|eZ none (zs.map CV.int).length).take (i5 (some 60) (zs.map CV.int).length-eZ none (zs.map CV.int).length)=(zs.take 60).map CV.int by show z6 (nH _ (60:Nat)-0) (rq 0 _)=_;rw[uP,sQ,vY,<-List.take_take,B7,oH]] at hs;have iter:=dk (d:=d) (c:=cLW) (st:=DZ L) (sc:=[.c7 (.ab 3)<|λst=>st++[.list<|(zs.take 60).map CV.int]]) (e:=kZ Ld) (by rfl')<|am (hs _) aX;have E:lx d cLW Ld (DZ L) (.ab 4) (DZ L++[.list<|(zs.take 60).map CV.int]++[a0<|fq zs]):=by
  have eo:a0 (fq zs)=.list ((zs.take 60).map λz=>.int<|z.fmod 5040):=by rw[a0,fq,fV,fV];congr 1;refine vZ λz x=>?_;have:=aqK z (b:=5040) (by decide);show CV.int ((z.fmod 5040).toNat)=_;rw[Int.toNat_of_nonneg this]
  rw[eo];have b9:((DZ L++[ae.list<|(zs.take 60).map CV.int]).all λo=>o.lo 4)=true:=by
   have h:∀xs:List Int,CV.cV 4 (xs.map CV.int)=true:=λxs=>An.mpr λy hy=>by obtain⟨z,_,rfl⟩:=cu.mp hy;rfl
   show(_&&(_&&(_&&(CV.cV 4 ((zs.take 60).map CV.int)&&true))))=true;rw[h];rfl
  have C:=KB<|b31 (d:=d) (c:=cLW) (cl:=[]) (T:=DZ L++[.list<|(zs.take 60).map CV.int]) (st:=DZ L) (n:=4) (x:="number") (a:=.ab 3) (P:=λst=>st[3]?=some (.list<|(zs.take 60).map CV.int)) (xs:=zs.take 60) (λz=>.int<|z.fmod 5040) CV.int (elt:=ew Ld 0) (iter:=kZ Ld) (fJ:=0) (px:=AT (uL Ld).target) (pos:=AT Ld) (scope:=fH Ld) ⟨⟨by rfl',by rfl',by rfl',by rfl',by rfl'⟩,by rfl',iter,⟨rI 3 _⟩,λx=>rfl,rfl,by show 3<=4;decide,b9,by rw[aV,nG];lia⟩ λz hz acc du=>⟨dk (sc:=[]) (by rfl)<|am (show(5040:Int)≠0 by decide) aX,rfl⟩;exact C
 exact aW (sc:=[.c7 (.ab 4)<|λst=>st++[.list<|(zs.take 60).map CV.int]++[a0<|fq zs]]) (by rfl)<|am E aX
theorem D5:aI d cLW ((dLW.body.drop 1).take 1) (pr L zs none) .next (pr L zs (some pD)):=aW (sc:=[]) (by rfl)<|am (by decide:6<=cX) aX
theorem D9:((pr L zs (some pD)).all λo=>o.lo 5)=true:=by
 have h:∀xs:List Int,CV.cV 5 (xs.map CV.int)=true:=λxs=>An.mpr λy hy=>by obtain⟨z,_,rfl⟩:=cu.mp hy;rfl
 show(_&&(_&&(_&&(CV.cV 5 ((zs.take 60).map CV.int)&&((a0<|fq zs).lo 5&&true)))))=true;rw[h,k8];rfl
theorem LE {k:Nat}{acc:List CV}(hk:k<6)(du:CV.cV 5 acc=true):a8 d (cI cLW (fH Eb) 6 [("rests",1),("firsts",2)]) (ew Eb 0) (pr L zs (some pD)++[ae.list acc,ae.frame [("k",af k)]]) (af (Ea.getD k 0+(r6 (fq zs) k).sum)) (pr L zs (some pD)++[ae.list acc,ae.frame [("k",af k)]]):=by
 have g9:(r6 (fq zs) k).length<=100:=ak2 hk Pm;have hs:=λe=>Dd (d:=d) (e:=e) (st:=pr L zs (some pD)++[.list acc,.frame [("k",af k)]]) (k:=4) (xs:=(fq zs).map af) (a:=af k) (b:=.none) (z:=.int 6) (lo:=some k) (hi:=none) (step:=some 6) (by show some (a0 _)=_;rw[Pn]) rfl rfl rfl (by decide) (by rw[aV];have:=Pm (zs:=zs);show _<=2^24;exact ah [_] (.le .o (.n 60)<|.g 1 0<|.le .o<|.n<|2^24) rfl this);rw[akX,<-Pn] at hs;have aps:=apn (d:=d) (st:=pr L zs (some pD)++[.list acc,.frame [("k",af k)],a0<|r6 (fq zs) k]) (k:=7) rfl (ak0 akY) g9;have hb:Ea[k]?=some (Ea.getD k 0):=by rw[ed,bA<|by show k<6;exact hk];rfl
 have apt:∀st e,fF d e pD (af k) st (af<|Ea.getD k 0) st:=λst e=>afj (j:=k) ⟨by exact ah [_] (.g 1 0<|.il (.n<|-2^63)<|.c .o) rfl,by exact ah [_] (.lt .o (.n 6)<|.g 1 0<|.it (.c .o)<|.n<|2^63) rfl hk⟩ (rM hk) (by have:[af 421,af 870,af 381,af 432,af 118,af 333]=Ea.map af:=rfl;rw[this,dN,hb];rfl);have eS:e7 (fq zs) (some k) none (some 6)=r6 (fq zs) k:=rfl;rw[eS] at hs;generalize r6 (fq zs) k=sl at *;generalize Ea.getD k 0=b at *;have Gx:=dk (d:=d) (c:=cI cLW (fH Eb) 6 [("rests",1),("firsts",2)]) (e:=ew Eb 0) (v:=.int<|b+sl.sum) (st:=pr L zs (some pD)++[.list acc,.frame [("k",af k)]]) (ag:=(pr L zs (some pD)++[.list acc,.frame [("k",af k)]])++[a0 sl]) (sc:=[.val<|af b,.c7 (.ab 7)<|λst=>st++[a0 sl],.val<|.int sl.sum]) (by rfl)<|am aps<|am gP<|am (hs _)<|am (apt _ _) aX;have e3:((b:Int)+(sl.sum:Nat))=((b+sl.sum:Nat):Int):=by exact ah [_,_] (.g 1 1<|.ie (.a (.c .o)<|.c .i)<|.c<|.a .o .i) rfl
 rw[e3] at Gx;refine Gx.drop (aG _) ?_ rfl;apply cC<|Bl (by show 5<=7;decide) D9;show(CV.cV 7 acc&&_)=true;rw[CV.vh (by decide) acc du];rfl
theorem HW:a8 d cLW Eb (pr L zs (some pD)) (.ab 5) (pr L zs (some pD)++[a0 (Ec (fq zs))]):=by rw[show a0 (Ec<|fq zs)=.list ((aK 6).map λi=>af<|Ea.getD i 0+(r6 (fq zs) i).sum) by rw[Pn,Ec,fV];rfl];exact oJ<|b31 (xs:=aK 6) (λi=>af<|Ea.getD i 0+(r6 (fq zs) i).sum) af (elt:=ew Eb 0) (iter:=kZ Eb) (scope:=fH Eb) ⟨⟨by rfl',by rfl',by rfl',by rfl',by rfl'⟩,by rfl',dk (sc:=[.val<|.fW 0 6 1]) (by rfl')<|am afo<|am yn aX,mE 6 (by decide),λx=>trivial,rfl,aG _,D9,by decide⟩ λi hi acc du=>⟨LE (gz.mp hi) du,rfl⟩
theorem SD:jz X.K (.ref 340)=true:=iG (by kernel_rfl)
theorem LT (hP:∀{st:List ae} {k:Nat},st[k]?=some (a0 (Ec (fq zs)))->bk d (.aH 340) [.ab k] [] st (.bool true) st):aI d cLW (dLW.body.drop 2) (pr L zs (some pD)) (.ret (.bool true)) (pr L zs (some pD)++[a0 (Ec (fq zs))]):=by have LS:=HW (d:=d) (L:=L) (zs:=zs);have hp:=hP (st:=pr L zs (some pD)++[a0<|Ec<|fq zs]) (k:=5) rfl;generalize a0 (Ec<|fq zs)=so at *;exact aW (sc:=[.c7 (.ab 5)<|λst=>st++[so],.val<|.bool true]) (by rfl')<|am hp<|am (cK SD)<|am LS aX
end
theorem Tg:gu 345 dLW fLW:=iM (by kernel_rfl) (by kernel_rfl) (by decide +kernel)
theorem apP {L:ai}(GA:IA L e0.zs)(hz:e0.zs.length<=63):bk (d+14) (.aH 345) [.aH L] [] [] (.bool true) []:=by
 have B:aI (d+12) cLW dLW.body (DZ L) (.ret<|.bool true) (pr L e0.zs (some pD)++[a0<|Ec<|fq e0.zs]):=
  jY 1 (D0 (d:=d+12) GA hz) (jY 1 D5 (LT (d:=d+12) λhk=>by have e:sn=Ec (fq e0.zs):=gp;rw[<-e] at hk;exact KD P2 hk))
 have hb:db fLW [] [.aH L] [] [("script",.aH L)] []:=pe (λv1 S=>by kernel_rfl) gF;exact(Tg.code (tab:=none) (st:=[]) (aw:=[]) (ag:=[]) (g:=pr L e0.zs (some pD)++[a0<|Ec<|fq e0.zs]) hb (by kernel_rfl) (λq h=>by exact nS h) (by with_unfolding_all exact B) (.inl rfl) (aG _) rfl rfl).call
end
theorem L0 (k:e0.Ok):e0.Aj:=by
 have hP:X.P=ul.map (·.2):=by rw[Cx.P,Cy]
 have S:Sx [] [] e0.s:=⟨λb o e=>by rw[FR] at e;exact of_hideAll _ e,rfl,EX,λx h=>(nomatch h),λi o a h=>by simp at h,λq hq=>by rw[hP] at hq;obtain⟨r,hr,rfl⟩:=cu.mp hq;exact⟨#[],(k.hT r hr).2,trivial,λpos cv e=>nS e⟩,.of_eq k.hg,k.tk,acI k⟩;have GA:IA e0.Ai e0.zs:=⟨by obtain⟨o,e,hc,n,hd⟩:=k.hL;exact⟨o,e0.vs,n,FR▸ghost_get k.hT e (λq=>by rw[q] at hc;cases hc),hc,hd,λown h=>aa7 k.hI⟩⟩;have h:=apP GA k.hz callerA [] e0.s (.ref 345) [.ref e0.Ai] [] apQ S rfl ⟨_,_,rfl,rfl,rfl⟩ rfl;have eX:aQ X.prog X.w=aQ rW.prog e0.w:=by rfl'
 rw[Tr,eX] at h;refine bC h (λv s' h=>?_) λx x h=>h.elim;obtain⟨av,E,S',r⟩:=h;refine⟨r,⟨λb o e=>?_,λb o e=>?_⟩,E.os.os,S'.bare⟩
 ·by_cases hb:b∈X.P
  ·obtain⟨ps,e',_⟩:=S'.cU b hb;rw[hP] at hb;obtain⟨r,hr,rfl⟩:=cu.mp hb;have e2:=(k.hT r hr).2;rw[e] at e2;obtain rfl:=dE e2;exact .inr<|.inl ⟨((k.hT r hr).1.tab (k.hT r hr).2).isCodeTable,rfl,#[],ps,rfl,by rw[e'];simp⟩
  exact .inl<|E.bj b o e nofun hb
 by_cases hb:b∈X.P
 ·exact E.cU b hb o e
 exact⟨o,E.bj b o e nofun hb⟩
theorem hdL P:codeHdIn (kF P) 339 337=true:=by kernel_rfl
set_option tactic.hygienic true in
theorem SE {d:DefRec}{kwd:List (Str×aq)}(hn:d.name="law"):WalkX vwL TZ (XL vwL []) Le Lf rW d kwd (λf vs=>PySem.call f vs):=λw aT s₁ mg mb G Y fa o pm cd doc dV kV ho hd mh hD yI hg args asf as L Mr apX NG qY b9=>by
 rw[hn] at yI;clear hd mh hD ho
 wrow_args Mr apX NG qY b9;rename_i zs _ _ _ _ _ _ _ Ai vs _ hL _ _ _ hI _ hz _;obtain⟨KX,hT,QV⟩:=(show (kF w.params).In s₁.heap∧TabsAt ul s₁.heap∧0<aT.toks from by have KX:=vS (Frag.in_of (apS _)<|congrArg Prod.fst Y) L.keeps;have T0:=congrArg (λx=>x.2.1) Y;have QV:=lj<|congrArg (λx=>x.2.2) Y;exact⟨KX,zK.mpr ⟨⟨codeHd_of_K KX<|yY _,L.keeps _ _ (ab0 T0).1⟩,zK.mpr ⟨⟨codeHd_of_K KX<|hdL _,L.keeps _ _ (ab0 (ab0 T0).2).1⟩,λu h=>nomatch h⟩⟩,QV⟩);obtain rfl:fa=345:=by have:=mg_of KX G.T.g<|apU _;rw[yI] at this;cases this;rfl
 have h:um.Aj ⟨w,s₁,mg,mb,_,_,Ai,vs,zs⟩:=acH L0 _ ⟨hT,ghost_top hT G.T,ghost_K hT KX<|(by kernel_rfl),hL,hI,(by exact ah [_,_] (.c 1 0 (.no<|.it (.c .o)<|.c .i)<|.g 1 0<|.le .i .o) rfl hz),Nat.ne_of_gt<|sF QV<|X.script_toks L rfl,hg⟩;refine bC h (λv s' h=>?_) λx x h=>h.elim;obtain⟨rfl,h2,h3,h4⟩:=h;exact⟨.inl ⟨_,.bool true,[],rfl,λcls=>by kernel_rfl,.bool true,(by kernel_rfl),λx=>⟨EX,λx h=>(nomatch h)⟩⟩,h2,h3,h4⟩
theorem okL:(chainsOk vwL&&opensWell J8.row.prog&&(frees J8.row.toRowW&&J8.row.within.isEmpty))=true:=by kernel_rfl
theorem finL:J8.Holds:=by exact holds_law asi λsaid=>holds_openX Qa (λs e=>xl_of s (iR.mp e).1) XL.keeps rfl rfl rfl (λs e=>recFacts_of (iR.mp e).2) rfl said okL ⟨rfl,rfl,rfl,rfl,rfl,by decide +kernel⟩ ⟨[.list [.int 3,.int 1]],by decide +kernel,by decide +kernel⟩ (SE rfl)
end
end Mine.Internal
theorem PySem.Challenge.cw_tc0073_01_holds : PySem.Challenge.rw_tc0073_01.Holds := by
 exact Mine.Internal.finL
