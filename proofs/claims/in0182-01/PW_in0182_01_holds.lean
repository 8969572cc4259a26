import PyProof.Rows.All
import Wide.All
import OpenK.AllK
import Wide.FinOn
import Lean
import PySem.Challenge.RW_in0182_01
open PySem renaming wpAny_bind -> ag, wpAny -> aj, wpAny_pure -> am, model -> av, Expr -> aY, wpAny_mono -> ba, wpAny_holding -> cu, strValues -> cG, codeAny -> cM, Scope -> dg, cLine -> fO, pyNext -> fP, Program -> gf, World -> gh, wpAny_newObj_type -> gG, Result -> gH, wpAny_standAt -> gZ, sizeLine -> g5, plainId_quiet -> ii, codeAny_builtin -> ij, Comprehension -> ik, cellsFrom -> iC, isSubtype_type -> iD, FuncData -> i8, backTo -> jE, starEach -> kf, rawInt -> kg, assignEach -> kh, typeLookup_type -> kq, builtinLookup_eq_fast -> kt, wpAny_of_eq -> lm, wpAny_seqItems -> ln, argsOk -> lp, Model -> me, wpAny_rule -> mf, wpAny_call_entry -> mh, wpAny_field -> mi, strKind -> mM, truthy -> nN, isSubtype -> nO, entryFor -> nP, table -> nQ, seqItems? -> nR, wpAny_updateSeq -> nS, wpAny_letGo -> nT, behindInMarks -> ph, wpAny_load -> pi, codeAny_of_tree -> pj, richCompare -> pk, strKind_is -> pp, wpAny_tryCatch -> pq, wpAny_askSetting -> pr, assign -> qW, mainGlobals -> rF, execs -> rG, pyIter -> rH, foldedSetIterable -> rI, callWith -> rJ, pushCells -> rK, relabel -> rL, noteFrame -> rM, entryFor_of_tree -> rN, stored -> rQ, newTuple -> tI, letOwnedTupleGo -> tJ, wpAny_noted -> tK, keeperOf -> tL, wpAny_call -> tM, codeAny_mono -> tN, getItem -> tP, wpAny_callSpecial?_slot -> tQ, wpAny_typeOf -> tR, call_meets -> tS, codeAny_call_builtin -> tT, updateSeq -> tU, typeLookup -> tW, field -> tX, wpAny_setField -> tY, wpAny_setState_of -> tZ, Params -> wS, builtinsNs -> wT, isTrue -> wU, compareOp -> wV, spliced -> wX, wpAny_pyIter_list -> wY, bindArgs -> wZ, Keyword -> w0, arm_exec_Assign -> w5, sliceBounds -> w6, checkBuiltinCall -> w8, IsEnum -> xf, wpAny_point -> AB, markedBehindIn -> AC, arm_allTrue_cons -> AD, arm_eval_BoolOp -> AE, boolOp -> AF, newList -> AG, wpAny_execs_cons -> AH, arm_eval_Call_Name' -> AI, swapsWithSole -> AJ, closureFor -> AK, comprehension -> AL, compTurn -> AM, sliceRange -> AN, wpAny_truthy_bool -> AQ, valueAt -> AR, eqBool -> AT, IsPart -> AU, typeIs_str -> AW, dictSet -> A3, wpAny_specialOf -> A5, newExc -> A6, firstArgMember -> A7, wpAny_attempt -> A8, collect -> A9, setAdd -> Ba, setsByText -> Bb, setNext -> Bc, fieldsOf -> Be, bootBuiltins -> FE, wpAny_runOwn -> FF, evalArgs -> FG, methodCallForm -> FH, pushCells_keeps -> FI, assignAll -> FJ, theTreesLotGoes -> FK, firstIterPos -> FL, call_meetsIn -> FO, wpAny_isInstance -> FP, wpAny_loadPart -> FQ, wpAny_setEntries_of -> FR, unpackItems -> FS, without -> M0, wpAny_loadName_local -> N2, wpAny_loadName_cell -> N3, arm_eval_Subscript -> N5, wpAny_execs_nil -> N6, arm_exec_Break -> N7, arm_assign_Tuple -> N8, newFunctionEnv -> N9, wpAny_tests_nil -> Oa, wpAny_truthy_list -> Ob, wpAny_sequenceKey -> Od, wpAny_getItem_list_slice -> Oe, call_function_tree -> Of, richCompare_meets_room -> Og, wpAny_updatePart -> Oh, notIterableAtAll -> Oi, wpAny_Try_except -> Oj, checkBoundCall -> Ok, entryFor_alias -> Ol, wpAny_pyIter_slot -> Om, setAddHashedIn -> On, wpAny_setEpoch_of -> Oo
open _root_.Nat renaming le_trans -> ah, le_refl -> aq, le_of_eq -> aE, add_le_add -> aF, le_of_lt -> bk, le_add_right -> bK, not_lt -> bQ, zero_le -> bW, ne_of_lt -> b5, succ_le_succ -> cr, lt_of_lt_of_le -> dT, le_of_lt_succ -> dU, le_of_not_lt -> d8, mul_le_mul_left -> fe, add_le_add_left -> fH, le_antisymm -> fJ, sub_le -> gb, add_right_comm -> gC, le_add_right_of_le -> gE, ne_of_gt -> gF, zero_add -> i0, min_eq_left -> i7, casesOn -> jv, le_succ -> jD, beq -> ke, lt_irrefl -> lc, le_of_ble_eq_true -> lY, add_le_add_right -> mL, add_comm -> nF, succ -> nG, lt_of_sub_eq_succ -> nK, not_succ_le_zero -> nM, le_of_sub_eq_zero -> oY, pred -> pb, add_assoc -> qS, not_lt_zero -> qX, ne_of_beq_eq_false -> qZ, min_le_right -> rf, not_lt_of_le -> ri, pos_of_ne_zero -> rB, lt_of_succ_lt_succ -> tq, sub_self -> tw, succ_ne_zero -> tx, add_sub_cancel' -> tF, ble -> wo, add_zero -> wu, le_of_succ_le -> ww, lt_succ_of_lt -> wx, not_le_of_lt -> wB, gt_of_not_le -> wC, le_add_left_of_le -> wD, add_sub_cancel_left -> wF, succ_ne_self -> wG, sub_add_cancel -> wO, le_add_left -> zF, lt_of_le_of_lt -> zJ, sub_zero -> z8, succ_pos -> Ag, mul_le_mul_right -> Ao, sub_pos_of_lt -> Aq, testBit_lt_two_pow -> Au, lt_of_le_of_ne -> Av, sub_eq_zero_of_le -> EP, add_sub_cancel -> E0, sub_one_lt -> E2, add -> Fk, min_eq_right -> Fn, pow_succ -> Fs, pow_le_pow_right -> Ft, succ_add_eq_add_succ -> Fw, lt_trans -> Fx, xor_comm -> FC, lt_trichotomy -> LL, lt_succ_self -> LZ, lt_or_ge -> Md, zero_lt_of_lt -> Mu, sub_sub_self -> Mw, le_sub_one_of_lt -> Mx, min_le_left -> MA, le_of_succ_le_succ -> Nv, mul_two -> NE, testBit_and -> NG, and_le_left -> NH, sub_lt -> NI, max_eq_right -> NK, max_eq_left -> NL, lt_add_right -> NM
open _root_.List renaming mem_cons_self -> aG, length_map -> aK, mem_cons_of_mem -> aL, range -> bn, mem_map -> bo, mem_cons -> bu, length_append -> bx, length_cons -> bC, append_assoc -> bD, casesOn -> bI, mem_singleton -> bM, map_cons -> bX, length -> b9, map_map -> ca, map_append -> cf, forall_mem_cons -> ct, foldl_cons -> cB, mem_append -> cU, append_nil -> c9, mem_range -> dc, size_toArray -> dE, dropLast -> dG, lookup_cons -> dW, mem_filter -> d9, getElem?_eq_some_iff -> ei, map_congr_left -> eq, getElem?_eq_getElem -> eE, not_mem_nil -> eQ, length_singleton -> eR, mem_map_of_mem -> ft, length_nil -> fu, nodup_cons -> fM, getElem?_map -> ga, filter_cons_of_neg -> gc, length_range -> iy, filter_cons_of_pos -> iA, getD_eq_getElem?_getD -> iB, length_take -> i5, isEmpty_iff -> i6, nodup_append -> jw, drop_of_length_le -> jA, drop_eq_getElem_cons -> jB, replicate -> j8, getElem?_append_left -> lf, mem_append_left -> lh, length_filter_le -> lj, mem_of_getElem? -> lZ, length_eq_zero_iff -> l6, take_of_length_le -> l9, mem_append_right -> md, getElem?_set_ne -> mN, drop_zero -> nJ, mem_filterMap -> oX, getElem?_toArray -> pa, filter_cons -> pe, nil_append -> pf, range' -> pg, getElem_of_mem -> qT, getElem?_eq_none -> qV, any_eq_true -> re, any_cons -> rp, filter_append -> rA, nodup_nil -> rC, dropLast_concat -> rD, mem_flatMap -> rE, length_drop -> tv, getLast?_eq_some_getLast -> tA, getElem?_set_self -> wr, getElem?_drop -> wt, map -> wv, range_succ_eq_map -> wz, take_length -> wH, getElem?_append_right -> wJ, map_take -> wK, getElem_mem -> wL, foldl_append -> wM, filter_congr -> wN, Nodup -> wP, pairwise_map -> wQ, filter_eq_nil_iff -> wR, drop_drop -> zN, all_cons -> zO, forIn_cons -> zP, find?_cons -> zT, contains_iff_mem -> zU, take_succ_cons -> zV, length_reverse -> z7, dropLast_eq_take -> Ac, set_append_right -> Ah, map_dropLast -> An, dropLast_subset -> Ar, length_set -> Aw, filter_map -> Ax, prefix_iff_eq_take -> Ay, foldr_cons -> Az, length_dropLast -> AA, lookup -> Eu, pairwise_cons -> EA, forIn_nil -> EB, replicate_succ -> EE, filterMap_cons_some -> EM, filterMap_cons_none -> EN, map_id -> EY, take_zero -> E1, forIn_toArray -> E5, all_eq_true -> Fb, cons_append -> Fj, length_pos_iff -> Fo, take_left -> Fp, range_succ -> Fq, nodup_range -> Fu, range_eq_range' -> Fv, map_eq_nil_iff -> Fy, filter_nil -> Fz, getLast?_concat -> FA, pairwise_append -> FB, getElem_inj -> FD, pairwise_iff_getElem -> LM, getElem?_range -> LV, filterMap_cons -> LW, toArray_inj -> L3, all_map -> L4, any_eq_false -> Ma, lookup_eq_none_iff -> Mb, getElem?_eq_none_iff -> Mh, reverse_append -> Mq, reverse_reverse -> Mr, take_append_of_le_length -> Ms, getElem_reverse -> Mv, getLast?_eq_getElem? -> MG, set_getElem_self -> MK, mem_of_find?_eq_some -> MR, find?_some -> MU, drop -> M6, drop_nil -> M7, map_fst_zip -> Nm, sum_cons -> Nn, set_set -> No, foldl -> Nt, not_lt -> Nu, filter_eq_self -> Nw, mem_of_getLast? -> Nx, head?_reverse -> Ny, getLast_mem -> Nz, getLast?_append -> NA, getLast?_cons -> NB, reverse_cons -> NC, sum_append -> ND, range'_succ -> NF, pairwise_lt_range -> NJ, pairwise_singleton -> NS, flatMap_cons -> NU, take_prefix -> NV, dropLast_prefix -> NW, map_singleton -> NX, dropLast_nil -> NZ
open _root_.Int renaming le_trans -> bH, natCast_nonneg -> dw, fdiv -> j6, fmod -> j7, toNat_natCast -> j9, le_of_eq -> lg, lt_of_le_of_lt -> q0, le_of_lt -> rc, natCast_sub -> rg, ofNat_le -> tf, le_refl -> tB, add_zero -> tE, neg_le_neg -> tG, ofNat_lt -> zG, natCast_add -> zH, ediv_one -> zW, toNat -> zX, add_comm -> El, add_assoc -> Eo, sub_sub -> Ep, toNat_of_nonneg -> Er, lt_of_lt_of_le -> EH, add_sub_cancel -> EO, one_mul -> EQ, add_nonneg -> Fm, add_neg_cancel_right -> LK, ne_of_gt -> L8, toNat_sub -> Mg, not_lt_of_ge -> Mi, toNat_lt -> Mj, lt_of_not_ge -> Mk, fdiv_nonneg -> Np, fdiv_eq_ediv_of_nonneg -> Nq, le_add_of_nonneg_right -> NN, add_le_add_right -> NO, add_le_add -> NP, neg_add -> NQ, sub_le_self -> NR, le_sub_right_of_add_le -> NY
open _root_.Ne renaming symm -> bV
open PySem.Heap renaming get?_push_size -> co, lt_size -> cF, get?_push_of_some -> du, size_push -> dS, SameBut -> fK, get?_update_self -> gY, get?_update_other -> jC, ExtBut -> mO, size_after_update -> zI
open _root_.Or renaming elim -> cT
open _root_.And renaming intro -> cV
open _root_.Option renaming casesOn -> dF, map_eq_some_iff -> fN, isSome_iff_exists -> oZ, bind_some -> rq, bind_eq_some_iff -> tm, elim_some -> tC, elim_none -> Ap, none -> En, getD_some -> Ew, or_eq_some_iff -> EI, map_eq_none_iff -> Fa, isNone_iff_eq_none -> M5
open _root_.Bool renaming casesOn -> dN, false_eq_true -> eG, and_eq_true -> ie, and_eq_true_iff -> i3, eq_iff_iff -> i4, not_eq_true' -> mP, and_false -> qY, noConfusion -> rz, or_eq_true -> tu, false_ne_true -> zQ, or_eq_false_iff -> zS, true_and -> Ey, or_false -> Ez, not_eq_true -> E8, not_false -> LX, false_or -> MN
open PySem.NameKind renaming cell -> eF, free -> fg, casesOn -> Fc
open PySem.W renaming kms_lo -> eH, kms_hi -> jF, findIn -> ki, specialIn -> rO, plainGet_of -> rP, plainGet -> tV, takesIn -> w9, plainOver -> xa, takerIn -> xb, hasDictIn -> xc, isClsIn -> AX, typeIn -> AY, lookIn_dict -> AZ, lookIn -> A0, looks_field -> A2, methodObj -> A4
open PySem.Expr renaming casesOn -> fL, Name -> Nh
open PySem.Around renaming under_plainId -> iz, under_of_weight -> Et, deeper -> LP
open PySem.Builtin.Range renaming rangeSize -> jx, small -> th, rangeFitsLong -> Nr
open _root_.Eq renaming symm -> jy, trans -> tj
open _root_.Option.some renaming inj -> l5
open PySem.Str renaming ofString -> l8, length -> L6
open PySem.Obj renaming mapSeq -> ma, data_mapFields -> tz, mapFields -> Aj, isFreed_of_fields -> Ak, putSet -> Fh, putName -> MP, isFreed_of_dict -> MX, data_mapDict -> MY, data_mapDictKeys -> MZ
open PySem.Heap.SameBut renaming update -> mc, refl -> Ae0
open PySem.Value renaming type -> nH, none -> nL, ref -> rm, casesOn -> Ai, builtin -> Ff
open PySem.Challenge renaming rw_in0182_01 -> oW, pw_in0182_01 -> Em
open PySem.SeqAt renaming EqAt -> o9, RcAt -> wA, RcNeAt -> L9
open PySem.Env renaming kindOf -> qU
open PySem.F renaming plain_min_loop -> rn, plain_max_loop -> ro, slot_str_split -> Ab, plain_extend_loop -> Am, entry_str_split -> E3, args_str_split_2 -> E4, entry_min_loop -> E6, entry_max_loop -> E7, called_tuple -> Fg, slot_set_iter -> Fi, slot_tuple_eq -> Mc, slot_str_join -> Mz, slot_list_clear -> MH, slot_list_extend -> MI, slot_dict_get -> MJ, slot_dict_values -> ML, slot_dict_setitem -> M1, slot_dict_delitem -> M2, entry_extend_loop -> Nb, plain_list_iadd -> Nf, slot_set_add -> Ni, entry_set_add -> Nj, args_set_add_2 -> Nk
open _root_.ForInStep renaming yield -> ti
open PyProof.Rows renaming wpAny_operate' -> tH, wpAny_release' -> wW, tail_any -> FM, slot_tuple_getitem -> FN, lt_int -> Me, gt_int -> Mf, slicePart_none -> Oc, truthy_int -> Ads, truthy_tuple -> Adt, add_int -> Adu, sub_int -> Adv, add_str -> Adw, le_int -> Ad6, ge_int -> Ad7, is_none_gen -> Ad8, stripBy_eq -> Aee, len_str -> Aef, len_tuple -> Aeg
open PySem.PyData renaming keyHash -> wq
open PySem.Builtin renaming bitXor -> wy, bitAnd -> zR
open _root_.Array renaming replicate -> wE, getElem?_eq_none -> Ad, length_toList -> ET, any_toList -> MQ, getElem?_append_left -> M8
open _root_.List.cons renaming inj -> wI
open PySem.BoolOp renaming Or -> zK, And -> zL, casesOn -> M4
open PySem.Flow renaming casesOn -> zM, next -> EC, ret -> EW
open PySem.Builtin.Tuple renaming tupleExact -> zY, tupleCompareSizes -> Ad4, tupleItemsOf -> Aeb
open PySem.Txt renaming split -> zZ, slice -> ER, startswith -> EZ, endswith -> Mo, rstripChars -> Mp
open PySem.StrLaws renaming subAt_eq -> z6, At -> Mt, glued_eq_join -> My
open PySem.Builtin.Str renaming partsBetween -> z9, occurrences -> Aa, strKind -> MD, strSliceIndices -> Ad9
open PySem.Walks renaming list -> Ae
open PySem.Builtin.Builtins renaming bindParams -> Af, unionMembers -> Aen
open PySem.SeqAt.EqAt renaming str_str -> ED, same -> L5
open PySem.Builtin.Int renaming intBits -> EF
open PyProof renaming noPylong_small -> EG
open PySem.AutoSeq1 renaming wpAny_loadPart' -> EJ, sub_list_list -> MM, list_clear_list_0 -> Aek, list_extend_list_list_0 -> Ael
open _root_.Prod renaming fst -> EK, snd -> EL
open PySem.Builtin.Slice renaming slicePlaces -> ES, sliceAdjust -> Ml, slicePartIndex -> Aea, sliceApplied -> Aec, sliceFields -> Aed
open PySem.Fin renaming done -> EU
open PySem.Heap.IsSliceOf renaming new -> EX
open PySem.W.KF renaming slot_mset -> E9
open PySem.Data renaming casesOn -> Fe
open _root_.Classical renaming choose_spec -> LN
open _root_.NeZero renaming ne -> LO
open PySem.Calls renaming Name_function_global -> LQ, loadGlobal_global -> LR, loadGlobal_builtin -> LS, spliced_cons -> LU, evalArgs_plain -> LY, call_len_list -> Aeh, call_function_entry -> Aem
open PySem.Operator renaming casesOn -> L7
open _root_.Int.ofNat renaming inj -> Mm
open PySem.Shared renaming TypeIs -> Mn
open PySem.Code renaming weight -> MV, cUnits -> MW
open PySem.Stmt renaming casesOn -> M3
open _root_.String renaming splitOn -> M9, splitOnAux -> Na
open PySem.Builtin.List renaming listSameRef -> Nc, listExtendWith -> Ng, listLengthHint -> Aey, listTouch -> Aez
open PySem.Builtin.Frozenset renaming sizeOf -> Nl
open _root_.Nat.succ renaming inj -> NT
open PySem.UnaryOp renaming casesOn -> Adq
open _root_.List.Pairwise renaming nil -> Adr, of_map -> Aev, filter -> Ae1, imp_of_mem -> Ae2
open PySem.SeqAt.RcNeAt renaming none_none -> Adx, bool_bool -> Ady, int_int -> Adz, str_str -> Ad0, tuples -> Ad1, lists -> Ad2, lists_lengths -> Ad3
open PySem.CmpOp renaming casesOn -> Ad5
open PySem.IsiPair renaming str_bytes -> Aei
open PyProof.Rows.Copied renaming pop_at -> Aej
open PySem.Builtin.Slots renaming slotNamesOf -> Aeo, target -> Aeu
open PySem.Builtin.Getset_descriptor renaming descrSet -> Aep, descrStoreThrough -> Aeq, descrCheckInstance -> Aer, descrNameAndClass -> Aes, descrItself -> Aet
open PySem.Const renaming casesOn -> Aew
open PySem.FuncBody renaming casesOn -> Aex
set_option linter.all false
set_option Elab.async false
set_option maxHeartbeats 4000000
namespace Mine
universe u
variable{α β γ δ:Sort u}{G:Prop}
section
variable{A B C D E F:Prop}
theorem e02(h:A/\B)(k:A->B->G):G:=k h.1 h.2
theorem e03(h:A/\B/\C)(k:A->B->C->G):G:=k h.1 h.2.1 h.2.2
theorem e04(h:A/\B/\C/\D)(k:A->B->C->D->G):G:=k h.1 h.2.1 h.2.2.1 h.2.2.2
theorem e05(h:A/\B/\C/\D/\E)(k:A->B->C->D->E->G):G:=k h.1 h.2.1 h.2.2.1 h.2.2.2.1 h.2.2.2.2
theorem e06(h:A/\B/\C/\D/\E/\F)(k:A->B->C->D->E->F->G):G:=k h.1 h.2.1 h.2.2.1 h.2.2.2.1 h.2.2.2.2.1 h.2.2.2.2.2
end
section
variable{A B C D E:α->Prop}
theorem e11(h:∃a,A a)(k:∀a,A a->G):G:=h.elim k
theorem e12(h:∃a,A a/\B a)(k:∀a,A a->B a->G):G:=h.elim λa x=>e02 x (k a)
theorem e13(h:∃a,A a/\B a/\C a)(k:∀a,A a->B a->C a->G):G:=h.elim λa x=>e03 x (k a)
theorem e14(h:∃a,A a/\B a/\C a/\D a)(k:∀a,A a->B a->C a->D a->G):G:=h.elim λa x=>e04 x (k a)
theorem e15(h:∃a,A a/\B a/\C a/\D a/\E a)(k:∀a,A a->B a->C a->D a->E a->G):G:=h.elim λa x=>e05 x (k a)
end
section
variable{A B C D E:α->β->Prop}
theorem e21(h:∃a b,A a b)(k:∀a b,A a b->G):G:=h.elim λa x=>e11 x (k a)
theorem e22(h:∃a b,A a b/\B a b)(k:∀a b,A a b->B a b->G):G:=h.elim λa x=>e12 x (k a)
theorem e23(h:∃a b,A a b/\B a b/\C a b)(k:∀a b,A a b->B a b->C a b->G):G:=h.elim λa x=>e13 x (k a)
theorem e24(h:∃a b,A a b/\B a b/\C a b/\D a b)(k:∀a b,A a b->B a b->C a b->D a b->G):G:=h.elim λa x=>e14 x (k a)
theorem e25(h:∃a b,A a b/\B a b/\C a b/\D a b/\E a b)(k:∀a b,A a b->B a b->C a b->D a b->E a b->G):G:=h.elim λa x=>e15 x (k a)
end
section
variable{A B C D:α->β->γ->Prop}
theorem e31(h:∃a b c,A a b c)(k:∀a b c,A a b c->G):G:=h.elim λa x=>e21 x (k a)
theorem e32(h:∃a b c,A a b c/\B a b c)(k:∀a b c,A a b c->B a b c->G):G:=h.elim λa x=>e22 x (k a)
theorem e33(h:∃a b c,A a b c/\B a b c/\C a b c)(k:∀a b c,A a b c->B a b c->C a b c->G):G:=h.elim λa x=>e23 x (k a)
theorem e34(h:∃a b c,A a b c/\B a b c/\C a b c/\D a b c)(k:∀a b c,A a b c->B a b c->C a b c->D a b c->G):G:=h.elim λa x=>e24 x (k a)
end
section
variable{A B C:α->β->γ->δ->Prop}
theorem e41(h:∃a b c d,A a b c d)(k:∀a b c d,A a b c d->G):G:=h.elim λa x=>e31 x (k a)
theorem e42(h:∃a b c d,A a b c d/\B a b c d)(k:∀a b c d,A a b c d->B a b c d->G):G:=h.elim λa x=>e32 x (k a)
theorem e43(h:∃a b c d,A a b c d/\B a b c d/\C a b c d)(k:∀a b c d,A a b c d->B a b c d->C a b c d->G):G:=h.elim λa x=>e33 x (k a)
end
universe v
@[elab_as_elim] theorem rwG {α:Sort v} {b:α} {p:α->Prop} {a:α} (e:a=b) (h:p b):p a:=e▸h
@[elab_as_elim] theorem rwH {α:Sort v} {b:α} {p:α->Prop} {a:α} (e:b=a) (h:p b):p a:=e▸h
universe w
section
variable{α β γ δ:Sort w}
theorem yes{A:α->Prop}{B:α->Prop}(h:∀G:Prop,(∀a,A a->B a->G)->G):∃a,A a/\B a:=h _ λa x y=>⟨a,x,y⟩
theorem yem{α:Sort v}{β:Sort w}{A B:α->β->Prop}(h:∀G:Prop,(∀a b,A a b->B a b->G)->G):∃a b,A a b/\B a b:=h _ λa b x y=>⟨a,b,x,y⟩
theorem RF{α:Sort u}{β:Sort v}{γ:Sort w}{A B:α->β->γ->Prop}(h:∀G:Prop,(∀a b c,A a b c->B a b c->G)->G):∃a b c,A a b c/\B a b c:=h _ λa b c x y=>⟨a,b,c,x,y⟩
end
theorem upI{x k:Nat}{K:Nat}(h:x<=k)(hk:wo k K=true):(x:Int)<=(no_index (OfNat.ofNat K:Int)):=tf.mpr (ah h (lY hk))
theorem ngI{x:Nat}:(-1000000:Int)<=(x:Int):=bH (by decide) (dw x)
theorem le2{x k K:Nat}(h:x<=k)(hk:wo k K=true):x<=K:=ah h (lY hk)
end Mine
local macro_rules
 | `(tactic| erw [$rs,*]) => do
  let mut ts : Array (Lean.TSyntax `tactic) := #[]
  for r in rs.getElems do
   match r with
   | `(Lean.Parser.Tactic.rwRule| ← $e:term) => ts := ts.push (← `(tactic| first | refine Mine.rwH $e ?_ | refine Mine.rwH ($e ..) ?_ | rewrite [← $e:term]))
   | `(Lean.Parser.Tactic.rwRule| $e:term) => ts := ts.push (← `(tactic| first | refine Mine.rwG $e ?_ | refine Mine.rwG ($e ..) ?_ | rewrite [$e:term]))
   | _ => Lean.Macro.throwUnsupported
  `(tactic| ($[$ts:tactic];*; try (with_reducible rfl)))
local macro_rules
 | `(tactic| exists $f:ident $a*) => `(tactic| with_reducible refine $f $a* ?_)
 | `(tactic| exists $f:ident) => `(tactic| with_reducible refine $f ?_)
namespace Mine
theorem bL{k K:Nat}(hk:wo k K=true):k<=K:=lY hk
theorem lT{x k K:Nat}(h:x<=k)(hk:wo (k+1) K=true):x<K:=ah (cr h) (lY hk)
section
variable{a b c d e:Nat}
theorem ac1(h:a+b+c<=d):a+c+b<=d:=gC a b c▸h
theorem ac2(h:a+b<=d):b+a<=d:=nF a b▸h
theorem ac3(h:a+(b+c)<=d):a+b+c<=d:=qS a b c▸h
theorem ac4(h:a+b+c<=d):a+(b+c)<=d:=(qS a b c).symm▸h
theorem ac5(h:d<=a+b+c):d<=a+c+b:=gC a b c▸h
theorem ac6(h:d<=a+b):d<=b+a:=nF a b▸h
theorem ac7(h:d<=a+(b+c)):d<=a+b+c:=qS a b c▸h
theorem ac8(h:d<=a+b+c):d<=a+(b+c):=(qS a b c).symm▸h
theorem az1(h:a<=b):0+a<=b:=(i0 a).symm▸h
theorem az2(h:a<=0+b):a<=b:=i0 b▸h
theorem az3(h:a<=b):a*1<=b:=(Nat.mul_one a).symm▸h
theorem lC(h:a<=b)(g:b+c<=d):a+c<=d:=ah (mL h c) g
theorem lD(h:a<=c+b)(g:b<=d):a<=c+d:=ah h (fH g c)
theorem lE(h:a<=b+c)(g:b<=d):a<=d+c:=ah h (mL g c)
theorem dR(h:a+b<=c):a<=c:=ah (bK a b) h
theorem dL(h:a+b<=c):b<=c:=ah (zF b a) h
theorem lF(h:a+(b+1)<=d)(g:c<=a+1):c+b<=d:=ah (mL g b) (ac1 h)
theorem lH(h:a<=b+c)(g:b<=d+e):a<=d+(e+c):=ah h (ac8 (mL g c))
theorem lG(h:a<=b+c)(g:b<=d+1):a<=d+(c+1):=ah h (ac5 (mL g c))
theorem iL(h:a<=b):(a:Int)<=b:=tf.mpr h
theorem iT(h:a<b):(a:Int)<b:=zG.mpr h
theorem uL(h:(a:Int)<=b):a<=b:=tf.mp h
theorem uT(h:(a:Int)<b):a<b:=zG.mp h
theorem iN{a b:Int}(h:¬ a<b):b<=a:=Int.not_lt.mp h
theorem m1{n:Nat}(h:0<n):(-1:Int)+(n:Int)=((n-1:Nat):Int):=by
 cases n with
 |zero=>exact absurd h (lc 0)
 |succ k=>rw[zH,El];exact LK _ 1
theorem iE(h:a=b):(a:Int)=b:=congrArg Int.ofNat h
end
section
universe u
variable{α β γ δ:Sort u}
theorem aB{A B:α->Prop}(a:α)(h0:A a)(h1:B a):∃a,A a/\B a:=⟨a,h0,h1⟩
theorem cH{A B C:α->Prop}(a:α)(h0:A a)(h1:B a)(h2:C a):∃a,A a/\B a/\C a:=⟨a,h0,h1,h2⟩
theorem B8{A B C D:α->Prop}(a:α)(h0:A a)(h1:B a)(h2:C a)(h3:D a):∃a,A a/\B a/\C a/\D a:=⟨a,h0,h1,h2,h3⟩
theorem RG{A B C D E:α->Prop}(a:α)(h0:A a)(h1:B a)(h2:C a)(h3:D a)(h4:E a):∃a,A a/\B a/\C a/\D a/\E a:=⟨a,h0,h1,h2,h3,h4⟩
theorem Hj{A:α->β->Prop}(a:α)(b:β)(h0:A a b):∃a b,A a b:=⟨a,b,h0⟩
theorem bZ{A B:α->β->Prop}(a:α)(b:β)(h0:A a b)(h1:B a b):∃a b,A a b/\B a b:=⟨a,b,h0,h1⟩
theorem fk{A B C:α->β->Prop}(a:α)(b:β)(h0:A a b)(h1:B a b)(h2:C a b):∃a b,A a b/\B a b/\C a b:=⟨a,b,h0,h1,h2⟩
theorem hM{A B C D:α->β->Prop}(a:α)(b:β)(h0:A a b)(h1:B a b)(h2:C a b)(h3:D a b):∃a b,A a b/\B a b/\C a b/\D a b:=⟨a,b,h0,h1,h2,h3⟩
theorem yen{A B C D E:α->β->Prop}(a:α)(b:β)(h0:A a b)(h1:B a b)(h2:C a b)(h3:D a b)(h4:E a b):∃a b,A a b/\B a b/\C a b/\D a b/\E a b:=⟨a,b,h0,h1,h2,h3,h4⟩
theorem RH{A:α->β->γ->Prop}(a:α)(b:β)(c:γ)(h0:A a b c):∃a b c,A a b c:=⟨a,b,c,h0⟩
theorem bc{A B:α->β->γ->Prop}(a:α)(b:β)(c:γ)(h0:A a b c)(h1:B a b c):∃a b c,A a b c/\B a b c:=⟨a,b,c,h0,h1⟩
theorem B9{A B C:α->β->γ->Prop}(a:α)(b:β)(c:γ)(h0:A a b c)(h1:B a b c)(h2:C a b c):∃a b c,A a b c/\B a b c/\C a b c:=⟨a,b,c,h0,h1,h2⟩
theorem Hk{A B C D:α->β->γ->Prop}(a:α)(b:β)(c:γ)(h0:A a b c)(h1:B a b c)(h2:C a b c)(h3:D a b c):∃a b c,A a b c/\B a b c/\C a b c/\D a b c:=⟨a,b,c,h0,h1,h2,h3⟩
theorem RJ{A:α->β->γ->δ->Prop}(a:α)(b:β)(c:γ)(d:δ)(h0:A a b c d):∃a b c d,A a b c d:=⟨a,b,c,d,h0⟩
theorem Ca{A B:α->β->γ->δ->Prop}(a:α)(b:β)(c:γ)(d:δ)(h0:A a b c d)(h1:B a b c d):∃a b c d,A a b c d/\B a b c d:=⟨a,b,c,d,h0,h1⟩
theorem yeo{A B C:α->β->γ->δ->Prop}(a:α)(b:β)(c:γ)(d:δ)(h0:A a b c d)(h1:B a b c d)(h2:C a b c d):∃a b c d,A a b c d/\B a b c d/\C a b c d:=⟨a,b,c,d,h0,h1,h2⟩
end
end Mine
open PySem PySem.W PyProof.Rows
set_option maxRecDepth 100000
namespace Mine
theorem RK:oW.wellSaid=true:=by decide +kernel
noncomputable def bodyP:List Stmt:=Em.main.body
noncomputable def RL:Stmt->Bool
 |.Assign [.Name n _] _ _=>n=="__name__"
 |_=>false
noncomputable def u9:gf:={oW.row.toRowW.prog with main:={oW.row.toRowW.prog.main with body:=bodyP.filter λs=>!RL s}}
noncomputable def Hl(n:Str):Stmt->Bool
 |.FunctionDef m ..=>m==n
 |.ClassDef m ..=>m==n
 |_=>false
noncomputable def top(n:Str):Option Stmt:=bodyP.find? (Hl n)
noncomputable def inC(c n:Str):Option Stmt:=match top c with
 |some (.ClassDef _ _ _ b _ _ _ _ _ _ _)=>b.find? (Hl n)
 |_=>none
noncomputable def fc(a:Nat)(s:Option Stmt)(q:Str)(m:Value)(t u:Nat)(o:Bool)(d:Value):List (Addr × Obj):=match s with
 |some (.FunctionDef n as b _ _ _ sc _ _ p)=>let r (i:Nat):Value:=.ref (a-i);let k (i:Nat):Value:=.int i 0;let f (i:Nat):Value:=.str "/claim/cut.py" i
  [(a-1,{cls:=.type "code",data:=.fields #[.str n t,.str q (t+1),f (t+2),k p.line,k as.args.length,k 0,k 0,k (bif as.vararg.isSome then 7 else 3),bif o then r 6 else r 4,.bool true,k 181,bif o then r 5 else r 3,.none,bif o then r 4 else .none,bif o then r 3 else .none,r 2,k u,k p.line,f (u+1)]}),
   (a,{cls:=.type "function",data:=.func {name:=n,qualname:=q,params:=as,body:=.stmts b,scope:=sc,globals:=3,closure:=[],defaults:=d,kwdefaults:=.none,pyModule:=m,code:=.ref (a-1)}})]
 |_=>[]
noncomputable def de(x:Str)(t:Nat)(v:Value):Str × Nat × Value:=(x,t,v)
noncomputable def dic(P:wS)(n:Nat)(l:List (Str × Nat × Value)):Obj:={cls:=.type "dict",data:=.dict (l.map λx=>{hash:=wq P x.1,key:=.str x.1 x.2.1,val:=x.2.2}).toArray n}
noncomputable def K0(P:wS):Frag:=[
 (3,dic P 39 [de "__name__" 165 (.str "law_in0182_01" 583),de "__doc__" 166 (.none),de "__package__" 167 (.none),de "__loader__" 168 (.builtin "__main__.__loader__#opaque"),de "__spec__" 169 (.none),de "__annotations__" 170 (.ref 6),de "__builtins__" 171 (.ref 4),de "__file__" 173 (.str "/claim/cut.py" 172),de "__cached__" 174 (.none),de "_wall" 193 (.ref 21),de "add" 203 (.ref 28),de "xor" 211 (.ref 35),de "getitem" 219 (.ref 42),de "setitem" 228 (.ref 49),de "_NODE_OUT" 233 (.int (-1) 232),de "_NODE_DONE" 236 (.int (-2) 235),de "_NodeInfo" 273 (.ref 68),de "CycleError" 291 (.ref 83),de "TopologicalSorter" 410 (.ref 165),de "_plain_name" 421 (.ref 176),de "ABCMeta" 447 (.ref 193),de "_ABCLike" 490 (.ref 226),de "_abc_plain_meta" 497 (.ref 235),de "fspath" 509 (.ref 242),de "_check_arg_types" 522 (.ref 249),de "_get_sep" 531 (.ref 256),de "join" 542 (.ref 263),de "splitroot" 551 (.ref 270),de "dirname" 561 (.ref 277),de "normpath" 576 (.ref 284),de "commonpath" 582 (.ref 289),de "_law_path" 591 (.ref 296),de "_law_deal" 597 (.ref 301),de "_law_alone" 607 (.ref 308),de "_law_run" 623 (.ref 315),de "_law_rounds" 629 (.ref 320),de "_law_games" 635 (.ref 325),de "_law_meet" 646 (.ref 332),de "law" 663 (.ref 339)]),
 (67,dic P 5 [de "__module__" 244 (.str "cpy313.graphlib" 229),de "__firstlineno__" 248 (.int 16 247),de "__slots__" 252 (.ref 57),de "__init__" 260 (.ref 64),de "__static_attributes__" 264 (.ref 65),de "node" 266 (.ref 69),de "npredecessors" 268 (.ref 70),de "successors" 270 (.ref 71),de "__doc__" 271 (.none)]),
 (68,{cls:=.type "type",data:=.cls {name:="_NodeInfo",bases:=[.type "object"],mro:=[.ref 68,.type "object"],ns:=67,qualname:="_NodeInfo",hasDict:=false,slotNames:=["node","npredecessors","successors"]},slots:=#[none,none,some (.str "_NodeInfo" 237),some (.str "_NodeInfo" 245),some (.builtin "object.__new__"),some (.bool false)]}),
 (69,{cls:=.type "member_descriptor",data:=.fields #[.str "node" 265,.ref 68,.builtin "proto.slot",.builtin "proto.slot#set",.int 2 0]}),
 (70,{cls:=.type "member_descriptor",data:=.fields #[.str "npredecessors" 267,.ref 68,.builtin "proto.slot",.builtin "proto.slot#set",.int 1 0]}),
 (71,{cls:=.type "member_descriptor",data:=.fields #[.str "successors" 269,.ref 68,.builtin "proto.slot",.builtin "proto.slot#set",.int 0 0]}),
 (94,{cls:=.type "tuple",data:=.seq #[.none]}),
 (164,dic P 4 [de "__module__" 299 (.str "cpy313.graphlib" 229),de "__firstlineno__" 303 (.int 25 302),de "__init__" 313 (.ref 101),de "_get_nodeinfo" 322 (.ref 108),de "add" 334 (.ref 115),de "prepare" 340 (.ref 120),de "get_ready" 350 (.ref 127),de "is_active" 357 (.ref 134),de "__bool__" 364 (.ref 141),de "done" 378 (.ref 148),de "_find_cycle" 391 (.ref 155),de "static_order" 398 (.ref 162),de "__static_attributes__" 403 (.ref 163),de "__dict__" 405 (.ref 166),de "__weakref__" 407 (.ref 167),de "__doc__" 408 (.none)]),
 (165,{cls:=.type "type",data:=.cls {name:="TopologicalSorter",bases:=[.type "object"],mro:=[.ref 165,.type "object"],ns:=164,qualname:="TopologicalSorter"},slots:=#[none,none,some (.str "TopologicalSorter" 292),some (.str "TopologicalSorter" 300),some (.builtin "object.__new__"),some (.bool true)]})]++List.flatten [
 fc 28 (top "add") "add" (.str "cpy313.operator" 194) 196 201 true .none,
 fc 35 (top "xor") "xor" (.str "cpy313.operator" 194) 204 209 true .none,
 fc 42 (top "getitem") "getitem" (.str "cpy313.operator" 194) 212 217 true .none,
 fc 49 (top "setitem") "setitem" (.str "cpy313.operator" 194) 220 226 true .none,
 fc 64 (inC "_NodeInfo" "__init__") "_NodeInfo.__init__" (.str "cpy313.graphlib" 229) 253 258 true .none,
 fc 101 (inC "TopologicalSorter" "__init__") "TopologicalSorter.__init__" (.str "cpy313.graphlib" 229) 304 311 true (.ref 94),
 fc 108 (inC "TopologicalSorter" "_get_nodeinfo") "TopologicalSorter._get_nodeinfo" (.str "cpy313.graphlib" 229) 314 320 true .none,
 fc 115 (inC "TopologicalSorter" "add") "TopologicalSorter.add" (.str "cpy313.graphlib" 229) 323 332 true .none,
 fc 120 (inC "TopologicalSorter" "prepare") "TopologicalSorter.prepare" (.str "cpy313.graphlib" 229) 335 338 false .none,
 fc 127 (inC "TopologicalSorter" "get_ready") "TopologicalSorter.get_ready" (.str "cpy313.graphlib" 229) 341 348 true .none,
 fc 134 (inC "TopologicalSorter" "is_active") "TopologicalSorter.is_active" (.str "cpy313.graphlib" 229) 351 355 true .none,
 fc 148 (inC "TopologicalSorter" "done") "TopologicalSorter.done" (.str "cpy313.graphlib" 229) 365 376 true .none,
 fc 155 (inC "TopologicalSorter" "_find_cycle") "TopologicalSorter._find_cycle" (.str "cpy313.graphlib" 229) 379 389 true .none,
 fc 235 (top "_abc_plain_meta") "_abc_plain_meta" (.str "collections.abc" 448) 491 495 true .none,
 fc 242 (top "fspath") "fspath" (.str "os" 498) 500 507 true .none,
 fc 256 (top "_get_sep") "_get_sep" (.str "cpy313.posixpath" 523) 525 529 true .none,
 fc 263 (top "join") "join" (.str "cpy313.posixpath" 523) 532 540 true .none,
 fc 270 (top "splitroot") "splitroot" (.str "cpy313.posixpath" 523) 543 549 true .none,
 fc 277 (top "dirname") "dirname" (.str "cpy313.posixpath" 523) 552 559 true .none,
 fc 284 (top "normpath") "normpath" (.str "cpy313.posixpath" 523) 562 574 true .none,
 fc 289 (top "commonpath") "commonpath" (.str "cpy313.posixpath" 523) 577 580 false .none,
 fc 296 (top "_law_path") "_law_path" (.str "law_in0182_01" 583) 585 589 true .none,
 fc 301 (top "_law_deal") "_law_deal" (.str "law_in0182_01" 583) 592 595 false .none,
 fc 308 (top "_law_alone") "_law_alone" (.str "law_in0182_01" 583) 598 605 true .none,
 fc 315 (top "_law_run") "_law_run" (.str "law_in0182_01" 583) 608 621 true .none,
 fc 320 (top "_law_rounds") "_law_rounds" (.str "law_in0182_01" 583) 624 627 false .none,
 fc 325 (top "_law_games") "_law_games" (.str "law_in0182_01" 583) 630 633 false .none,
 fc 332 (top "_law_meet") "_law_meet" (.str "law_in0182_01" 583) 636 644 true .none,
 fc 339 (top "law") "law" (.str "law_in0182_01" 583) 647 661 true .none]
noncomputable def as0:List Addr:=[3,67,68,69,70,71,94,164,165,27,28,34,35,41,42,48,49,63,64,100,101,107,108,114,115,119,120,126,127,133,134,147,148,154,155,234,235,241,242,255,256,262,263,269,270,276,277,283,284,288,289,295,296,300,301,307,308,314,315,319,320,324,325,331,332,338,339]
noncomputable def hook0:Hook:=kHook K0 as0 λ_=>by kernel_rfl
noncomputable def Hm:DefRec × List (Str × aY):=(defOf u9 "law").getD ⟨⟨"",⟨[],[],none,[],[],none,[]⟩,[],⟨.function,[],false,false,[]⟩,⟨0,0,0,0⟩⟩,[]⟩
theorem RM:LeftO oW.row.toRowW.prog u9 ["_NodeInfo"] (λs=>xlAt u9 [] s&&recOk (RowW.records oW.row.toRowW) s) hook0.obs hook0.val 4756:=λw=>by kernel_rfl
theorem hd0(call:WalkO u9 ["_NodeInfo"] (XL u9 []) hook0.says oW.row.toRowW Hm.1 Hm.2 λf vs=>PySem.call f vs):oW.Holds :=
 holds_law RK λk1=>holds_open RM hook0.of hook0.keeps (λs e=>xl_of s (i3.mp e).1) XL.keeps (by kernel_rfl) (by kernel_rfl) (by kernel_rfl) (λs e=>recFacts_of (i3.mp e).2) rfl k1 (by decide +kernel) ⟨rfl,rfl,rfl,rfl,rfl,by decide +kernel⟩ ⟨[.list []],by decide +kernel,by decide +kernel⟩ call
end Mine
set_option backward.match.sparseCases false
set_option genCtorIdx false
set_option genInjectivity false
set_option genSizeOf false
set_option bootstrap.genMatcherCode false
namespace Mine
theorem Cb{M:me}{Γ:Ctx}{p:Pos}{t:Sem Fin}{fs:List Frame}{s s':Shared}{e:End}(h:Runs M Γ p t fs s e s'):s.heap.objs.size<=s'.heap.objs.size:=by
 induction h<;>(try simp only[Shared.setGen,dS,zI] at *)<;>(first|exact aq _|omega)
theorem RN{M:me}{Γ:Ctx}{p:Pos}{g:Nat}{r:Resume}{s s':Shared}{qa:GenResult}(h:Wakes M Γ p g r s qa s'):s.heap.objs.size<=s'.heap.objs.size:=by
 unfold Wakes at h;split at h
 ·exact h.elim
 ·split at h
  ·refine e24 h ?_;clear h;intro xx ai hr _ _ aC;subst aC;exact (Cb hr:(s.setGen g .running).heap.objs.size<=ai.heap.objs.size)
  ·erw[h.2];exact aq _
  ·erw[h.2];exact aq _
 ·refine e24 h ?_;clear h;intro xx ai hr _ _ aI;subst aI;exact (Cb hr:(s.setGen g .running).heap.objs.size<=ai.heap.objs.size)
 ·erw[h.2];exact aq _
 ·erw[h.2];exact aq _
theorem RO{α:Type}(M:me)(Γ:Ctx)(n:Nat)(t:Sem α):∀(Q:α->Pos->Shared->Prop) (E:Value->Pos->Shared->Prop) (p:Pos) (s:Shared),n<=s.heap.objs.size->Sem.wp M Γ t Q E p s ->
  Sem.wp M Γ t (λa p' s'=>n<=s'.heap.objs.size/\Q a p' s') (λe p' s'=>n<=s'.heap.objs.size/\E e p' s') p s:=by
 induction t with
 |pure a=>intro Q E p s hn h;exact ⟨hn,h⟩
 |raise e=>intro Q E p s hn h;exact ⟨hn,h⟩
 |unsupported _=>intro Q E p s _ h;exact h
 |finish _=>intro Q E p s _ h;exact h
 |rule _ k ih=>intro Q E p s hn h;exact ih () Q E p s hn h
 |«at» p' k ih=>intro Q E p s hn h;exact ih () Q E p' s hn h
 |load a _ k ih=>intro Q E p s hn h;refine e12 h ?_;clear h;intro o ho h;exact ⟨o,ho,ih o Q E p s hn h⟩
 |update a _ f k ih=>intro Q E p s hn h;exact ⟨h.1,ih () Q E p _ (by simp only[zI];exact hn) h.2⟩
 |loadIfAlive a k ih=>intro Q E p s hn h;exact ih _ Q E p s hn h
 |point _ k ih=>intro Q E p s hn h;exact ih () Q E p s hn h
 |register _ _=>intro Q E p s _ h;exact h
 |alloc o k ih=>intro Q E p s hn h;exact ih _ Q E p _ (by simp only[dS];exact gE hn) h
 |fresh k ih=>intro Q E p s hn h;exact ih _ Q E p _ hn h
 |ask k ih=>intro Q E p s hn h;exact ih _ Q E p s hn h
 |choose src m k ih=>intro Q E p s hn h;exact ⟨h.1,ih _ Q E p _ hn h.2⟩
 |os q _ k ih=>intro Q E p s hn h;exact ih _ Q E p _ hn h
 |call c hd _ _ k ih=>intro Q E p s hn h;refine e22 h ?_;clear h;intro r s' hr h;exact ⟨r,s',hr,ih r Q E p s' (ah hn (Cb hr)) h⟩
 |handled own k ih=>intro Q E p s hn h;exact ih _ Q E p s hn h
 |genState g k ih=>intro Q E p s hn h;refine e12 h ?_;clear h;intro st hs h;exact ⟨st,hs,ih _ Q E p s hn h⟩
 |newGen c k ih=>intro Q E p s hn h;exact ih _ Q E p _ hn h
 |resume g r _ k ih=>intro Q E p s hn h;refine e22 h ?_;clear h;intro qa s' hw h;exact ⟨qa,s',hw,ih qa Q E p s' (ah hn (RN hw)) h⟩
 |yield _ _ _ _=>intro Q E p s _ h;exact h
 |stack k ih=>intro Q E p s hn h;exact ih _ Q E p s hn h
 |fork _ _=>intro Q E p s _ h;exact h
 |thread k ih=>intro Q E p s hn h;exact ih _ Q E p s hn h
 |await _ _ _ _ _=>intro Q E p s _ h;exact h
theorem jT{α:Type}{M:me}{A:Around}{s:Shared}{t:Sem α}{Q:α->Shared->Prop}{E:Value->Shared->Prop}(h:aj M A t Q E s) :
  aj M A t (λa s'=>s.heap.objs.size<=s'.heap.objs.size/\Q a s') (λe s'=>s.heap.objs.size<=s'.heap.objs.size/\E e s') s :=
 λΓ p PG=>RO M Γ _ t _ _ p s (aq _) (h Γ p PG)
noncomputable abbrev Cps:=List Nat
noncomputable def ao(l:Cps):Str:=⟨l.toArray⟩
theorem m5{a b:Cps}(h:ao a=ao b):a=b:=by
 unfold ao at h;injection h with h;simpa using h
set_option genCtorIdx true
inductive AV where
 |none
 |bool (b:Bool)
 |int (i:Int)
 |str (s:Cps)
 |tup (l:List AV)
 |loc (n:Nat)
 |fn (a:Nat)
 |typ (t:String)
 |bi (id:String)
 |rng (lo hi st:Int)
 |nxt (n:Nat)
 |vw (n:Nat)
 deriving Inhabited
inductive AO where
 |list (l:List AV)
 |dict (es:List (Cps × AV)) (v:Option Nat)
 |set (l:List Cps)
 |inst (c:Nat) (d:Nat)
 |ns (fs:List (Str × AV))
 |slots (c:Nat) (d:Nat) (vs:List AV)
 |iter (l:Nat) (i:Nat)
 |dead
 |pin (l:List AV)
 deriving Inhabited
set_option genCtorIdx false
noncomputable abbrev m6(vs:List Value)(n:Nat):Obj:={cls:=.type "tuple",data:=.seq vs.toArray n}
noncomputable abbrev dj(vs:List Value)(n:Nat):Obj:={cls:=.type "list",data:=.seq vs.toArray n}
noncomputable abbrev Hn(es:List DictEntry)(n:Nat):Obj:={cls:=.type "dict",data:=.dict es.toArray n}
noncomputable abbrev jg(l:Addr)(i:Nat):Obj:={cls:=.type "list_iterator",data:=.fields #[.ref l,.int i 0]}
noncomputable abbrev vc(a:Addr):Obj:={cls:=.type "method-wrapper",data:=.fields #[.builtin "list_iterator.__next__",.ref a]}
mutual
noncomputable def VRep(ρ:List Addr)(h:Heap):AV->Value->Prop
 |.none,v=>v=.none
 |.bool b,v=>v=.bool b
 |.int i,v=>∃t,v=.int i t
 |.str s,v=>∃t,v=.str (ao s) t
 |.tup l,v=>∃a vs n,v=.ref a/\h.get? a=some (m6 vs n)/\VReps ρ h l vs
 |.loc n,v=>∃a,v=.ref a/\ρ[n]?=some a
 |.fn a,v=>v=.ref a
 |.typ t,v=>v=.type t
 |.bi id,v=>v=.builtin id
 |.rng lo hi st,v=>∃a t1 t2 t3,v=.ref a/\IsRange h a lo hi st t1 t2 t3
 |.nxt n,v=>∃b a,v=.ref b/\ρ[n]?=some a/\∃o r,h.get? b=some o/\o.cls=.type "method-wrapper"/\o.data=.fields (#[.builtin "list_iterator.__next__",.ref a]++r)
 |.vw n,v=>∃b a,v=.ref b/\ρ[n]?=some a/\h.IsValuesView b a
termination_by structural d=>d
noncomputable def VReps(ρ:List Addr)(h:Heap):List AV->List Value->Prop
 |[],vs=>vs=[]
 |d::ds,vs=>∃v r,vs=v::r/\VRep ρ h d v/\VReps ρ h ds r
termination_by structural ds=>ds
end
def cz(o:Obj):Prop:=match o.data with
 |.seq _ _=>o.cls=.type "tuple"
 |.fields _=>o.cls=.type "range"\/o.cls=.type "method-wrapper"\/o.cls=.type "dict_values"
 |_=>False
def ImmLe(h h':Heap):Prop:=∀b o,cz o->h.get? b=some o->h'.get? b=some o
theorem ImmLe.refl(h:Heap):ImmLe h h:=λ_ _ _ e=>e
theorem ImmLe.trans{a b c:Heap}(x:ImmLe a b)(y:ImmLe b c):ImmLe a c:=λk o i e=>y k o i (x k o i e)
def Le(h h':Heap):Prop:=∀b o,h.get? b=some o->h'.get? b=some o
theorem Le.refl(h:Heap):Le h h:=λ_ _ e=>e
theorem Le.trans{a b c:Heap}(x:Le a b)(y:Le b c):Le a c:=λk o e=>y k o (x k o e)
theorem Le.imm{h h':Heap}(x:Le h h'):ImmLe h h':=λb o _ e=>x b o e
def Pre(ρ ae:List Addr):Prop:=∃new,ae=ρ++new
theorem Pre.refl(ρ:List Addr):Pre ρ ρ:=⟨[],by simp⟩
theorem Pre.trans{a b c:List Addr}(x:Pre a b)(y:Pre b c):Pre a c:=by
 refine e11 x ?_;clear x;intro n aC;subst aC;refine e11 y ?_;clear y;intro m aI;subst aI;exact ⟨n++m,by simp⟩
theorem Pre.get{ρ ae:List Addr}(x:Pre ρ ae){i:Nat}{a:Addr}(h:ρ[i]?=some a):ae[i]?=some a:=by
 refine e11 x ?_;clear x;intro n aS;subst aS;have hi:=(ei.mp h).1;erw[lf hi];exact h
mutual
theorem VRep.mono{ρ ae:List Addr}{h h':Heap}(hp:Pre ρ ae)(hi:ImmLe h h')(d:AV)(v:Value)(x:VRep ρ h d v):VRep ae h' d v:=by
 induction d using AV.casesOn with
 |tup l=>refine e33 x ?_;clear x;intro a vs n e g r;exact B9 a vs n e (hi _ _ rfl g) (VReps.mono hp hi l vs r)
 |loc=>refine e12 x ?_;clear x;intro a e g;exact aB a e (hp.get g)
 |rng=>refine e42 x ?_;clear x;intro a t1 t2 t3 e g;exact Ca a t1 t2 t3 e (hi _ _ (.inl rfl) g)
 |nxt=>refine e23 x ?_;clear x;intro b a e q be;refine e23 be λo r g c d=>?_;exact ⟨b,a,e,hp.get q,o,r,hi _ _ (by unfold cz;erw[d];exact .inr (.inl c)) g,c,d⟩
 |vw=>refine e23 x ?_;clear x;intro b a e q bw;refine e13 bw λo g c r=>?_;exact ⟨b,a,e,hp.get q,o,hi _ _ (by unfold cz;erw[r];exact .inr (.inr c)) g,c,r⟩
 |_=>exact x
termination_by structural d
theorem VReps.mono{ρ ae:List Addr}{h h':Heap}(hp:Pre ρ ae)(hi:ImmLe h h'):∀(ds:List AV) (vs:List Value),VReps ρ h ds vs->VReps ae h' ds vs
 |[],_,x=>x
 |d::ds,_,q=>by refine e23 q ?_;clear q;intro v r e x y;exact fk v r e (VRep.mono hp hi d v x) (VReps.mono hp hi ds r y)
termination_by structural ds=>ds
end
section
variable{ρ:List Addr}{h:Heap}
theorem VReps.cases{ds:List AV}{vs:List Value}{C:List AV->List Value->Prop}(x:VReps ρ h ds vs)(n:C [] [])(c:∀d ds v vs,VRep ρ h d v->VReps ρ h ds vs->C ds vs->C (d::ds) (v::vs)):C ds vs:=by
 induction ds generalizing vs with
 |nil=>cases (show vs=[] from x);exact n
 |cons d ds ih=>
  refine e23 x ?_;clear x;intro v r e x y;subst e;exact c d ds v r x y (ih y)
theorem VReps.length{ds:List AV}{vs:List Value}(x:VReps ρ h ds vs):vs.length=ds.length:=x.cases (C:=λds vs=>vs.length=ds.length) rfl λ_ _ _ _ _ _ ih=>congrArg nG ih
theorem VReps.get{ds:List AV}{vs:List Value}{i:Nat}{d:AV}(x:VReps ρ h ds vs):ds[i]?=some d->∃v,vs[i]?=some v/\VRep ρ h d v:=by
 refine x.cases (C:=λds vs=>∀i,ds[i]?=some d->∃v,vs[i]?=some v/\VRep ρ h d v) (λi q=>by injection q) (λd' ds v vs x y ih i q=>?_) i;induction i using jv with
 |zero=>(injection q with bA;subst bA);exact aB v rfl x
 |succ i=>exact ih i q
theorem VReps.append{ds es:List AV}{vs us:List Value}(x:VReps ρ h ds vs)(y:VReps ρ h es us):VReps ρ h (ds++es) (vs++us):=x.cases (C:=λds vs=>VReps ρ h (ds++es) (vs++us)) y λ_ _ _ _ x _ ih=>fk _ _ rfl x ih
theorem VReps.take{ds:List AV}{vs:List Value}(n:Nat)(x:VReps ρ h ds vs):VReps ρ h (ds.take n) (vs.take n):=by
 refine x.cases (C:=λds vs=>∀n,VReps ρ h (ds.take n) (vs.take n)) (λn=>?_) (λd ds v vs x y ih n=>?_) n
 ·induction n using jv<;>exact rfl
 ·induction n using jv with
  |zero=>exact rfl
  |succ n=>exact fk v _ rfl x (ih n)
theorem VReps.drop{ds:List AV}{vs:List Value}(n:Nat)(x:VReps ρ h ds vs):VReps ρ h (ds.drop n) (vs.drop n):=by
 refine x.cases (C:=λds vs=>∀n,VReps ρ h (ds.drop n) (vs.drop n)) (λn=>?_) (λd ds v vs x y ih n=>?_) n
 ·induction n using jv<;>exact rfl
 ·induction n using jv with
  |zero=>exact fk v _ rfl x y
  |succ n=>exact ih n
end
theorem VReps.one{ρ:List Addr}{h:Heap}{d:AV}{v:Value}(x:VRep ρ h d v):VReps ρ h [d] [v]:=fk v ([]) rfl x rfl
theorem VReps.nil{ρ:List Addr}{h:Heap}:VReps ρ h [] []:=rfl
theorem VReps.cons{ρ:List Addr}{h:Heap}{d:AV}{v:Value}{ds:List AV}{vs:List Value}(x:VRep ρ h d v)(y:VReps ρ h ds vs):VReps ρ h (d::ds) (v::vs):=fk v vs rfl x y
structure Gam where
 prog:gf
 w:gh
 base:Heap
 os:OsState
 K:Frag
 mg:Str->Option Value
 mb:Str->Option Value
 inK:K.In base
 g:base.Ns rF mg
 b:base.Ns wT mb
 nolimit:base.NoLimit
 builtins:∀x:Str,x≠"__name__"->mb x=FE x
def DReps(ρ:List Addr)(h:Heap):List (Cps × AV)->List (Str × Value)->Prop
 |[],es=>es=[]
 |(k,d)::r,es=>∃v aD,es=(ao k,v)::aD/\VRep ρ h d v/\DReps ρ h r aD
def NReps(ρ:List Addr)(h:Heap):List (Str × AV)->List DictEntry->Prop
 |[],es=>es=[]
 |(k,d)::r,es=>∃e aD,es=e::aD/\(∃t,e.key=.str k t)/\VRep ρ h d e.val/\NReps ρ h r aD
theorem DReps.mono{ρ ae:List Addr}{h h':Heap}(hp:Pre ρ ae)(hi:ImmLe h h'):∀{ds:List (Cps × AV)} {es:List (Str × Value)},DReps ρ h ds es->DReps ae h' ds es:=λ{ds}=>by
 induction ds with
 |nil=>
  intro _ x;exact x
 |cons hd _ ih=>
  intro _ cO;obtain ⟨_,d⟩:=hd;refine e23 cO ?_;clear cO;intro v aD q r y;exact fk v aD q (VRep.mono hp hi d _ r) (ih y)
theorem NReps.mono{ρ ae:List Addr}{h h':Heap}(hp:Pre ρ ae)(hi:ImmLe h h'):∀{ds:List (Str × AV)} {es:List DictEntry},NReps ρ h ds es->NReps ae h' ds es:=λ{ds}=>by
 induction ds with
 |nil=>
  intro _ x;exact x
 |cons hd _ ih=>
  intro _ cO;obtain ⟨_,d⟩:=hd;refine e23 cO ?_;clear cO;intro e aD q k bN;refine e02 bN λv r=>?_;exact hM e aD q k (VRep.mono hp hi d _ v) (ih r)
def ORep(Γ:Gam)(ρ:List Addr)(h:Heap):AO->Addr->Prop
 |.list l,a=>∃vs n,h.get? a=some (dj vs n)/\VReps ρ h l vs
 |.dict es v,a=>∃aQ ep,h.DictAt (mM Γ.prog Γ.w) a aQ ep/\DReps ρ h es aQ/\∀e,v=some e->e=ep
 |.set l,a=>∃S,h.SetOf (mM Γ.prog Γ.w) a S l.length/\∀x,S x=decide (x∈l.map ao)
 |.inst c d,a=>∃dx,h.get? a=some {cls:=.ref c,dict:=some dx}/\ρ[d]?=some dx
 |.ns fs,a=>∃aD n,h.get? a=some (Hn aD n)/\NReps ρ h fs aD/\(fs.map (·.1)).Nodup
 |.slots c d vs,a=>∃us dx,h.get? a=some {cls:=.ref c,dict:=some dx,slots:=us.toArray}/\ρ[d]?=some dx/\∃ws:List Value,us=ws.map some/\VReps ρ h vs ws
 |.iter l i,a=>∃la,ρ[l]?=some la/\h.get? a=some (jg la i)
 |.dead,a=>∃o,h.get? a=some o/\¬ cz o
 |.pin l,a=>∃o vs n,h.get? a=some o/\o.cls=.type "list"/\o.data=.seq vs n/\VReps ρ h l vs.toList/\Γ.base.get? a=some o
structure HRep(Γ:Gam)(ρ:List Addr)(h:Heap)(H:List AO):Prop where
 len:ρ.length=H.length
 nd:ρ.Nodup
 obj:∀(i:Nat) (o:AO) (a:Addr),H[i]?=some o->ρ[i]?=some a->ORep Γ ρ h o a
 off:∀(i:Nat) (a:Addr),ρ[i]?=some a->(∀l,H[i]?≠some (.pin l))->Γ.base.get? a=none
 nm:∀a∈ρ,a≠1
theorem Ho{Γ:Gam}{h:Heap}{a:Addr}(hb:Le Γ.base h)(ha:h.objs.size<=a):a≠1:=by
 refine e32 Γ.g λo es ep ho _=>?_;have:=cF (hb _ _ ho);rintro rfl;exact absurd (dT this ha) (by decide)
structure Cx where
 sc:dg
 vis:List (Str × Nat)
 cells:List Str
 n:Nat
noncomputable def Cx.kind(c:Cx)(x:Str):Option NameKind:=c.sc.names.lookup x
structure St where
 vars:List (Option AV)
 heap:List AO
noncomputable def ownOf(cx:Cx)(env:Env):List Addr:=env.locals::cx.cells.filterMap (λx=>env.cells.lookup x)
structure EnvRep(Γ:Gam)(cx:Cx)(ρ:List Addr)(h:Heap)(env:Env)(vars:List (Option AV)):Prop where
 len:vars.length=cx.n
 loc:∃m,h.Ns env.locals m/\∀(x:Str) (i:Nat),(x,i)∈cx.vis->cx.kind x=some .local->∀d:AV,vars[i]?=some (some d)->∃v,m x=some v/\VRep ρ h d v
 cell:∀(x:Str) (i:Nat),(x,i)∈cx.vis->cx.kind x=some .cell\/cx.kind x=some .free->∃c vo,env.cells.lookup x=some c/\c∉ρ/\h.IsCell c vo/\∀d:AV,vars[i]?=some (some d)->∃v,vo=some v/\VRep ρ h d v
 inj:∀x y c,env.cells.lookup x=some c->env.cells.lookup y=some c->x=y
 off:∀a∈ownOf cx env,Γ.base.get? a=none
 own:∀a∈ownOf cx env,a∉ρ
 lt:∀a∈ownOf cx env,a<h.objs.size
structure RP(cx:Cx)(env:Env):Prop where
 sc:env.scope=cx.sc
 kind:cx.sc.kind=.function
 gl:env.globals=rF
 bl:env.builtins=wT
 names:∀x i j,(x,i)∈cx.vis->(x,j)∈cx.vis->i=j
 slots:∀x y i,(x,i)∈cx.vis->(y,i)∈cx.vis->x=y
 bound:∀x i,(x,i)∈cx.vis->i<cx.n
structure SimH(Γ:Gam)(ρ:List Addr)(H:List AO)(s:Shared):Prop where
 base:Le Γ.base s.heap
 gens:s.gens=#[]
 os:s.os=Γ.os
 hp:HRep Γ ρ s.heap H
noncomputable def Tr(Γ:Gam)(fs:Option (List Env))(ρ:List Addr)(h:Heap):Prop :=
 ∀l,fs=some l->∀e∈l,e.scope.kind≠.module/\∃L m,e.frame=some L/\Γ.base.get? L=none/\L∉ρ/\h.Ns L m
structure Sim(Γ:Gam)(fs:Option (List Env))(cx:Cx)(ρ:List Addr)(σ:St)(env:Env)(s:Shared):Prop where
 h:SimH Γ ρ σ.heap s
 ok:RP cx env
 vr:EnvRep Γ cx ρ s.heap env σ.vars
 tr:Tr Γ fs ρ s.heap
 hd:∀l,fs=some l->∃e r,l=e::r/\e.frame=env.frame
def Cd(o:Obj):Prop:=∃es ep,o.data=.dict es ep
structure Step(F own:List Addr)(ρ ae:List Addr)(h h':Heap):Prop where
 ext:∃new,ae=ρ++new/\∀a∈new,h.objs.size<=a
 keep':∀b o,b∉ρ->b∉own->h.get? b=some o->h'.get? b=some o\/(b∈F/\Cd o/\∃sl,h'.get? b=some {o with slots:=sl})
 imm:ImmLe h h'
 size:h.objs.size<=h'.objs.size
theorem Step.keep{F own ρ ae:List Addr}{h h':Heap}(x:Step F own ρ ae h h')(b:Addr)(o:Obj)(hb:b∉ρ)(ho:b∉own)(e:h.get? b=some o)(hn:¬ Cd o):h'.get? b=some o :=
 (x.keep' b o hb ho e).resolve_right λq=>hn q.2.1
theorem Step.keepF{F own ρ ae:List Addr}{h h':Heap}(x:Step F own ρ ae h h')(b:Addr)(o:Obj)(hb:b∉ρ)(ho:b∉own)(e:h.get? b=some o)(hn:b∉F):h'.get? b=some o :=
 (x.keep' b o hb ho e).resolve_right λq=>hn q.1
noncomputable def frs(A:Around):List Addr:=(A.frames.getD []).filterMap (·.frame)
theorem Step.there{F own ρ ae:List Addr}{h h':Heap}(x:Step F own ρ ae h h'){b:Addr}{o:Obj}(hb:b∉ρ)(ho:b∉own)(e:h.get? b=some o):∃sl,h'.get? b=some {o with slots:=sl}:=by
 rcases x.keep' b o hb ho e with q|⟨_,_,q⟩
 ·exact ⟨o.slots,q⟩
 ·exact q
theorem Step.keepNs{F own ρ ae:List Addr}{h h':Heap}(x:Step F own ρ ae h h'){b:Addr}{m:Str->Option Value}(hb:b∉ρ)(ho:b∉own)(n:h.Ns b m):h'.Ns b m:=by
 refine e33 n ?_;clear n;intro o es ep e d r;refine e11 (x.there hb ho e) λsl q=>?_;exact B9 _ es ep q d r
theorem Step.keepCell{F own ρ ae:List Addr}{h h':Heap}(x:Step F own ρ ae h h'){b:Addr}{v:Option Value}(hb:b∉ρ)(ho:b∉own)(n:h.IsCell b v):h'.IsCell b v:=by
 refine e12 n ?_;clear n;intro o e d;refine e11 (x.there hb ho e) λsl q=>?_;exact aB _ q d
theorem Step.refl{F:List Addr}(own ρ:List Addr)(h:Heap):Step F own ρ ρ h h:=⟨⟨[],by simp,λ_ q=>by cases q⟩,λ_ _ _ _ e=>.inl e,.refl _,aq _⟩
theorem Step.pre{F own ρ ae:List Addr}{h h':Heap}(x:Step F own ρ ae h h'):Pre ρ ae:=let ⟨n,e,_⟩:=x.ext;⟨n,e⟩
theorem Step.trans{F own az aP dz:List Addr}{bf bv fi:Heap}(x:Step F own az aP bf bv)(y:Step F own aP dz bv fi):Step F own az dz bf fi:=by
 refine e12 x.ext λn e fn=>?_;refine e12 y.ext λm e' fm=>?_;subst e;subst e';refine ⟨⟨n++m,by simp,λa ha=>?_⟩,λb o hb ho e=>?_,x.imm.trans y.imm,ah x.size y.size⟩
 ·refine cT (cU.mp ha) (λq=>?_) λq=>?_
  ·exact fn a q
  ·exact ah x.size (fm a q)
 ·have iM:b∉az++n:=λq=>by
   refine cT (cU.mp q) (λq=>?_) λq=>?_
   ·exact hb q
   ·exact absurd (cF e) (bQ.mpr (fn b q))
  rcases x.keep' b o hb ho e with q|⟨f,d,sl,q⟩
  ·exact y.keep' b o iM ho q
  ·refine e11 (y.there iM ho q) λRo q'=>?_;exact .inr ⟨f,d,Ro,q'⟩
theorem Step.of_le{F own ρ:List Addr}{h h':Heap}(x:Le h h')(hs:h.objs.size<=h'.objs.size):Step F own ρ ρ h h' :=
 ⟨⟨[],by simp,λ_ q=>by cases q⟩,λb o _ _ e=>.inl (x b o e),x.imm,hs⟩
theorem Le.size{h h':Heap}{a:Addr}{o:Obj}(x:Le h h')(e:h.get? a=some o):a<h'.objs.size:=cF (x _ _ e)
theorem Step.vrep{F own ρ ae:List Addr}{h h':Heap}(x:Step F own ρ ae h h'){d:AV}{v:Value}(r:VRep ρ h d v):VRep ae h' d v:=VRep.mono x.pre x.imm _ _ r
theorem Step.vreps{F own ρ ae:List Addr}{h h':Heap}(x:Step F own ρ ae h h'){d:List AV}{v:List Value}(r:VReps ρ h d v):VReps ae h' d v:=VReps.mono x.pre x.imm _ _ r
theorem ORep.mono{Γ:Gam}{ρ ae:List Addr}{h h':Heap}{o:AO}{a:Addr}(hp:Pre ρ ae)(hi:ImmLe h h')(hk:∀x,h.get? a=some x->h'.get? a=some x)(r:ORep Γ ρ h o a):ORep Γ ae h' o a:=by
 induction o using AO.casesOn with
 |list l=>refine e22 r ?_;clear r;intro vs n e x;exact bZ vs n (hk _ e) (VReps.mono hp hi _ _ x)
 |dict es v=>refine e23 r ?_;clear r;intro aQ ep ch y z;refine e22 ch λo e' q x=>?_;exact fk aQ ep ⟨o,e',hk _ q,x⟩ (y.mono hp hi) z
 |set l=>refine e12 r ?_;clear r;intro S cg y;refine e42 cg λo e ep t q x=>?_;exact aB S ⟨o,e,ep,t,hk _ q,x⟩ y
 |inst c d=>refine e12 r ?_;clear r;intro dx e x;exact aB dx (hk _ e) (hp.get x)
 |ns fs=>refine e23 r ?_;clear r;intro aD n e x y;exact fk aD n (hk _ e) (x.mono hp hi) y
 |slots c d vs=>refine e23 r ?_;clear r;intro us dx e hd cm;refine e12 cm λws q x=>?_;exact ⟨us,dx,hk _ e,hp.get hd,ws,q,VReps.mono hp hi _ _ x⟩
 |iter l i=>refine e12 r ?_;clear r;intro la e q;exact aB la (hp.get e) (hk _ q)
 |dead=>refine e12 r ?_;clear r;intro o q x;exact aB o (hk _ q) x
 |pin l=>refine e34 r ?_;clear r;intro o vs n e c d cW;refine e02 cW λx y=>?_;exact ⟨o,vs,n,hk _ e,c,d,VReps.mono hp hi _ _ x,y⟩
theorem ORep.get{Γ:Gam}{ρ:List Addr}{h:Heap}{o:AO}{a:Addr}(r:ORep Γ ρ h o a):∃x,h.get? a=some x:=by
 induction o using AO.casesOn with
 |list l=>refine e22 r ?_;clear r;intro vs n e x;exact ⟨_,e⟩
 |dict es v=>refine e22 r ?_;clear r;intro aQ ep d0 y;refine e22 d0 λo e' q x=>?_;exact ⟨_,q⟩
 |set l=>refine e12 r ?_;clear r;intro S d5 y;refine e42 d5 λo e ep t q x=>?_;exact ⟨_,q⟩
 |inst c d=>refine e12 r ?_;clear r;intro dx e x;exact ⟨_,e⟩
 |ns fs=>refine e23 r ?_;clear r;intro aD n e x y;exact ⟨_,e⟩
 |slots c d vs=>refine e23 r ?_;clear r;intro us dx e hd dJ;refine e12 dJ λws q x=>?_;exact ⟨_,e⟩
 |iter l i=>refine e12 r ?_;clear r;intro la e q;exact ⟨_,q⟩
 |dead=>refine e12 r ?_;clear r;intro o q x;exact ⟨_,q⟩
 |pin l=>refine e32 r ?_;clear r;intro o vs n e x;exact ⟨_,e⟩
theorem HRep.lt{Γ:Gam}{ρ:List Addr}{h:Heap}{H:List AO}(x:HRep Γ ρ h H){a:Addr}(ha:a∈ρ):a<h.objs.size:=by
 refine e11 (qT ha) λi dY=>?_;refine e11 dY λhi eT=>?_;subst eT;have:i<H.length:=x.len▸hi;refine e11 ((x.obj i H[i] ρ[i] (eE this) (eE hi)).get) λo e=>?_;exact cF e
theorem HRep.mono{Γ:Gam}{ρ:List Addr}{h h':Heap}{H:List AO}(x:HRep Γ ρ h H)(hi:ImmLe h h')(hk:∀a∈ρ,∀o,h.get? a=some o->h'.get? a=some o):HRep Γ ρ h' H :=
 ⟨x.len,x.nd,λi o a e q=>ORep.mono (.refl _) hi (hk a (lZ q)) (x.obj i o a e q),x.off,x.nm⟩
theorem sj{α:Type}{l:List α}(h:l.Nodup){i j:Nat}{a:α}(h1:l[i]?=some a)(h2:l[j]?=some a):i=j:=by
 refine e11 (ei.mp h1) λp1 e1=>?_;refine e11 (ei.mp h2) λp2 e2=>?_;rcases LL i j with q|q|q
 ·exact absurd (e1.trans e2.symm) (LM.mp h i j p1 p2 q)
 ·exact q
 ·exact absurd (e2.trans e1.symm) (LM.mp h j i p2 p1 q)
theorem HRep.set{Γ:Gam}{ρ:List Addr}{h h':Heap}{H:List AO}{i:Nat}{a:Addr}{o':AO}(x:HRep Γ ρ h H)(ha:ρ[i]?=some a)(xI:Γ.base.get? a=none)(hi:ImmLe h h')(hk:∀b,b≠a->∀o,h.get? b=some o->h'.get? b=some o)
  (r:ORep Γ ρ h' o' a):HRep Γ ρ h' (H.set i o'):=by
 refine ⟨by simpa using x.len,x.nd,λj o b e q=>?_,λj b q hp=>?_,x.nm⟩
 rotate_left
 ·by_cases dh:j=i
  ·clear hp;subst dh;rw[ha] at q;(injection q with eS;subst eS);exact xI
  ·exact x.off j b q λl e=>hp l (by erw[mN (bV dh)];exact e)
 by_cases dh:j=i
 ·subst dh;rw[ha] at q;(injection q with hG;subst hG)
  have hl:j<H.length:=x.len▸(ei.mp ha).1;rw[wr hl] at e
  (injection e with fw;subst fw);exact r
 ·have Rg:b≠a:=by
   rintro rfl;exact dh (sj x.nd q ha)
  rw[mN (bV dh)] at e;exact ORep.mono (.refl _) hi (hk b Rg) (x.obj j o b e q)
theorem HRep.push{Γ:Gam}{ρ:List Addr}{h h':Heap}{H:List AO}{a:Addr}{o':AO}(x:HRep Γ ρ h H)(hb:Le Γ.base h)(ha:h.objs.size<=a)(hi:ImmLe h h')(hk:∀b∈ρ,∀o,h.get? b=some o->h'.get? b=some o)
  (r:ORep Γ (ρ++[a]) h' o' a):HRep Γ (ρ++[a]) h' (H++[o']):=by
 have xr:a∉ρ:=λq=>absurd (x.lt q) (bQ.mpr ha);refine ⟨by simp[x.len],?_,λj o b e q=>?_,λj b q hp=>?_,λb BQ=>(cU.mp BQ).elim (x.nm b) λq=>by simp at q;exact q▸Ho hb ha⟩
 ·erw[jw];exact ⟨x.nd,by simp,λb hb c hc=>by simp at hc;subst hc;rintro rfl;exact xr hb⟩
 ·by_cases hj:j<ρ.length
  ·rw[lf hj] at q;rw[lf (x.len▸hj)] at e;exact ORep.mono ⟨[a],rfl⟩ hi (hk b (lZ q)) (x.obj j o b e q)
  ·have pO:j=ρ.length:=by
    have:=(ei.mp q).1;simp at this;exact fJ (dU this) (d8 hj)
   clear hj;subst pO;simp at q;subst q;rw[x.len] at e;simp at e;subst e;exact r
 ·by_cases hj:j<ρ.length
  ·rw[lf hj] at q;exact x.off j b q λl e=>hp l (by erw[lf (x.len▸hj)];exact e)
  ·have pO:j=ρ.length:=by
    have:=(ei.mp q).1;simp at this;exact fJ (dU this) (d8 hj)
   clear hj hp;subst pO;simp at q;subst q;cases e:Γ.base.get? a with
   |none=>rfl
   |some o=>exact absurd (cF (hb _ _ e)) (bQ.mpr ha)
theorem EnvRep.step{Γ:Gam}{cx:Cx}{F X ρ ae:List Addr}{h h':Heap}{env:Env}{vars:List (Option AV)}(x:EnvRep Γ cx ρ h env vars)(st:Step F X ρ ae h h')(hX:∀a∈X,h.objs.size<=a):EnvRep Γ cx ae h' env vars:=by
 refine e12 (id st.ext) λnew e fn=>?_;have hx:∀b,b<h.objs.size->b∉X:=λb e q=>absurd e (bQ.mpr (hX b q));have Gl:∀c:Addr,c<h.objs.size->c∉ρ->c∉ae:=λc hc hn q=>by
  clear st;subst e;refine cT (cU.mp q) (λq=>?_) λq=>?_
  ·exact hn q
  ·exact absurd hc (bQ.mpr (fn c q))
 refine ⟨x.len,?_,λy i hv cC=>?_,x.inj,x.off,λa ha=>Gl a (x.lt a ha) (x.own a ha),λa ha=>dT (x.lt a ha) st.size⟩
 ·refine e12 x.loc λm hn hl=>?_;refine aB m ?_ (λy i hv Qc d hd=>let ⟨v,e1,e2⟩:=hl y i hv Qc d hd;⟨v,e1,st.vrep e2⟩);exact st.keepNs (x.own _ (aG)) (hx _ hn.lt) hn
 ·refine e24 (x.cell y i hv cC) λc vo e1 e2 e3 e4=>?_;exact hM c vo e1 (Gl c e3.lt e2) (st.keepCell e2 (hx _ e3.lt) e3) (λd hd=>let ⟨v,f1,f2⟩:=e4 d hd;⟨v,f1,st.vrep f2⟩)
theorem Tr.step{Γ:Gam}{fs:Option (List Env)}{F X ρ ae:List Addr}{h h':Heap}(x:Tr Γ fs ρ h)(st:Step F X ρ ae h h')(hX:∀a∈X,h.objs.size<=a):Tr Γ fs ae h':=λl hl e he=>by
 refine e02 (x l hl e he) λk fA=>?_;refine e24 fA λL m e1 e2 e3 e4=>?_;refine e12 st.ext λnew en fn=>?_;refine ⟨k,L,m,e1,e2,λq=>?_,st.keepNs e3 (λq=>absurd e4.lt (bQ.mpr (hX L q))) e4⟩;rw[en] at q;refine cT (cU.mp q) (λq=>?_) λq=>?_
 ·exact e3 q
 ·exact absurd e4.lt (bQ.mpr (fn L q))
theorem Tr.own{Γ:Gam}{fs:Option (List Env)}{ρ:List Addr}{h h':Heap}{a:Addr}(x:Tr Γ fs ρ h)(aW:fK a h h')(hn:∀m,h.Ns a m->∃m',h'.Ns a m'):Tr Γ fs ρ h':=λl hl e he=>by
 refine e02 (x l hl e he) λk iH=>?_;refine e24 iH λL m e1 e2 e3 e4=>?_;by_cases q:L=a
 ·clear aW;subst q;refine e11 (hn m e4) λm' q'=>?_;exact ⟨k,L,m',e1,e2,e3,q'⟩
 ·exact ⟨k,L,m,e1,e2,e3,e4.sameBut aW q⟩
theorem Tr.le{Γ:Gam}{fs:Option (List Env)}{ρ:List Addr}{h h':Heap}(x:Tr Γ fs ρ h)(hl:Le h h'):Tr Γ fs ρ h':=λl g9 e he=>by
 refine e02 (x l g9 e he) λk jR=>?_;refine e24 jR λL m e1 e2 e3 e4=>?_;exact ⟨k,L,m,e1,e2,e3,e4.keeps hl⟩
theorem Sim.step{Γ:Gam}{fs:Option (List Env)}{cx:Cx}{F X ρ ae:List Addr}{σ:St}{H':List AO}{env:Env}{s s':Shared}(x:Sim Γ fs cx ρ σ env s)(st:Step F X ρ ae s.heap s'.heap)(hX:∀a∈X,s.heap.objs.size<=a)(h':SimH Γ ae H' s') :
  Sim Γ fs cx ae ⟨σ.vars,H'⟩ env s':=⟨h',x.ok,x.vr.step st hX,x.tr.step st hX,x.hd⟩
theorem SimH.le{Γ:Gam}{ρ:List Addr}{H:List AO}{s s':Shared}(x:SimH Γ ρ H s)(hl:Le s.heap s'.heap)(hg:s'.gens=s.gens)(ho:s'.os=s.os):SimH Γ ρ H s' :=
 ⟨x.base.trans hl,hg.trans x.gens,ho.trans x.os,x.hp.mono hl.imm λ_ _ _ e=>hl _ _ e⟩
theorem Step.widen{F own ρ ae:List Addr}{h h':Heap}(x:Step F [] ρ ae h h'):Step F own ρ ae h h':=⟨x.ext,λb o hb _ e=>x.keep' b o hb eQ e,x.imm,x.size⟩
theorem xU{h:Heap}{a:Addr}{m:Str->Option Value}(hn:h.Ns a m){o:Obj}(e:h.get? a=some o):¬ cz o:=by
 refine e33 hn ?_;clear hn;intro o' es ep ho hd _;rw[e] at ho;(injection ho with jJ;subst jJ)
 unfold cz;erw[hd];exact id
theorem Hp{h:Heap}{c:Addr}{v:Option Value}(x:h.IsCell c v){o:Obj}(e:h.get? c=some o):¬ cz o:=by
 refine e12 x ?_;clear x;intro o' ho hd;rw[e] at ho;(injection ho with jP;subst jP)
 unfold cz;erw[hd];exact id
theorem xV{h:Heap}{c L:Addr}{v:Option Value}{m:Str->Option Value}(x:h.IsCell c v)(y:h.Ns L m):c≠L:=by
 rintro rfl;refine e12 x ?_;clear x;intro o e d;refine e33 y ?_;clear y;intro o' es ep ho hd _;rw[e] at ho;(injection ho with jI;subst jI);rw[d] at hd;injection hd
theorem gr{a:Addr}{h h':Heap}(x:fK a h h')(hn:∀o,h.get? a=some o->¬ cz o):ImmLe h h':=λb o i e=>by
 by_cases q:b=a
 ·clear x;subst q;exact absurd i (hn o e)
 ·exact (x.2 b q).trans e
theorem Step.own{F own ρ:List Addr}{h h':Heap}{a:Addr}(x:fK a h h')(hn:∀o,h.get? a=some o->¬ cz o)(ha:a∈own):Step F own ρ ρ h h' :=
 ⟨⟨[],by simp,λ_ q=>by cases q⟩,λb o _ hb e=>.inl ((x.2 b (λq=>hb (q▸ha))).trans e),gr x hn,aE x.1.symm⟩
theorem Step.obj{F own ρ:List Addr}{h h':Heap}{a:Addr}(x:fK a h h')(hn:∀o,h.get? a=some o->¬ cz o)(ha:a∈ρ):Step F own ρ ρ h h' :=
 ⟨⟨[],by simp,λ_ q=>by cases q⟩,λb o hb _ e=>.inl ((x.2 b (λq=>hb (q▸ha))).trans e),gr x hn,aE x.1.symm⟩
theorem ORep.not_immut{Γ:Gam}{ρ:List Addr}{h:Heap}{o:AO}{a:Addr}(r:ORep Γ ρ h o a){x:Obj}(e:h.get? a=some x):¬ cz x:=by
 induction o using AO.casesOn with
 |list l=>refine e22 r ?_;clear r;intro vs n q _;rw[e] at q;(injection q with lJ;subst lJ);intro i;exact absurd (show (nH "list")=.type "tuple" from i) (by decide)
 |dict es v=>refine e22 r ?_;clear r;intro aQ ep mV _;refine e24 mV λo e' q _ hd _=>?_;rw[e] at q;(injection q with u8;subst u8);unfold cz;erw[hd];exact id
 |set l=>obtain ⟨S,⟨o,es,ep,t,q,_,hd,_⟩,_⟩:=r;rw[e] at q;(injection q with uO;subst uO);unfold cz;erw[hd];exact id
 |inst c d=>refine e12 r ?_;clear r;intro dx q _;rw[e] at q;(injection q with pS;subst pS);exact id
 |ns fs=>refine e22 r ?_;clear r;intro aD n q _;rw[e] at q;(injection q with pJ;subst pJ);exact id
 |slots c d vs=>refine e22 r ?_;clear r;intro us dx q _;rw[e] at q;(injection q with pX;subst pX);exact id
 |iter l i=>
  refine e12 r ?_;clear r;intro la _ q;rw[e] at q;(injection q with pK;subst pK)
  unfold cz;dsimp only;rintro (i|i|i)<;>exact absurd i (by decide)
 |dead=>refine e12 r ?_;clear r;intro o q n;rw[e] at q;(injection q with pE;subst pE);exact n
 |pin l=>
  refine e34 r ?_;clear r;intro o vs n q c d _;rw[e] at q;(injection q with ur;subst ur)
  unfold cz;erw[d];intro i;dsimp only at i;rw[c] at i;exact absurd i (by decide)
theorem EnvRep.store{Γ:Gam}{cx:Cx}{ρ:List Addr}{h:Heap}{env:Env}{vars:List (Option AV)}(x:EnvRep Γ cx ρ h env vars)(hs:env.scope=cx.sc)(et:∀x y i,(x,i)∈cx.vis->(y,i)∈cx.vis->x=y)
  (hb:∀x i,(x,i)∈cx.vis->i<cx.n) (uY:∀x i j,(x,i)∈cx.vis->(x,j)∈cx.vis->i=j) {y:Str} {i:Nat} (hv:(y,i)∈cx.vis) {d:AV} {v:Value} (hr:VRep ρ h d v) :
  (cx.kind y=some .local->∀h',h'.Ns env.locals (λz=>if z=y then some v else Classical.choose x.loc z)->fK env.locals h h'->EnvRep Γ cx ρ h' env (vars.set i (some d))) /\
  (cx.kind y=some .cell->y∈cx.cells->∃c vo,env.cells.lookup y=some c/\h.IsCell c vo/\c∈ownOf cx env/\∀h',h'.IsCell c (some v)->fK c h h'->EnvRep Γ cx ρ h' env (vars.set i (some d))):=by
 have uz:i<vars.length:=x.len▸hb y i hv;constructor
 ·intro hk h' hn aW;have hL:=LN x.loc;have im:=gr aW (λo e=>xU hL.1 e);refine ⟨by simp[x.len],⟨_,hn,λz j hz lr e he=>?_⟩,λz j hz lr=>?_,x.inj,x.off,x.own,λa ha=>aW.1▸x.lt a ha⟩
  ·by_cases q:z=y
   ·clear hn hk;subst q;have:i=j:=uY z i j hv hz;clear hz;subst this;rw[wr uz] at he;(injection he with BO;injection BO with B7;subst B7)
    exact aB v (by simp) (VRep.mono (.refl _) im _ _ hr)
   ·have dh:i≠j:=λe=>q (et z y i (e▸hz) hv);rw[mN dh] at he;refine e12 (hL.2 z j hz lr e he) λu e1 e2=>?_;exact aB u (by erw[if_neg q];exact e1) (VRep.mono (.refl _) im _ _ e2)
  ·refine e24 (x.cell z j hz lr) λc vo e1 e2 e3 e4=>?_;have Bi:c≠env.locals:=xV e3 hL.1;have Bu:z≠y:=by
    rintro rfl;rw[hk] at lr;rcases lr with q|q<;>(injection q with BD;injection BD)
   have dh:i≠j:=λe=>Bu (et z y i (e▸hz) hv);refine hM c vo e1 e2 (e3.sameBut aW Bi) (λe he=>?_);rw[mN dh] at he;refine e12 (e4 e he) λu f1 f2=>?_;exact aB u f1 (VRep.mono (.refl _) im _ _ f2)
 ·intro hk hc;refine e24 (x.cell y i hv (.inl hk)) λc vo e1 e2 e3 e4=>?_;refine hM c vo e1 e3 (aL _ (oX.mpr ⟨y,hc,e1⟩)) (λh' hn aW=>?_);have im:=gr aW (λo e=>Hp e3 e);refine ⟨by simp[x.len],?_,λz j hz lr=>?_,x.inj,x.off,x.own,λa ha=>aW.1▸x.lt a ha⟩
  ·refine e12 x.loc λm hm hl=>?_;have Bi:env.locals≠c:=bV (xV e3 hm);refine aB m (hm.sameBut aW Bi) (λz j hz lr e he=>?_);have Bu:z≠y:=by
    rintro rfl;rw[hk] at lr;(injection lr with BR;injection BR)
   have dh:i≠j:=λe=>Bu (et z y i (e▸hz) hv);rw[mN dh] at he;refine e12 (hl z j hz lr e he) λu f1 f2=>?_;exact aB u f1 (VRep.mono (.refl _) im _ _ f2)
  ·refine e24 (x.cell z j hz lr) λc' OC f1 f2 f3 f4=>?_;by_cases q:z=y
   ·clear hk hc;subst q;rw[e1] at f1;(injection f1 with BZ;subst BZ)
    have:i=j:=uY z i j hv hz;clear hz f4;subst this;refine hM c (some v) e1 e2 hn (λe he=>?_);rw[wr uz] at he;(injection he with Bj;injection Bj with B0;subst B0)
    exact aB v rfl (VRep.mono (.refl _) im _ _ hr)
   ·have qc:c'≠c:=λe=>q (x.inj z y c (e▸f1) e1);have dh:i≠j:=λe=>q (et z y i (e▸hz) hv);refine hM c' OC f1 f2 (f3.sameBut aW qc) (λe he=>?_);rw[mN dh] at he;refine e12 (f4 e he) λu g1 g2=>?_;exact aB u g1 (VRep.mono (.refl _) im _ _ g2)
theorem SimH.own{Γ:Gam}{cx:Cx}{env:Env}{ρ:List Addr}{H:List AO}{vars:List (Option AV)}{s s':Shared}{a:Addr}(x:SimH Γ ρ H s)(vr:EnvRep Γ cx ρ s.heap env vars)(aW:fK a s.heap s'.heap)(ha:a∈ownOf cx env)
  (hn:∀o,s.heap.get? a=some o->¬ cz o) (hg:s'.gens=s.gens) (ho:s'.os=s.os):SimH Γ ρ H s':=by
 refine ⟨λb o e=>?_,hg.trans x.gens,ho.trans x.os,x.hp.mono (gr aW hn) λb hb o e=>?_⟩
 ·have:b≠a:=by
   rintro rfl;rw[vr.off b ha] at e;injection e
  exact (aW.2 b this).trans (x.base b o e)
 ·have:b≠a:=by
   rintro rfl;exact vr.own b ha hb
  exact (aW.2 b this).trans e
structure Room(k:Nat)(A:Around):Prop where
 depth:A.depth+k<recursionLimit
 units:A.units+200*k+200<fO
 none_:k≠0->A.handled=none
 fr:A.frames.isSome=true
theorem Room.le{k j:Nat}{A:Around}(x:Room k A)(h:j<=k):Room j A:=⟨by have:=x.depth;exact ah (cr (fH h _)) this,by have:=x.units;exact zJ (mL (fH (fe _ h) _) _) this,λq=>x.none_ (by lia),x.fr⟩
theorem Room.handled{k:Nat}{A:Around}[NeZero k](x:Room k A):A.handled=none:=x.none_ (LO k)
theorem Room.one{k:Nat}{A:Around}[NeZero k](x:Room k A):Room 1 A:=x.le (Nat.one_le_iff_ne_zero.mpr (LO k))
theorem Room.in1{k:Nat}{A:Around}(x:Room (k+1) A):Room k A.in1:=⟨by have:=x.depth;simp;exact bk this,by have:=x.units;simp;lia,λzz=>x.none_ (by lia),x.fr⟩
theorem Room.deeper{k:Nat}{A:Around}{env:Env}(x:Room (k+1) A):Room k (A.deeper env):=⟨by have:=x.depth;simp[LP];exact ah (cr (aE (gC _ _ _))) this,by have:=x.units;simp;lia,λzz=>x.none_ (by lia),by have:=x.fr;simpa[LP] using this⟩
theorem Room.u{k:Nat}{A:Around}(x:Room k A):A.units<fO:=by have:=x.units;exact ah (cr (gE (bK _ _))) this
theorem Room.u'{k:Nat}{A:Around}(x:Room k A):A.units+100<fO:=by have:=x.units;exact ah (cr (aF (bK _ _) (bL rfl))) this
theorem Tr.frNs{Γ:Gam}{A:Around}{ρ:List Addr}{h:Heap}(x:Tr Γ A.frames ρ h){a:Addr}(ha:a∈frs A):∃m,h.Ns a m:=by
 unfold frs at ha;cases e:A.frames with
 |none=>rw[e] at ha;simp at ha
 |some l=>
  rw[e] at ha;refine e12 (oX.mp ha) λen he hf=>?_;refine e02 (x l e en he) λ_ aC=>?_;refine e24 aC λL m e1 _ _ e4=>?_;rw[e1] at hf;(injection hf with aI;subst aI)
  exact ⟨m,e4⟩
theorem RQ{A:Around}{l:List Env}{e:Env}{L:Addr}(h:A.frames=some l)(he:e∈l)(hL:e.frame=some L):L∈frs A:=by
 unfold frs;erw[h];exact oX.mpr ⟨e,he,hL⟩
noncomputable def Rn(Γ:Gam)(A:Around)(own ρ:List Addr)(s:Shared){α:Type}(t:Sem α)(P:α->List Addr->Shared->Prop):Prop :=
 aj (av Γ.prog Γ.w) A t (λa s'=>∃ae,Step (frs A) own ρ ae s.heap s'.heap/\P a ae s') (λzz zz=>False) s
section
variable{Γ:Gam}{A:Around}{own ρ:List Addr}{s:Shared}{α β:Type}
theorem Rn.bind{t:Sem α}{f:α->Sem β}{P:α->List Addr->Shared->Prop}{P':β->List Addr->Shared->Prop}(h:Rn Γ A own ρ s t P)
  (hf:∀a ae s',Step (frs A) own ρ ae s.heap s'.heap->P a ae s'->Rn Γ A own ae s' (f a) P'):Rn Γ A own ρ s (t >>= f) P':=by
 refine ag (ba h (λa s' q7=>e12 q7 λae st p=>?_) λzz zz x=>x);exact ba (hf a ae s' st p) (λb ky q7=>e12 q7 λgp ee p'=>aB gp (st.trans ee) p') λzz zz x=>x
theorem Rn.mono{t:Sem α}{P P':α->List Addr->Shared->Prop}(h:Rn Γ A own ρ s t P)(hp:∀a ae s',Step (frs A) own ρ ae s.heap s'.heap->P a ae s'->P' a ae s'):Rn Γ A own ρ s t P' :=
 ba h (λa s' q7=>e12 q7 λae st p=>aB ae st (hp a ae s' st p)) λzz zz x=>x
theorem Rn.widen{t:Sem α}{P:α->List Addr->Shared->Prop}(h:Rn Γ A [] ρ s t P):Rn Γ A own ρ s t P :=
 ba h (λzz zz q7=>e12 q7 λae st p=>aB ae st.widen p) λzz zz x=>x
theorem Rn.pure{a:α}{P:α->List Addr->Shared->Prop}(h:P a ρ s):Rn Γ A own ρ s (Pure.pure a) P:=am ⟨ρ,.refl ..,h⟩
theorem Rn.to{t:Sem α}{P:α->List Addr->Shared->Prop}{Q:α->Shared->Prop}{E:Value->Shared->Prop}(h:Rn Γ A own ρ s t P)
  (hq:∀a ae s',Step (frs A) own ρ ae s.heap s'.heap->P a ae s'->Q a s'):aj (av Γ.prog Γ.w) A t Q E s :=
 ba h (λa s' q7=>e12 q7 λae st p=>hq a ae s' st p) λzz zz x=>x.elim
theorem Rn.of{t:Sem α}{P:α->List Addr->Shared->Prop}(h:aj (av Γ.prog Γ.w) A t (λa s'=>∃ae,Step (frs A) own ρ ae s.heap s'.heap/\P a ae s') (λzz zz=>False) s):Rn Γ A own ρ s t P:=h
theorem Rn.rule{tag:String}{f:Unit->Sem β}{P:β->List Addr->Shared->Prop}(h:Rn Γ A own ρ s (f ()) P):Rn Γ A own ρ s (rule tag >>= f) P:=ag (mf h)
theorem Rn.standAt{pos:Pos}{f:Unit->Sem β}{P:β->List Addr->Shared->Prop}(h:Rn Γ A own ρ s (f ()) P):Rn Γ A own ρ s (standAt pos >>= f) P:=ag (gZ h)
theorem Rn.holding{vs:List Value}{t:Sem α}{P:α->List Addr->Shared->Prop}(h:Rn Γ A own ρ s t P):Rn Γ A own ρ s (holding vs t) P:=cu h
theorem Rn.point{f:Unit->Sem β}{P:β->List Addr->Shared->Prop}(h:Rn Γ A own ρ s (f ()) P):Rn Γ A own ρ s (point >>= f) P:=ag (AB h)
end
structure SLe(s s':Shared):Prop where
 le:Le s.heap s'.heap
 size:s.heap.objs.size<=s'.heap.objs.size
 gens:s'.gens=s.gens
 os:s'.os=s.os
theorem SLe.refl(s:Shared):SLe s s:=⟨.refl _,aq _,rfl,rfl⟩
theorem SLe.trans{a b c:Shared}(x:SLe a b)(y:SLe b c):SLe a c:=⟨x.le.trans y.le,ah x.size y.size,y.gens.trans x.gens,y.os.trans x.os⟩
theorem SLe.tok(s:Shared)(t:Nat):SLe s {s with toks:=t}:=⟨.refl _,aq _,rfl,rfl⟩
theorem Le.push(h:Heap)(o:Obj):Le h (h.push o):=λzz zz e=>du _ e
theorem SLe.push(s:Shared)(o:Obj)(t:Nat):SLe s {s with heap:=s.heap.push o,toks:=t}:=⟨Le.push _ _,by simp,rfl,rfl⟩
theorem SLe.step{F own ρ:List Addr}{s s':Shared}(x:SLe s s'):Step F own ρ ρ s.heap s'.heap:=.of_le x.le x.size
theorem SLe.vrep{ρ:List Addr}{s s':Shared}(x:SLe s s'){d:AV}{v:Value}(r:VRep ρ s.heap d v):VRep ρ s'.heap d v:=(x.step (F:=[]) (own:=[])).vrep r
theorem SLe.vreps{ρ:List Addr}{s s':Shared}(x:SLe s s'){d:List AV}{v:List Value}(r:VReps ρ s.heap d v):VReps ρ s'.heap d v:=(x.step (F:=[]) (own:=[])).vreps r
theorem SLe.h{Γ:Gam}{ρ:List Addr}{H:List AO}{s s':Shared}(x:SLe s s')(y:SimH Γ ρ H s):SimH Γ ρ H s':=y.le x.le x.gens x.os
theorem SLe.sim{Γ:Gam}{A:Around}{cx:Cx}{ρ:List Addr}{σ:St}{env:Env}{s s':Shared}(x:SLe s s')(y:Sim Γ A.frames cx ρ σ env s):Sim Γ A.frames cx ρ σ env s' :=
 y.step (F:=[]) (X:=[]) x.step (by simp) (x.h y.h)
noncomputable def Pr(Γ:Gam)(A:Around)(ρ:List Addr)(s:Shared)(t:Sem Value)(H':List AO)(d:AV):Prop :=
 Rn Γ A [] ρ s t λv ae s'=>SimH Γ ae H' s'/\VRep ae s'.heap d v
noncomputable def PrU(Γ:Gam)(A:Around)(ρ:List Addr)(s:Shared)(t:Sem Unit)(H':List AO):Prop :=
 Rn Γ A [] ρ s t λzz ae s'=>SimH Γ ae H' s'
noncomputable def PrB(Γ:Gam)(A:Around)(ρ:List Addr)(s:Shared)(t:Sem Bool)(H:List AO)(b:Bool):Prop :=
 Rn Γ A [] ρ s t λb' ae s'=>SimH Γ ae H s'/\b'=b
noncomputable def Ev(Γ:Gam)(k:Nat)(cx:Cx)(σ:St)(e:Expr)(d:AV)(bE:St):Prop :=
 ∀A env s ρ,Room k A->Sim Γ A.frames cx ρ σ env s->Rn Γ A (ownOf cx env) ρ s (eval e env) λv ae s'=>Sim Γ A.frames cx ae bE env s'/\VRep ae s'.heap d v
noncomputable def Ts(Γ:Gam)(k:Nat)(cx:Cx)(σ:St)(e:Expr)(b:Bool)(bE:St):Prop :=
 ∀A env s ρ,Room k A->Sim Γ A.frames cx ρ σ env s->Rn Γ A (ownOf cx env) ρ s (wU e env (eval e env)) λb' ae s'=>Sim Γ A.frames cx ae bE env s'/\b'=b
set_option genCtorIdx true
inductive Fl where
 |next|brk|cont|ret (d:AV)
 deriving Inhabited
set_option genCtorIdx false
def oq(ρ:List Addr)(h:Heap):Fl->Flow->Prop
 |.next,f=>f=.next
 |.brk,f=>f=.brk
 |.cont,f=>f=.cont
 |.ret d,f=>∃v,f=.ret v/\VRep ρ h d v
noncomputable def Ex(Γ:Gam)(k:Nat)(cx:Cx)(σ:St)(ss:List Stmt)(f:Fl)(bE:St):Prop :=
 ∀A env s ρ,Room k A->Sim Γ A.frames cx ρ σ env s->Rn Γ A (ownOf cx env) ρ s (rG ss env) λg ae s'=>Sim Γ A.frames cx ae bE env s'/\oq ae s'.heap f g
noncomputable def Ex1(Γ:Gam)(k:Nat)(cx:Cx)(σ:St)(st:Stmt)(f:Fl)(bE:St):Prop :=
 ∀A env s ρ,Room k A->Sim Γ A.frames cx ρ σ env s->Rn Γ A (ownOf cx env) ρ s (exec st env) λg ae s'=>Sim Γ A.frames cx ae bE env s'/\oq ae s'.heap f g
section
variable{Γ:Gam}{k:Nat}{cx:Cx}{σ bE σ₁ aw:St}{A:Around}{env:Env}{s:Shared}{ρ:List Addr}
theorem Pr.lift{t:Sem Value}{H':List AO}{d:AV}(x:Sim Γ A.frames cx ρ σ env s)(h:Pr Γ A ρ s t H' d):Rn Γ A (ownOf cx env) ρ s t λv ae s'=>Sim Γ A.frames cx ae ⟨σ.vars,H'⟩ env s'/\VRep ae s'.heap d v :=
 (Rn.mono h λzz zz zz st p=>⟨x.step (X:=[]) st (by simp) p.1,p.2⟩).widen
theorem PrU.lift{t:Sem Unit}{H':List AO}(x:Sim Γ A.frames cx ρ σ env s)(h:PrU Γ A ρ s t H'):Rn Γ A (ownOf cx env) ρ s t λzz ae s'=>Sim Γ A.frames cx ae ⟨σ.vars,H'⟩ env s' :=
 (Rn.mono h λzz zz zz st p=>x.step (X:=[]) st (by simp) p).widen
theorem PrB.lift{t:Sem Bool}{b:Bool}(x:Sim Γ A.frames cx ρ σ env s)(h:PrB Γ A ρ s t σ.heap b):Rn Γ A (ownOf cx env) ρ s t λb' ae s'=>Sim Γ A.frames cx ae σ env s'/\b'=b :=
 (Rn.mono h λzz zz zz st p=>⟨x.step (X:=[]) st (by simp) p.1,p.2⟩).widen
theorem Rn.ofSLe{α:Type}{own:List Addr}{t:Sem α}{P:α->List Addr->Shared->Prop}(h:aj (av Γ.prog Γ.w) A t (λa s'=>SLe s s'/\P a ρ s') (λzz zz=>False) s):Rn Γ A own ρ s t P :=
 ba h (λzz zz q7=>e02 q7 λl p=>aB ρ l.step p) λzz zz x=>x
theorem Ev.none{n:Nat}{pos:Pos}:Ev Γ k cx σ (.Constant .none n pos) .none σ:=λA env s ρ zz x=>Rn.ofSLe (am ⟨.refl _,x,rfl⟩)
theorem Ev.bool{b:Bool}{n:Nat}{pos:Pos}:Ev Γ k cx σ (.Constant (.bool b) n pos) (.bool b) σ:=λA env s ρ zz x=>Rn.ofSLe (am ⟨.refl _,x,rfl⟩)
theorem Ev.int{i:Int}{n:Nat}{pos:Pos}:Ev Γ k cx σ (.Constant (.int i) n pos) (.int i) σ:=λA env s ρ zz x=>
 Rn.ofSLe (wpAny_Constant_int ⟨.tok _ _,(SLe.tok _ _).sim x,_,rfl⟩)
theorem RR(c:Str):ao c.cps.toList=c:=by unfold ao;simp
theorem Ev.str{c:Str}{n:Nat}{pos:Pos}:Ev Γ k cx σ (.Constant (.str c) n pos) (.str c.cps.toList) σ:=λA env s ρ zz x=>
 Rn.ofSLe (Calls.Constant_str ⟨.tok _ _,(SLe.tok _ _).sim x,s.toks,by erw[RR]⟩)
theorem Ev.var{y:Str}{i:Nat}{d:AV}{pos:Pos}(hv:(y,i)∈cx.vis)(hd:σ.vars[i]?=some (some d))(hk:cx.kind y=some .local\/cx.kind y=some .cell\/cx.kind y=some .free)
  (h1:(y==("__debug__":Str))=false) (h2:(y==("__classdict__":Str))=false):Ev Γ k cx σ (.Name y pos) d σ:=λA env s ρ zz x=>by
 have iP:env.scope.kind=.function:=by erw[x.ok.sc];exact x.ok.kind
 have g6:env.kindOf y=cx.kind y:=by unfold qU Cx.kind;erw[x.ok.sc]
 refine Rn.ofSLe (wpAny_Name ?_ h1);rcases hk with hk|hk|hk
 ·refine e12 x.vr.loc λm hn hl=>?_;refine e12 (hl y i hv hk d hd) λv e1 e2=>?_;exact N2 iP (g6.trans hk) hn e1 ⟨.refl _,x,e2⟩
 ·refine e24 (x.vr.cell y i hv (.inl hk)) λc vo e1 _ e3 e4=>?_;refine e12 (e4 d hd) λv aS e5=>?_;subst aS;exact N3 iP (g6.trans hk) e1 e3 ⟨.refl _,x,e5⟩
 ·refine e24 (x.vr.cell y i hv (.inr hk)) λc vo e1 _ e3 e4=>?_;refine e12 (e4 d hd) λv be e5=>?_;subst be;exact wpAny_loadName_free iP (g6.trans hk) e1 e3 ⟨.refl _,x,e5⟩ h2
noncomputable def sk(K:Frag)(x:Str):Option Value:=match nsIn K rF x with
 |some (some v)=>some v
 |some none=>if x="__name__" then En else FE x
 |En=>En
theorem Ev.glob{y:Str}{d:AV}{v:Value}{pos:Pos}(hk:cx.kind y=some .globalImplicit)(hg:sk Γ.K y=some v)(hv:∀ρ h,VRep ρ h d v)(h1:(y==("__debug__":Str))=false):Ev Γ k cx σ (.Name y pos) d σ:=λA env s ρ zz x=>by
 have iP:env.scope.kind=.function:=by erw[x.ok.sc];exact x.ok.kind
 have g6:env.kindOf y=cx.kind y:=by unfold qU Cx.kind;erw[x.ok.sc]
 refine Rn.ofSLe (LQ iP (g6.trans hk) ?_ h1);have uU:s.heap.Ns env.globals Γ.mg:=by erw[x.ok.gl];exact Γ.g.keeps x.h.base
 unfold sk at hg;split at hg
 ·rename_i u e
  (injection hg with bw;subst bw)
  exact LR uU (mg_of Γ.inK Γ.g e) ⟨.refl _,x,hv _ _⟩
 ·rename_i e;split at hg
  ·injection hg
  ·rename_i bB;exact LS uU (mg_none_of Γ.inK Γ.g e) (by erw[x.ok.bl];exact Γ.b.keeps x.h.base) ((Γ.builtins y bB).trans hg) ⟨.refl _,x,hv _ _⟩
 ·injection hg
end
section
variable{Γ:Gam}{k:Nat}{cx:Cx}{σ bE σ₁ aw cJ:St}{A:Around}{env:Env}{s:Shared}{ρ:List Addr}
theorem RT{y:Str}{i:Nat}{d:AV}{v:Value}(x:Sim Γ A.frames cx ρ σ env s)(hv:(y,i)∈cx.vis)(hk:cx.kind y=some .local\/(cx.kind y=some .cell/\y∈cx.cells))(hr:VRep ρ s.heap d v) :
  Rn Γ A (ownOf cx env) ρ s (storeName env y v) λzz ae s'=>Sim Γ A.frames cx ae ⟨σ.vars.set i (some d),σ.heap⟩ env s':=by
 have iP:env.scope.kind=.function:=by erw[x.ok.sc];exact x.ok.kind
 have g6:env.kindOf y=cx.kind y:=by unfold qU Cx.kind;erw[x.ok.sc]
 have S:=x.vr.store x.ok.sc x.ok.slots x.ok.bound x.ok.names hv hr;rcases hk with hk|⟨hk,hc⟩
 ·have hL:=LN x.vr.loc;refine wpAny_storeName_local (g6.trans hk) hL.1 (λh' hn aW=>?_) (by erw[iP];rfl);have own:env.locals∈ownOf cx env:=aG;have im:=λo e=>xU hL.1 (o:=o) e;exact aB ρ (.own aW im own) (⟨x.h.own x.vr (s':={s with heap:=h',toks:=s.toks+1}) aW own im rfl rfl,x.ok,S.1 hk h' hn aW,x.tr.own aW λm zz=>⟨_,hn⟩,x.hd⟩)
 ·refine e24 (S.2 hk hc) λc vo e1 e2 e3 e4=>?_;refine wpAny_storeName_cell iP (g6.trans hk) e1 e2 λh' hn aW=>?_;have im:∀o,s.heap.get? c=some o->¬ cz o:=λo e=>Hp e2 e;exact aB ρ (.own aW im e3) ⟨x.h.own x.vr (s':={s with heap:=h'}) aW e3 im rfl rfl,x.ok,e4 h' hn aW,x.tr.own aW λm q=>absurd rfl (xV e2 q),x.hd⟩
theorem Hq{y:Str}{i:Nat}{d:AV}{v:Value}(x:Sim Γ A.frames cx ρ σ env s)(hv:(y,i)∈cx.vis)(hk:cx.kind y=some .local\/(cx.kind y=some .cell/\y∈cx.cells))(hr:VRep ρ s.heap d v) :
  Rn Γ A (ownOf cx env) ρ s (bindName env y v) λzz ae s'=>Sim Γ A.frames cx ae ⟨σ.vars.set i (some d),σ.heap⟩ env s' :=
 wpAny_bindName (RT x hv hk hr)
noncomputable def As(Γ:Gam)(k:Nat)(cx:Cx)(σ:St)(t:Expr)(d:AV)(bE:St):Prop :=
 ∀A env s ρ v,Room k A->Sim Γ A.frames cx ρ σ env s->VRep ρ s.heap d v->Rn Γ A (ownOf cx env) ρ s (assign t env v) λzz ae s'=>Sim Γ A.frames cx ae bE env s'
theorem As.name{y:Str}{i:Nat}{d:AV}{pos:Pos}(hv:(y,i)∈cx.vis)(hk:cx.kind y=some .local\/(cx.kind y=some .cell/\y∈cx.cells)) :
  As Γ k cx σ (.Name y pos) d ⟨σ.vars.set i (some d),σ.heap⟩:=λA env s ρ v zz x hr=>by
 erw[arm_assign_Name];exact Rn.standAt (Hq x hv hk hr)
noncomputable def BinP(Γ:Gam)(op:Operator)(dX eJ:AV)(H:List AO)(d:AV)(H':List AO):Prop :=
 ∀A s ρ v u,Room 0 A->SimH Γ ρ H s->VRep ρ s.heap dX v->VRep ρ s.heap eJ u->Pr Γ A ρ s (binaryOp op v u) H' d
noncomputable def InpP(Γ:Gam)(op:Operator)(dX eJ:AV)(H:List AO)(d:AV)(H':List AO):Prop :=
 ∀A s ρ v u,Room 0 A->SimH Γ ρ H s->VRep ρ s.heap dX v->VRep ρ s.heap eJ u->Pr Γ A ρ s (inplaceOp op v u) H' d
noncomputable def CmpP(Γ:Gam)(op:CmpOp)(dX eJ:AV)(H:List AO)(b:Bool):Prop :=
 ∀A s ρ v u,Room 0 A->SimH Γ ρ H s->VRep ρ s.heap dX v->VRep ρ s.heap eJ u->Pr Γ A ρ s (wV op v u) H (.bool b)
noncomputable def TruP(Γ:Gam)(d:AV)(H:List AO)(b:Bool):Prop :=
 ∀A s ρ v,Room 0 A->SimH Γ ρ H s->VRep ρ s.heap d v->PrB Γ A ρ s (nN v) H b
noncomputable def UnP(Γ:Gam)(op:UnaryOp)(d:AV)(H:List AO)(r:AV):Prop :=
 ∀A s ρ v,Room 0 A->SimH Γ ρ H s->VRep ρ s.heap d v->Pr Γ A ρ s (unaryOp op v) H r
noncomputable def SubP(Γ:Gam)(value slice:Expr)(d i:AV)(H:List AO)(r:AV)(H':List AO):Prop :=
 ∀A s ρ v u,Room 0 A->SimH Γ ρ H s->VRep ρ s.heap d v->VRep ρ s.heap i u->Pr Γ A ρ s (subscriptTail value slice v u) H' r
theorem TruP.bool{b:Bool}{H:List AO}:TruP Γ (.bool b) H b:=λA s ρ v zz x hr=>by
 cases (show v=.bool b from hr);refine Rn.ofSLe ?_;show aj _ _ (pure b) _ _ _;exact am ⟨.refl _,x,rfl⟩
theorem Ev.named{y:Str}{i:Nat}{d:AV}{e:Expr}{tp pos:Pos}(h:Ev Γ k cx σ e d σ₁)(hv:(y,i)∈cx.vis)(hk:cx.kind y=some .local\/(cx.kind y=some .cell/\y∈cx.cells)) :
  Ev Γ k cx σ (.NamedExpr (.Name y tp) e pos) d ⟨σ₁.vars.set i (some d),σ₁.heap⟩:=λA env s ρ R x=>by
 erw[arm_eval_NamedExpr];refine Rn.bind (h A env s ρ R x) λv ae s' st q7=>e02 q7 λx' r=>?_;refine Rn.bind (Rn.holding (As.name hv hk A env s' ae v R x' r)) λzz gp ky ee BW=>Rn.pure ⟨BW,ee.vrep r⟩
theorem Ev.bin{l r:Expr}{op:Operator}{pos:Pos}{dX eJ d:AV}{H':List AO}(h1:Ev Γ k cx σ l dX σ₁)(h2:Ev Γ k cx σ₁ r eJ aw)(h:BinP Γ op dX eJ aw.heap d H') :
  Ev Γ k cx σ (.BinOp l op r pos) d ⟨aw.vars,H'⟩:=λA env s ρ R x=>by
 erw[arm_eval_BinOp];refine Rn.bind (h1 A env s ρ R x) λv az ai aV q7=>e02 q7 λap aU=>Rn.bind (Rn.holding (h2 A env ai az R ap)) λu aP ay aX q7=>e02 q7 λaH b6=>Rn.standAt ?_;exact tH (Pr.lift aH (h A ay aP v u (R.le (bW _)) aH.h (aX.vrep aU) b6))
theorem Ev.un{e:Expr}{op:UnaryOp}{pos:Pos}{d r:AV}(h1:Ev Γ k cx σ e d σ₁)(h:UnP Γ op d σ₁.heap r):Ev Γ k cx σ (.UnaryOp op e pos) r σ₁:=λA env s ρ R x=>by
 erw[arm_eval_UnaryOp];exact Rn.bind (h1 A env s ρ R x) λv az ai aV q7=>e02 q7 λap aU=>Rn.standAt (Rn.holding (Pr.lift ap (h A ai az v (R.le (bW _)) ap.h aU)))
theorem Ev.ife{c a b:Expr}{pos:Pos}{t:Bool}{d:AV}(hc:Ts Γ k cx σ c t σ₁)(ha:t=true->Ev Γ k cx σ₁ a d aw)(hb:t=false->Ev Γ k cx σ₁ b d aw):Ev Γ k cx σ (.IfExp c a b pos) d aw:=λA env s ρ R x=>by
 erw[arm_eval_IfExp];refine Rn.bind (hc A env s ρ R x) λt' az ai aV q7=>e02 q7 λap e=>?_;subst e;induction t' using dN with
 |true=>exact ha rfl A env ai az R ap
 |false=>exact hb rfl A env ai az R ap
theorem Ce{op:CmpOp}{r:Expr}(hm:ph op r=false)(t:Sem Value):AC op r t=t:=by unfold AC;erw[hm]
theorem Ev.cmp{l r:Expr}{op:CmpOp}{pos:Pos}{dX eJ:AV}{b:Bool}(h1:Ev Γ k cx σ l dX σ₁)(h2:Ev Γ k cx σ₁ r eJ aw)(h:CmpP Γ op dX eJ aw.heap b)(hm:ph op r=false) :
  Ev Γ k cx σ (.Compare l [op] [r] pos) (.bool b) aw:=λA env s ρ R x=>by
 erw[eval_Compare1];simp only[Ce hm];refine Rn.bind (h1 A env s ρ R x) λv az ai aV q7=>e02 q7 λap aU=>Rn.bind (Rn.holding (h2 A env ai az R ap)) λu aP ay aX q7=>e02 q7 λaH b6=>Rn.standAt ?_
 ·exact tH (Pr.lift aH (h A ay aP v u (R.le (bW _)) aH.h (aX.vrep aU) b6))
theorem Ts.cmp{l r:Expr}{op:CmpOp}{pos:Pos}{dX eJ:AV}{b:Bool}(h1:Ev Γ k cx σ l dX σ₁)(h2:Ev Γ k cx σ₁ r eJ aw)(h:CmpP Γ op dX eJ aw.heap b)(hm:ph op r=false) :
  Ts Γ k cx σ (.Compare l [op] [r] pos) b aw:=λA env s ρ R x=>by
 erw[isTrue_Compare1];simp only[Ce hm];refine Rn.bind (h1 A env s ρ R x) λv az ai aV q7=>e02 q7 λap aU=>Rn.bind (Rn.holding (h2 A env ai az R ap)) λu aP ay aX q7=>e02 q7 λaH b6=>Rn.standAt ?_
 ·refine Rn.bind (tH (Pr.lift aH (h A ay aP v u (R.le (bW _)) aH.h (aX.vrep aU) b6))) λc dz bS cK q7=>e02 q7 λcD fR=>Rn.holding ?_;exact PrB.lift cD (TruP.bool A bS dz c (R.le (bW _)) cD.h fR)
theorem Ts.cmp2{l r q:Expr}{op op':CmpOp}{pos:Pos}{dX eJ d₃:AV}{b b':Bool}(h1:Ev Γ k cx σ l dX σ₁)(h2:Ev Γ k cx σ₁ r eJ aw)(h:CmpP Γ op dX eJ aw.heap b)
  (hf:b=false->b'=false/\cJ=aw) (ht:b=true->Ev Γ k cx aw q d₃ cJ/\CmpP Γ op' eJ d₃ cJ.heap b') (hm:ph op' q=false) :
  Ts Γ k cx σ (.Compare l [op,op'] [r,q] pos) b' cJ:=λA env s ρ R x=>by
 erw[arm_isTrue_Compare];have R0:Room 0 A:=R.le (bW _);refine Rn.bind (h1 A env s ρ R x) λv az ai aV q7=>e02 q7 λap aU=>?_;show Rn Γ A (ownOf cx env) az ai (do
  let rv <- holding [v] (eval r env)
  standAt pos
  let c <- holding [v,rv] (wV op v rv)
  release [v,rv] [c]
  if <- holding [c,rv] (nN c) then testChain pos rv [op'] [AC op' q (eval q env)] else pure false) _
 refine Rn.bind (Rn.holding (h2 A env ai az R ap)) λu aP ay aX q7=>e02 q7 λaH b6=>Rn.standAt ?_;refine Rn.bind (Rn.holding (Pr.lift aH (h A ay aP v u R0 aH.h (aX.vrep aU) b6))) λc dz bS cK q7=>e02 q7 λcD fR=>?_;refine ag (wW ?_);refine Rn.bind (Rn.holding (PrB.lift cD (TruP.bool A bS dz c R0 cD.h fR))) λt ui cj lq q7=>e02 q7 λgk e=>?_;subst e;induction t using dN with
 |false=>refine e02 (hf rfl) λaC aI=>?_;subst aC;subst aI;exact Rn.pure ⟨gk,rfl⟩
 |true=>
  refine e02 (ht rfl) λe3 hc=>?_;show Rn Γ A (ownOf cx env) ui cj (do
   let rv <- holding [u] (AC op' q (eval q env))
   standAt pos
   let c <- operate [u,rv] (wV op' u rv)
   holding [c] (nN c)) _
  erw[Ce hm];refine Rn.bind (Rn.holding (e3 A env cj ui R gk)) λw BF s₅ BY q7=>e02 q7 λxP BG=>Rn.standAt ?_
  ·refine Rn.bind (tH (Pr.lift xP (hc A s₅ BF u w R0 xP.h (BY.vrep (lq.vrep (cK.vrep b6))) BG))) λc Q1 xM Ae5 q7=>e02 q7 λGa O9=>Rn.holding ?_;exact PrB.lift Ga (TruP.bool A xM Q1 c R0 Ga.h O9)
theorem Ts.not{e:Expr}{pos:Pos}{b:Bool}(h:Ts Γ k cx σ e b σ₁):Ts Γ k cx σ (.UnaryOp .Not e pos) (!b) σ₁:=λA env s ρ R x=>by
 erw[arm_isTrue_UnaryOp];exact Rn.bind (h A env s ρ R x) λt az ai aV q7=>e02 q7 λap e=>Rn.pure ⟨ap,by erw[e]⟩
noncomputable def xW:Expr->Bool
 |.UnaryOp .Not .. | .BoolOp .. | .IfExp .. | .Compare ..=>false
 |_=>true
theorem RU{e:Expr}(h:xW e=true)(env:Env)(uh:Sem Value):wU e env uh=(do let v <- uh;standAt e.pos;holding [v] (nN v)):=by
 induction e using fL<;>first|rfl|(injection h;done)|skip
 rename_i op x p;induction op using Adq<;>first|rfl|(injection h;done)
theorem Ts.val{e:Expr}{d:AV}{b:Bool}(h:Ev Γ k cx σ e d σ₁)(ht:TruP Γ d σ₁.heap b)(hv:xW e=true):Ts Γ k cx σ e b σ₁:=λA env s ρ R x=>by
 erw[RU hv];exact Rn.bind (h A env s ρ R x) λv az ai aV q7=>e02 q7 λap aU=>Rn.standAt (Rn.holding (PrB.lift ap (ht A ai az v (R.le (bW _)) ap.h aU)))
noncomputable def Al(Γ:Gam)(k:Nat)(cx:Cx)(op:BoolOp)(σ:St)(es:List Expr)(b:Bool)(bE:St):Prop :=
 ∀A env s ρ,Room k A->Sim Γ A.frames cx ρ σ env s->Rn Γ A (ownOf cx env) ρ s (allTrue op es env) λb' ae s'=>Sim Γ A.frames cx ae bE env s'/\b'=b
theorem Al.nil{op:BoolOp}:Al Γ k cx op σ [] (op==.And) σ:=λA env s ρ R x=>Rn.pure ⟨x,rfl⟩
theorem Al.andF{e:Expr}{r:List Expr}(h:Ts Γ k cx σ e false σ₁):Al Γ k cx .And σ (e::r) false σ₁:=λA env s ρ R x=>by
 erw[AD];exact Rn.bind (h A env s ρ R x) λt az ai aV q7=>e02 q7 λap e=>by clear q7;subst e;exact Rn.pure ⟨ap,rfl⟩
theorem Al.andT{e:Expr}{r:List Expr}{b:Bool}(h:Ts Γ k cx σ e true σ₁)(hr:Al Γ k cx .And σ₁ r b aw):Al Γ k cx .And σ (e::r) b aw:=λA env s ρ R x=>by
 erw[AD];exact Rn.bind (h A env s ρ R x) λt az ai aV q7=>e02 q7 λap e=>by clear q7;subst e;exact hr A env ai az R ap
theorem Al.orT{e:Expr}{r:List Expr}(h:Ts Γ k cx σ e true σ₁):Al Γ k cx .Or σ (e::r) true σ₁:=λA env s ρ R x=>by
 erw[AD];exact Rn.bind (h A env s ρ R x) λt az ai aV q7=>e02 q7 λap e=>by clear q7;subst e;exact Rn.pure ⟨ap,rfl⟩
theorem Al.orF{e:Expr}{r:List Expr}{b:Bool}(h:Ts Γ k cx σ e false σ₁)(hr:Al Γ k cx .Or σ₁ r b aw):Al Γ k cx .Or σ (e::r) b aw:=λA env s ρ R x=>by
 erw[AD];exact Rn.bind (h A env s ρ R x) λt az ai aV q7=>e02 q7 λap e=>by clear q7;subst e;exact hr A env ai az R ap
theorem Ts.bool{op:BoolOp}{es:List Expr}{pos:Pos}{b:Bool}(h:Al Γ k cx op σ es b σ₁):Ts Γ k cx σ (.BoolOp op es pos) b σ₁:=λA env s ρ R x=>by
 erw[arm_isTrue_BoolOp];exact h A env s ρ R x
set_option backward.match.sparseCases true
theorem Ev.or2T{a b:Expr}{pos:Pos}{d:AV}(h:Ev Γ k cx σ a d σ₁)(ht:TruP Γ d σ₁.heap true):Ev Γ k cx σ (.BoolOp .Or [a,b] pos) d σ₁:=λA env s ρ R x=>by
 erw[AE];show Rn Γ A (ownOf cx env) ρ s (do
  let v <- eval a env
  standAt pos
  let t <- holding [v] (nN v)
  match zK,t with
  |.And,false|.Or,true=>pure v
  |_,_=>AF pos zK [eval b env]) _
 refine Rn.bind (h A env s ρ R x) λv az ai aV q7=>e02 q7 λap aU=>Rn.standAt (Rn.bind (Rn.holding (PrB.lift ap (ht A ai az v (R.le (bW _)) ap.h aU))) λt aP ay aX q7=>e02 q7 λaH e=>?_);clear q7;subst e;exact Rn.pure ⟨aH,aX.vrep aU⟩
theorem Ev.or2F{a b:Expr}{pos:Pos}{d d':AV}(h:Ev Γ k cx σ a d σ₁)(ht:TruP Γ d σ₁.heap false)(hb:Ev Γ k cx σ₁ b d' aw):Ev Γ k cx σ (.BoolOp .Or [a,b] pos) d' aw:=λA env s ρ R x=>by
 erw[AE];show Rn Γ A (ownOf cx env) ρ s (do
  let v <- eval a env
  standAt pos
  let t <- holding [v] (nN v)
  match zK,t with
  |.And,false|.Or,true=>pure v
  |_,_=>AF pos zK [eval b env]) _
 refine Rn.bind (h A env s ρ R x) λv az ai aV q7=>e02 q7 λap aU=>Rn.standAt (Rn.bind (Rn.holding (PrB.lift ap (ht A ai az v (R.le (bW _)) ap.h aU))) λt aP ay aX q7=>e02 q7 λaH e=>?_);clear q7;subst e;exact hb A env ay aP R aH
theorem Ev.and2F{a b:Expr}{pos:Pos}{d:AV}(h:Ev Γ k cx σ a d σ₁)(ht:TruP Γ d σ₁.heap false):Ev Γ k cx σ (.BoolOp .And [a,b] pos) d σ₁:=λA env s ρ R x=>by
 erw[AE];show Rn Γ A (ownOf cx env) ρ s (do
  let v <- eval a env
  standAt pos
  let t <- holding [v] (nN v)
  match zL,t with
  |.And,false|.Or,true=>pure v
  |_,_=>AF pos zL [eval b env]) _
 refine Rn.bind (h A env s ρ R x) λv az ai aV q7=>e02 q7 λap aU=>Rn.standAt (Rn.bind (Rn.holding (PrB.lift ap (ht A ai az v (R.le (bW _)) ap.h aU))) λt aP ay aX q7=>e02 q7 λaH e=>?_);clear q7;subst e;exact Rn.pure ⟨aH,aX.vrep aU⟩
theorem Ev.and2T{a b:Expr}{pos:Pos}{d d':AV}(h:Ev Γ k cx σ a d σ₁)(ht:TruP Γ d σ₁.heap true)(hb:Ev Γ k cx σ₁ b d' aw):Ev Γ k cx σ (.BoolOp .And [a,b] pos) d' aw:=λA env s ρ R x=>by
 erw[AE];show Rn Γ A (ownOf cx env) ρ s (do
  let v <- eval a env
  standAt pos
  let t <- holding [v] (nN v)
  match zL,t with
  |.And,false|.Or,true=>pure v
  |_,_=>AF pos zL [eval b env]) _
 refine Rn.bind (h A env s ρ R x) λv az ai aV q7=>e02 q7 λap aU=>Rn.standAt (Rn.bind (Rn.holding (PrB.lift ap (ht A ai az v (R.le (bW _)) ap.h aU))) λt aP ay aX q7=>e02 q7 λaH e=>?_);clear q7;subst e;exact hb A env ay aP R aH
set_option backward.match.sparseCases false
noncomputable def Es(Γ:Gam)(k:Nat)(cx:Cx)(σ:St)(es:List Expr)(ds:List AV)(bE:St):Prop :=
 ∀A env s ρ pos,Room k A->Sim Γ A.frames cx ρ σ env s->Rn Γ A (ownOf cx env) ρ s (wX (jE pos (kf es env))) λvs ae s'=>Sim Γ A.frames cx ae bE env s'/\VReps ae s'.heap ds vs
theorem Es.nil:Es Γ k cx σ [] [] σ:=λA env s ρ pos R x=>by
 show Rn Γ A (ownOf cx env) ρ s (pure []) _;exact Rn.pure ⟨x,rfl⟩
noncomputable def dA:Expr->Bool
 |.Starred ..=>true
 |_=>false
theorem Cf{e:Expr}(h:dA e=false)(r:List Expr)(env:Env):kf (e::r) env=(false,eval e env)::kf r env:=by
 induction e using fL<;>first|rfl|exact nomatch h
theorem Es.cons{e:Expr}{r:List Expr}{d:AV}{ds:List AV}(h:Ev Γ k cx σ e d σ₁)(hr:Es Γ k cx σ₁ r ds aw)(hs:dA e=false):Es Γ k cx σ (e::r) (d::ds) aw:=λA env s ρ pos R x=>by
 erw[Cf hs];show Rn Γ A (ownOf cx env) ρ s (wX ((false,eval e env)::jE pos (kf r env))) _;refine LU (Rn.to (h A env s ρ R x) λv az ai aV q7=>e02 q7 λap aU=>Rn.to (hr A env ai az pos R ap) λvs aP ay aX q7=>e02 q7 λaH b6=>cH aP (aV.trans aX) aH (.cons (aX.vrep aU) b6))
theorem RV{ds:List AV}{vs:List Value}{H:List AO}(x:SimH Γ ρ H s)(hr:VReps ρ s.heap ds vs)(hz:ds.length<=1000000):Pr Γ A ρ s (tI vs) H (.tup ds):=by
 have hl:=hr.length;have bz:vs.length<=g5:=by erw[hl];exact ah hz (by decide)
 refine Rn.ofSLe (gG ⟨.push s _ _,(SLe.push s _ s.toks).h x,s.heap.objs.size,vs,0,rfl,?_,?_⟩ (by show vs.toArray.size<=g5;erw[dE];exact bz))
 ·exact co _ rfl
 ·exact VReps.mono (.refl _) (Le.imm (Le.push _ _)) _ _ hr
theorem Ev.tup{es:List Expr}{n:Nat}{pos:Pos}{ds:List AV}(h:Es Γ k cx σ es ds σ₁)(hz:ds.length<=1000000):Ev Γ k cx σ (.Tuple es n pos) (.tup ds) σ₁:=λA env s ρ R x=>by
 erw[arm_eval_Tuple];exact Rn.standAt (Rn.bind (h A env s ρ pos R x) λvs az ai aV q7=>e02 q7 λap aU=>Pr.lift ap (RV ap.h aU hz))
theorem RW{ds:List AV}{vs:List Value}{H:List AO}(x:SimH Γ ρ H s)(hr:VReps ρ s.heap ds vs)(hz:ds.length<=1000000):Pr Γ A ρ s (AG vs) (H++[.list ds]) (.loc H.length):=by
 have hl:=hr.length;have bz:vs.length<=g5:=by erw[hl];exact ah hz (by decide)
 refine gG ⟨ρ++[s.heap.objs.size],⟨⟨[s.heap.objs.size],rfl,by simp⟩,λb o zz zz e=>(.inl (du _ e)),Le.imm (Le.push _ _),by simp⟩,⟨x.base.trans (Le.push _ _),x.gens,x.os,?_⟩,s.heap.objs.size,rfl,?_⟩ (by show vs.toArray.size<=g5;erw[dE];exact bz)
 ·exact x.hp.push x.base (aq _) (Le.imm (Le.push _ _)) (λb zz o e=>du _ e) ⟨vs,0,co _ rfl,VReps.mono ⟨_,rfl⟩ (Le.imm (Le.push _ _)) _ _ hr⟩
 ·erw[<- x.hp.len];simp
theorem Ev.lst{es:List Expr}{pos:Pos}{ds:List AV}(h:Es Γ k cx σ es ds σ₁)(hz:ds.length<=1000000):Ev Γ k cx σ (.List es pos) (.loc σ₁.heap.length) ⟨σ₁.vars,σ₁.heap++[.list ds]⟩:=λA env s ρ R x=>by
 erw[arm_eval_List];exact Rn.standAt (Rn.bind (h A env s ρ pos R x) λvs az ai aV q7=>e02 q7 λap aU=>Pr.lift ap (RW ap.h aU hz))
theorem Ev.sub{value slice:Expr}{pos:Pos}{d i r:AV}{H':List AO}(h1:Ev Γ k cx σ value d σ₁)(h2:Ev Γ k cx σ₁ slice i aw)(h:SubP Γ value slice d i aw.heap r H') :
  Ev Γ k cx σ (.Subscript value slice pos) r ⟨aw.vars,H'⟩:=λA env s ρ R x=>by
 erw[N5];refine Rn.bind (h1 A env s ρ R x) λv az ai aV q7=>e02 q7 λap aU=>Rn.bind (Rn.holding (h2 A env ai az R ap)) λu aP ay aX q7=>e02 q7 λaH b6=>Rn.standAt ?_;exact Pr.lift aH (h A ay aP v u (R.le (bW _)) aH.h (aX.vrep aU) b6)
theorem Ex.nil:Ex Γ k cx σ [] .next σ:=λA env s ρ R x=>N6 ⟨ρ,.refl ..,x,rfl⟩
theorem Ex.cons{st:Stmt}{r:List Stmt}{f:Fl}(h:Ex1 Γ k cx σ st .next σ₁)(hr:Ex Γ k cx σ₁ r f aw):Ex Γ k cx σ (st::r) f aw:=λA env s ρ R x=>by
 refine AH (Rn.to (h A env s ρ R x) λg az ai aV q7=>e02 q7 λap e=>?_);cases (show g=.next from e)
 exact Rn.to (hr A env ai az R ap) λg aP ay aX p=>aB aP (aV.trans aX) p
theorem Ex.stop{st:Stmt}{r:List Stmt}{f:Fl}(h:Ex1 Γ k cx σ st f σ₁)(hf:f≠.next):Ex Γ k cx σ (st::r) f σ₁:=λA env s ρ R x=>by
 refine AH (Rn.to (h A env s ρ R x) λg az ai aV q7=>e02 q7 λap e=>?_);induction f using Fl.casesOn with
 |next=>exact absurd rfl hf
 |brk=>cases (show g=.brk from e);exact cH az aV ap rfl
 |cont=>cases (show g=.cont from e);exact cH az aV ap rfl
 |ret d=>clear q7;refine e12 e ?_;clear e;intro v aS r;subst aS;exact ⟨az,aV,ap,v,rfl,r⟩
theorem Ex1.pass{pos:Pos}:Ex1 Γ k cx σ (.Pass pos) .next σ:=λA env s ρ R x=>by erw[arm_exec_Pass];exact Rn.standAt (Rn.pure ⟨x,rfl⟩)
theorem Ex1.brk{pos:Pos}:Ex1 Γ k cx σ (.Break pos) .brk σ:=λA env s ρ R x=>by erw[N7];exact Rn.standAt (Rn.pure ⟨x,rfl⟩)
theorem Ex1.cont{pos:Pos}:Ex1 Γ k cx σ (.Continue pos) .cont σ:=λA env s ρ R x=>by erw[arm_exec_Continue];exact Rn.standAt (Rn.pure ⟨x,rfl⟩)
theorem Ex1.ret{e:Expr}{pos:Pos}{d:AV}(h:Ev Γ k cx σ e d σ₁):Ex1 Γ k cx σ (.Return (some e) pos) (.ret d) σ₁:=λA env s ρ R x=>by
 erw[exec_Return_some];exact Rn.standAt (Rn.bind (h A env s ρ R x) λv az ai aV q7=>e02 q7 λap aU=>Rn.pure ⟨ap,v,rfl,aU⟩)
theorem Ex1.ite{c:Expr}{a b:List Stmt}{pos:Pos}{t:Bool}{f:Fl}(hc:Ts Γ k cx σ c t σ₁)(ha:t=true->Ex Γ k cx σ₁ a f aw)(hb:t=false->Ex Γ k cx σ₁ b f aw):Ex1 Γ k cx σ (.If c a b pos) f aw:=λA env s ρ R x=>by
 erw[exec_If];refine Rn.standAt (Rn.bind (hc A env s ρ R x) λt' az ai aV q7=>e02 q7 λap e=>?_);subst e;induction t' using dN with
 |true=>exact ha rfl A env ai az R ap
 |false=>exact hb rfl A env ai az R ap
end
structure SBut(I:Addr)(s s':Shared):Prop where
 keep:∀b o,b≠I->s.heap.get? b=some o->s'.heap.get? b=some o
 imm:ImmLe s.heap s'.heap
 size:s.heap.objs.size<=s'.heap.objs.size
 gens:s'.gens=s.gens
 os:s'.os=s.os
theorem SBut.step{I:Addr}{F own ρ:List Addr}{s s':Shared}(x:SBut I s s')(hI:I∈own):Step F own ρ ρ s.heap s'.heap :=
 ⟨⟨[],by simp,λzz q=>by cases q⟩,λb o zz hb e=>.inl (x.keep b o (λq=>hb (q▸hI)) e),x.imm,x.size⟩
theorem SBut.h{Γ:Gam}{I:Addr}{ρ:List Addr}{H:List AO}{s s':Shared}(x:SBut I s s')(y:SimH Γ ρ H s)(hI:I∉ρ)(hb:Γ.base.get? I=none):SimH Γ ρ H s' :=
 ⟨λb o e=>x.keep b o (by rintro rfl;rw[hb] at e;injection e) (y.base b o e),x.gens.trans y.gens,x.os.trans y.os,
  y.hp.mono x.imm λa ha o e=>x.keep a o (by rintro rfl;exact hI ha) e⟩
theorem Tr.sbutF{Γ:Gam}{A:Around}{ρ:List Addr}{s s':Shared}{a:Addr}(x:Tr Γ A.frames ρ s.heap)(sb:SBut a s s')(hn:a∉frs A):Tr Γ A.frames ρ s'.heap:=λl hl e he=>by
 refine e02 (x l hl e he) λk aC=>?_;refine e24 aC λL m e1 e2 e3 aI=>?_;refine e32 aI λo es ep q5 q6=>?_;exact ⟨k,L,m,e1,e2,e3,o,es,ep,sb.keep _ _ (λq=>hn (q▸RQ hl he e1)) q5,q6⟩
theorem Tr.sbut{Γ:Gam}{fs:Option (List Env)}{ρ:List Addr}{s s':Shared}{a:Addr}(x:Tr Γ fs ρ s.heap)(sb:SBut a s s')(hn:∀m,s.heap.Ns a m->∃m',s'.heap.Ns a m'):Tr Γ fs ρ s'.heap:=λl hl e he=>by
 refine e02 (x l hl e he) λk aS=>?_;refine e24 aS λL m e1 e2 e3 e4=>?_;by_cases q:L=a
 ·clear sb;subst q;refine e11 (hn m e4) λm' q'=>?_;exact ⟨k,L,m',e1,e2,e3,q'⟩
 ·refine e32 e4 ?_;clear e4;intro o es ep q5 q6;exact ⟨k,L,m,e1,e2,e3,o,es,ep,sb.keep _ _ q q5,q6⟩
structure ou(Γ:Gam)(I:Addr)(items:List AV)(cv:List AO->Prop)(S:Nat->List Addr->Heap->Prop):Prop where
 mono:∀j ρ ae h h',S j ρ h->Pre ρ ae->ImmLe h h'->(∀o,h.get? I=some o->h'.get? I=some o)->S j ae h'
 live:∀j ρ h,S j ρ h->∃o fs,h.get? I=some o/\o.data=.fields fs
 self:∀j ρ s A (Q:Value->Shared->Prop) E,S j ρ s.heap->Q (.ref I) s->aj (av Γ.prog Γ.w) A (rH (.ref I)) Q E s
 next:∀j ρ s H d A,Room 0 A->SimH Γ ρ H s->cv H->S j ρ s.heap->items[j]?=some d ->
  aj (av Γ.prog Γ.w) A (fP (.ref I)) (λr s'=>∃v,r=some v/\VRep ρ s'.heap d v/\SBut I s s'/\S (j+1) ρ s'.heap) (λzz zz=>False) s
 stop:∀j ρ s H A,Room 1 A->SimH Γ ρ H s->cv H->S j ρ s.heap->items[j]?=none ->
  aj (av Γ.prog Γ.w) A (fP (.ref I)) (λr s'=>r=none/\SBut I s s') (λzz zz=>False) s
 letGo:∀j ρ s A t v (Q:Unit->Shared->Prop) E,S j ρ s.heap->Q () s->aj (av Γ.prog Γ.w) A (tJ t (.ref I) v) Q E s
noncomputable def IterP(Γ:Gam)(d:AV)(H:List AO)(items:List AV)(cv:List AO->Prop):Prop :=
 ∀A s ρ v,Room 0 A->SimH Γ ρ H s->VRep ρ s.heap d v ->
  aj (av Γ.prog Γ.w) A (rH v) (λit s'=>SLe s s'/\∃I S,it=.ref I/\s.heap.objs.size<=I/\ou Γ I items cv S/\S 0 ρ s'.heap) (λzz zz=>False) s
def RX(l I:Addr)(n:Nat)(j:Nat)(ρ:List Addr)(h:Heap):Prop:=ρ[n]?=some l/\h.IsListIter I l j
set_option backward.match.sparseCases true
theorem vd{M:me}{A:Around}{E:Value->Shared->Prop}{s:Shared}{I:Addr}{t:Expr}{v:Value}{Q:Unit->Shared->Prop}{T:String}{o:Obj}
  (h:s.heap.get? I=some o) (hc:o.cls=.type T) (hT:(["enumerate","zip","dict_itemiterator","dict_reverseitemiterator","odict_iterator","itertools.zip_longest","itertools.pairwise"]:List String).contains T=false) (hq:Q () s) :
  aj M A (tJ t (.ref I) v) Q E s:=by
 have key:∀a,aj M A (do
   let o <- load I
   match o.cls,o.data with
   |.type n,.fields vs=>
    if ["enumerate","zip","dict_itemiterator","dict_reverseitemiterator","odict_iterator","itertools.zip_longest","itertools.pairwise"].contains n&&vs[0]?==some (kg a) then
     rule "for.unpacks-the-owned-tuple"
     updateField I 0 .none
   |_,_=>pure ()) Q E s:=λa=>by
  refine ag (pi h ?_);erw[hc];cases o.data<;>first|exact am hq|(dsimp only;erw[hT];exact am hq)
 induction t using fL<;>first|exact am hq|skip
 all_goals cases v<;>first|exact am hq|exact key _
set_option backward.match.sparseCases false
theorem SBut.sb{I:Addr}{s:Shared}{h':Heap}{t:Nat}(x:fK I s.heap h')(hn:∀o,s.heap.get? I=some o->¬ cz o):SBut I s {s with heap:=h',toks:=t} :=
 ⟨λb o hb e=>(x.2 b hb).trans e,gr x hn,aE x.1.symm,rfl,rfl⟩
theorem SBut.eb{I:Addr}{s:Shared}{h':Heap}{t:Nat}(x:mO I s.heap h')(hn:∀o,s.heap.get? I=some o->¬ cz o)(hs:s.heap.objs.size<=h'.objs.size):SBut I s {s with heap:=h',toks:=t} :=
 ⟨λb o hb e=>x b o hb e,λb o i e=>by
  by_cases q:b=I
  ·clear x;subst q;exact absurd i (hn o e)
  ·exact x b o q e,hs,rfl,rfl⟩
theorem gL{T:String}{fs:Array Value}{h:Heap}{I:Addr}{x:Obj}(e:h.get? I=some x)(hc:x.cls=.type T)(hd:x.data=.fields fs)(h1:T≠"range") (h2:T≠"method-wrapper") (h3:T≠"dict_values":=by decide):∀o,h.get? I=some o->¬ cz o:=by
 intro o e';rw[e] at e';(injection e' with be;subst be)
 unfold cz;erw[hd];rintro (i|i|i)<;>rw[hc] at i
 ·exact h1 (by simpa using i)
 ·exact h2 (by simpa using i)
 ·exact h3 (by simpa using i)
theorem HRep.list{Γ:Gam}{ρ:List Addr}{h:Heap}{H:List AO}(x:HRep Γ ρ h H){n:Nat}{l:List AV}(e:H[n]?=some (.list l)){a:Addr}(ha:ρ[n]?=some a):∃vs k,h.get? a=some (dj vs k)/\VReps ρ h l vs:=x.obj n _ a e ha
theorem HRep.addr{Γ:Gam}{ρ:List Addr}{h:Heap}{H:List AO}(x:HRep Γ ρ h H){n:Nat}{o:AO}(e:H[n]?=some o):∃a,ρ[n]?=some a/\ORep Γ ρ h o a:=by
 have hn:n<ρ.length:=by erw[x.len];exact (ei.mp e).1
 exact aB (ρ[n]) (eE hn) (x.obj n o _ e (eE hn))
theorem dk{h:Heap}{a:Addr}{vs:List Value}{k:Nat}(e:h.get? a=some (dj vs k)):h.IsList a vs.toArray:=⟨_,e,rfl,k,rfl⟩
theorem RY{Γ:Gam}{n:Nat}{items:List AV}{l I:Addr}:ou Γ I items (λH=>H[n]?=some (.list items)) (RX l I n) where
 mono:=λj ρ ae h h' qq hp hi hk=>by refine e02 qq ?_;clear qq;intro a bw;refine e12 bw λo b c=>?_;exact ⟨hp.get a,o,hk _ b,c⟩
 live:=λj ρ h qq=>by refine e02 qq ?_;clear qq;intro _ bA;refine e13 bA λo b _ d=>?_;exact bZ _ _ b d
 self:=λj ρ s A Q E q7 hq=>e02 q7 λzz b=>wpAny_pyIter_listiter (l:=l) (i:=j) b hq
 next:=λj ρ s H d A R x hc q7 hd=>e02 q7 λha hb=>by
  refine e22 (x.hp.list hc ha) λvs k e r=>?_;refine e12 (r.get hd) λv ev rv=>?_;refine e13 (id hb) λo b1 b2 b3=>?_;have hn:=gL b1 b2 b3 (by decide) (by decide);exact wpAny_pyNext_list_item (l:=l) (i:=j) hb (dk e) (by simpa using ev) λh' hi hs=>RG v rfl (VRep.mono (.refl _) (gr hs hn) _ _ rv) (SBut.sb (t:=s.toks) hs hn) ha hi
 stop:=λj ρ s H A R x hc qq hd=>by
  refine e02 qq ?_;clear qq;intro ha hb;refine e22 (x.hp.list hc ha) λvs k e r=>?_;refine e13 (id hb) λo b1 b2 b3=>?_;have hn:=gL b1 b2 b3 (by decide) (by decide);have eU:=r.length;refine ba (jT (wpAny_pyNext_list_end (E:=λzz zz=>False) (Q:=λr s'=>r=none/\∃h',mO I s.heap h'/\s'={s with heap:=h'}) R.handled (l:=l) (i:=j) hb (dk e)
   (by simp at hd ⊢;exact ah (aE eU) hd) λh' hx=>⟨rfl,h',hx,rfl⟩)) (λr s' ⟨bz,e1,h',hx,e2⟩=>?_) λzz zz q=>q.2.elim
  subst e2;exact ⟨e1,SBut.eb (t:=s.toks) hx hn bz⟩
 letGo:=λj ρ s A t v Q E qq hq=>by refine e02 qq ?_;clear qq;intro _ bN;refine e13 bN λo b c _=>?_;exact vd b c (by decide) hq
theorem IterP.list{Γ:Gam}{n:Nat}{H:List AO}{items:List AV}(h:H[n]?=some (.list items)):IterP Γ (.loc n) H items (λH=>H[n]?=some (.list items)):=λA s ρ v R x q7=>e12 q7 λl e hl=>by
 clear q7;subst e;refine e22 (x.hp.list h hl) λvs k e r=>?_;exact wY (dk e) ⟨.push s _ _,_,_,rfl,aq _,RY,hl,_,co _ rfl,rfl,rfl⟩
def RZ(I:Addr)(items:List AV)(j:Nat)(ρ:List Addr)(h:Heap):Prop:=∃l vs n,h.get? l=some (m6 vs n)/\VReps ρ h items vs/\h.IsTupleIter I l j
theorem R1{Γ:Gam}{items:List AV}{I:Addr}:ou Γ I items (λzz=>True) (RZ I items) where
 mono:=λj ρ ae h h' qq hp hi hk=>by obtain ⟨l,⟨vs,n,a,⟨r,o,b,c⟩⟩⟩:=qq;exact ⟨l,vs,n,hi _ _ rfl a,VReps.mono hp hi _ _ r,o,hk _ b,c⟩
 live:=λj ρ h qq=>by obtain ⟨_,⟨_,_,_,⟨_,o,b,_,d⟩⟩⟩:=qq;exact bZ _ _ b d
 self:=λj ρ s A Q E q7 hq=>e33 q7 λl zz zz zz zz b=>wpAny_pyIter_tupleiter (t:=l) (i:=j) b hq
 next:=λj ρ s H d A R x zz q7 hd=>e33 q7 λl vs n a r hb=>by
  refine e12 (r.get hd) λv ev rv=>?_;refine e13 (id hb) λo b1 b2 b3=>?_;have hn:=gL b1 b2 b3 (by decide) (by decide);exact wpAny_pyNext_tuple_item (t:=l) (i:=j) (items:=vs.toArray) hb ⟨_,a,rfl,n,rfl⟩ (by simpa using ev) λh' hi hs=>⟨v,rfl,VRep.mono (.refl _) (gr hs hn) _ _ rv,SBut.sb (t:=s.toks) hs hn,
   l,vs,n,gr hs hn _ _ rfl a,VReps.mono (.refl _) (gr hs hn) _ _ r,hi⟩
 stop:=λj ρ s H A R x _ ⟨l,vs,n,a,r,hb⟩ hd=>by
  refine e13 (id hb) λo b1 b2 b3=>?_;have hn:=gL b1 b2 b3 (by decide) (by decide);have eU:=r.length;refine ba (jT (wpAny_pyNext_tuple_end (E:=λzz zz=>False) (Q:=λr s'=>r=none/\∃h',mO I s.heap h'/\s'={s with heap:=h'}) R.handled (t:=l) (i:=j) (items:=vs.toArray) hb ⟨_,a,rfl,n,rfl⟩
   (by simp at hd ⊢;exact ah (aE eU) hd) λh' hx=>⟨rfl,h',hx,rfl⟩)) (λr s' ⟨bz,e1,h',hx,e2⟩=>?_) λzz zz q=>q.2.elim
  subst e2;exact ⟨e1,SBut.eb (t:=s.toks) hx hn bz⟩
 letGo:=λj ρ s A t v Q E qq hq=>by obtain ⟨_,⟨_,_,_,⟨_,o,b,c,_⟩⟩⟩:=qq;exact vd b c (by decide) hq
theorem IterP.tup{Γ:Gam}{H:List AO}{items:List AV}:IterP Γ (.tup items) H items (λzz=>True):=λA s ρ v R x q7=>e33 q7 λl vs n e hl r=>by
 clear q7;subst e;refine wpAny_pyIter_tuple (items:=vs.toArray) ⟨_,hl,rfl,n,rfl⟩ ⟨.push s _ _,_,_,rfl,aq _,R1,l,vs,n,du _ hl,VReps.mono (.refl _) (Le.imm (Le.push _ _)) _ _ r,_,co _ rfl,rfl,rfl⟩
noncomputable def qg(lo hi st:Int):Nat:=(jx lo hi st).toNat
noncomputable def xX(lo hi st:Int):List AV:=(bn (qg lo hi st)).map λ(j:Nat)=>AV.int (lo+st*(j:Int))
def Cg(I:Addr)(lo hi st:Int)(j:Nat)(ρ:List Addr)(h:Heap):Prop:=IsRangeIter h I (lo+st*j) ((qg lo hi st:Int)-j) st
theorem Hr{lo hi st:Int}{j:Nat}:(xX lo hi st)[j]?=if j<qg lo hi st then some (.int (lo+st*j)) else none:=by
 unfold xX;erw[ga];split
 ·rename_i h;erw[LV h];rfl
 ·rename_i h;erw[qV (by simpa using h)];rfl
theorem R2{Γ:Gam}{lo hi st:Int}{I:Addr}:ou Γ I (xX lo hi st) (λzz=>True) (Cg I lo hi st) where
 mono:=λj ρ ae h h' b hp hi hk=>hk _ b
 live:=λj ρ h b=>bZ _ _ b rfl
 self:=λj ρ s A Q E b hq=>wpAny_pyIter_rangeiter b hq
 next:=λj ρ s H d A R x zz hb hd=>by
  rw[Hr] at hd;split at hd
  ·rename_i hj
   (injection hd with dJ;subst dJ)
   refine wpAny_pyNext_range_item hb (Int.sub_pos_of_lt (iT hj)) λh' mT hs=>B8 _ rfl ⟨_,rfl⟩ (SBut.sb hs (gL hb rfl rfl (by decide) (by decide))) ?_;unfold Cg;have e1:lo+st*(j:Int)+st=lo+st*((j+1:Nat):Int):=by erw[zH,Int.mul_add];simp;exact Eo _ _ _
   have e2:(qg lo hi st:Int)-j-1=(qg lo hi st:Int)-((j+1:Nat):Int):=by simp;exact Ep _ _ _
   erw[<- e1,<- e2];exact mT
  ·injection hd
 stop:=λj ρ s H A R x zz hb hd=>by
  have hn:=gL hb rfl rfl (by decide) (by decide);rw[Hr] at hd;split at hd
  ·injection hd
  ·rename_i hj;refine ba (jT (wpAny_pyNext_range_end (E:=λzz zz=>False) (Q:=λr s'=>r=none/\∃h',mO I s.heap h'/\s'={s with heap:=h'}) R.handled hb
    (Int.sub_nonpos_of_le (iL (d8 hj))) λh' hx=>⟨rfl,h',hx,rfl⟩)) (λr s' ⟨bz,e1,h',hx,e2⟩=>?_) λzz zz q=>q.2.elim
   subst e2;exact ⟨e1,SBut.eb (t:=s.toks) hx hn bz⟩
 letGo:=λj ρ s A t v Q E b hq=>vd b rfl (by decide) hq
theorem IterP.rng{Γ:Gam}{H:List AO}{lo hi st:Int}(hs:th lo hi st=true)(h0:0<=jx lo hi st):IterP Γ (.rng lo hi st) H (xX lo hi st) (λzz=>True):=λA s ρ v R x q7=>e42 q7 λa t1 t2 t3 e hl=>by
 clear q7;subst e;refine wpAny_pyIter_range hl hs ⟨.push s _ _,_,_,rfl,aq _,R2,?_⟩;unfold Cg;have e1:lo+st*((0:Nat):Int)=lo:=by simp
 have e2:(qg lo hi st:Int)-((0:Nat):Int)=jx lo hi st:=by unfold qg;exact Er h0
 erw[e1,e2];exact co _ rfl
section
variable{Γ:Gam}{k:Nat}[NeZero k]{cx:Cx}{σ bE σ₁ aw cJ:St}
inductive Lp(Γ:Gam)(k:Nat)(cx:Cx)(target:Expr)(body:List Stmt)(cv:List AO->Prop):List AV->St->Option Fl->St->Prop
 |nil {σ:St}:cv σ.heap->Lp Γ k cx target body cv [] σ none σ
 |next {d:AV} {ds:List AV} {f:Fl} {r:Option Fl} {σ σ₁ aw cJ:St}:cv σ.heap->As Γ k cx σ target d σ₁->Ex Γ k cx σ₁ body f aw->f=.next\/f=.cont->Lp Γ k cx target body cv ds aw r cJ->Lp Γ k cx target body cv (d::ds) σ r cJ
 |stop {d:AV} {ds:List AV} {f:Fl} {σ σ₁ aw:St}:cv σ.heap->As Γ k cx σ target d σ₁->Ex Γ k cx σ₁ body f aw->f≠.next->f≠.cont->Lp Γ k cx target body cv (d::ds) σ (some f) aw
noncomputable def Hs:Fl->Fl
 |.ret d=>.ret d
 |_=>.next
theorem Sim.other{A:Around}{D:Addr}{env:Env}{s s':Shared}{ρ:List Addr}(x:Sim Γ A.frames cx ρ σ env s)(sb:SBut D s s')(h1:D∉ρ)(h2:D∉ownOf cx env)(h3:Γ.base.get? D=none)(h4:∀v,¬ s.heap.IsCell D v)(h5:D∉frs A):Sim Γ A.frames cx ρ σ env s':=by
 refine ⟨sb.h x.h h1 h3,x.ok,⟨x.vr.len,x.vr.loc.elim λm h=>aB m ?_ (λy i hv hk d hd=>(h.2 y i hv hk d hd).imp λv e=>⟨e.1,VRep.mono (.refl _) sb.imm _ _ e.2⟩),λy i hv hk=>?_,x.vr.inj,x.vr.off,x.vr.own,λa ha=>dT (x.vr.lt a ha) sb.size⟩,x.tr.sbutF sb h5,x.hd⟩
 ·refine e32 h.1 λo es ep ho rest=>?_;exact bc o es ep (sb.keep _ o (λq=>h2 (q▸aG)) ho) rest
 ·refine e24 (x.vr.cell y i hv hk) λc vo e1 e2 e3 e4=>?_;refine ⟨c,vo,e1,e2,e3.imp λo f=>⟨sb.keep _ _ (λq=>h4 _ (q▸e3)) f.1,f.2⟩,λd hd=>(e4 d hd).imp λv f=>⟨f.1,VRep.mono (.refl _) sb.imm _ _ f.2⟩⟩
theorem Sim.sbut{A:Around}{I:Addr}{env:Env}{s s':Shared}{ρ:List Addr}(x:Sim Γ A.frames cx ρ σ env s)(sb:SBut I s s')(h1:I∉ρ)(h2:I∉ownOf cx env)(h3:Γ.base.get? I=none)(h4:∃o fs,s.heap.get? I=some o/\o.data=.fields fs):Sim Γ A.frames cx ρ σ env s':=by
 refine e22 h4 ?_;clear h4;intro o fs e d;refine x.other sb h1 h2 h3 (λv q=>?_) λq=>?_
 ·refine e12 q ?_;clear q;intro o' f1 f2;rw[f1] at e;(injection e with dY;subst dY);rw[f2] at d;injection d
 ·refine e43 (x.tr.frNs q) λ_ o' es ep f1 f2 _=>?_;rw[f1] at e;(injection e with eT;subst eT);rw[f2] at d;injection d
theorem qh{F own ρ ae:List Addr}{h h':Heap}{I:Addr}{o:Obj}(st:Step F own ρ ae h h')(e:h.get? I=some o)(hn:I∉ρ):I∉ae:=by
 refine e12 st.ext λnew eS fn=>?_;subst eS;intro q;rcases cU.mp q with q|q
 ·exact hn q
 ·exact absurd (cF e) (bQ.mpr (fn I q))
theorem Step.widen'{F own sd ρ ae:List Addr}{h h':Heap}(x:Step F own ρ ae h h')(hs:∀a∈own,a∈sd):Step F sd ρ ae h h':=⟨x.ext,λb o hb ho e=>x.keep' b o hb (λq=>ho (hs b q)) e,x.imm,x.size⟩
def Aft(Γ:Gam)(k:Nat)(cx:Cx)(cR:List Stmt)(f:Fl)(bE aw:St):Option Fl->Prop
 |none=>Ex Γ k cx bE cR f aw
 |some g=>f=Hs g/\aw=bE
theorem R4{I:Addr}{items:List AV}{cv:List AO->Prop}{S:Nat->List Addr->Heap->Prop}(it:ou Γ I items cv S){target:Expr}{body cR:List Stmt}{f:Fl} :
  ∀{ds:List AV} {σ:St} {r:Option Fl} {bE:St},Lp Γ k cx target body cv ds σ r bE->∀{aw:St},Aft Γ k cx cR f bE aw r ->
  ∀{A:Around} {env:Env} {s:Shared} {ρ:List Addr} {j:Nat} {R:gH->Shared->Prop},Room k A->Sim Γ A.frames cx ρ σ env s->ds=items.drop j->S j ρ s.heap->I∉ρ->I∉ownOf cx env->Γ.base.get? I=none ->
  (∀g s' ae,Step (frs A) (I::ownOf cx env) ρ ae s.heap s'.heap->Sim Γ A.frames cx ae aw env s'->oq ae s'.heap f g->R (.ok g) s')->cM (av Γ.prog Γ.w) A (.forLoop target (.ref I) body cR env) R s:=by
 intro ds σ r bE L;have turn:∀{A:Around} {env:Env} {s:Shared} {R:gH->Shared->Prop},
   aj (av Γ.prog Γ.w) A (fP (.ref I)) (λr ai=>match r with
    |none=>aj (av Γ.prog Γ.w) A (rG cR env) (λg ay=>R (.ok g) ay) (λzz zz=>False) ai
    |some v=>aj (av Γ.prog Γ.w) A (tJ target (.ref I) v) (λzz ay=>aj (av Γ.prog Γ.w) A (assign target env v) (λzz bS=>aj (av Γ.prog Γ.w) A (rG body env) (λg cj=>match g with
      |.next|.cont=>cM (av Γ.prog Γ.w) A (.forLoop target (.ref I) body cR env) R cj
      |.brk=>R (.ok .next) cj
      |.ret v=>R (.ok (.ret v)) cj) (λzz zz=>False) bS) (λzz zz=>False) ay) (λzz zz=>False) ai) (λzz zz=>False) s ->
   cM (av Γ.prog Γ.w) A (.forLoop target (.ref I) body cR env) R s:=by
  intro A env s R h;refine pj ?_;erw[Et (rfl)];refine tK ?_;simp only[forTurn];refine ag (gZ (ag (wpAny_onRaise (ba h (λr ai bf=>?_) λzz zz q=>q.elim))));induction r using dF with
  |none=>exact am ⟨rfl,codeAny_block (ba bf (λzz zz q=>q) λzz zz q=>q.elim)⟩
  |some v=>
   refine ag (ba bf (λzz ay bv=>ag (ba bv (λzz bS fi=>ag (ba fi (λg cj fj=>?_) λzz zz q=>q.elim)) λzz zz q=>q.elim)) λzz zz q=>q.elim);induction g using zM with
   |next=>exact am ⟨rfl,fj⟩
   |cont=>exact am ⟨rfl,fj⟩
   |brk=>exact am fj
   |ret v=>exact am fj
 have item:∀{A:Around} {env:Env} {s:Shared} {ρ:List Addr} {j:Nat} {R:gH->Shared->Prop} {d:AV} {σ σ₁ aw:St} {g:Fl},Room k A->Sim Γ A.frames cx ρ σ env s->S j ρ s.heap->I∉ρ->I∉ownOf cx env->Γ.base.get? I=none ->
   items[j]?=some d->cv σ.heap->As Γ k cx σ target d σ₁->Ex Γ k cx σ₁ body g aw ->
   (∀g' s' ae,Step (frs A) (I::ownOf cx env) ρ ae s.heap s'.heap->Sim Γ A.frames cx ae aw env s'->S (j+1) ae s'.heap->I∉ae->oq ae s'.heap g g' ->
    match g' with
    |.next|.cont=>cM (av Γ.prog Γ.w) A (.forLoop target (.ref I) body cR env) R s'
    |.brk=>R (.ok .next) s'
    |.ret v=>R (.ok (.ret v)) s')->cM (av Γ.prog Γ.w) A (.forLoop target (.ref I) body cR env) R s:=by
  intro A env s ρ j R d σ σ₁ aw g R0 x hS h1 h2 h3 hd hc ha hb hR;refine turn (ba (it.next j ρ s σ.heap d A (R0.le (bW _)) x.h hc hS hd) (λr ai q7=>e14 q7 λv e rv sb mW=>?_) λzz zz q=>q.elim)
  clear q7;subst e;refine it.letGo (j+1) ρ ai A target v _ _ mW ?_;have ap:=x.sbut sb h1 h2 h3 (it.live _ _ _ hS);have aV:Step (frs A) (I::ownOf cx env) ρ ρ s.heap ai.heap:=sb.step aG;refine e22 (it.live _ _ _ mW) λsg Afj xx dX=>?_;refine Rn.to (ha A env ai ρ v R0 ap rv) λzz aP ay aX aH=>Rn.to (hb A env ay aP R0 aH) λg' bS Rj cK q7=>e02 q7 λcD fR=>?_;have st:=aX.trans cK;exact hR g' Rj bS (aV.trans (st.widen' λa ha=>aL _ ha)) cD (it.mono _ _ _ _ _ mW st.pre st.imm (λo e=>st.keep I o h1 h2 e (λq7=>e21 q7 λes ep q=>by rw[xx] at e;(injection e with hG;subst hG);rw[dX] at q;injection q))) (qh st xx h1) fR
 induction L with
 |nil hc=>
  intro aw he A env s ρ j R R0 x hd hS h1 h2 h3 hR;have hj:items[j]?=none:=by
   erw[qV];have:=congrArg b9 hd;simp at this;exact oY this.symm
  refine turn (ba (it.stop j ρ s _ A R0.one x.h hc hS hj) (λr ai q7=>e02 q7 λe sb=>?_) λzz zz q=>q.elim);clear q7;subst e;refine Rn.to (he A env ai ρ R0 (x.sbut sb h1 h2 h3 (it.live _ _ _ hS))) λg aP ay aX q7=>e02 q7 λaH b6=>hR g ay aP ((sb.step aG).trans (aX.widen' λa ha=>aL _ ha)) aH b6
 |next hc ha hb hg L' ih=>
  rename_i d ds g r σ σ₁ aw cJ;intro mR he A env s ρ j R R0 x hd hS h1 h2 h3 hR;have hj:items[j]?=some d:=by
   have:(items.drop j)[0]?=some d:=by erw[<- hd];rfl
   rwa[wt,wu] at this
  have g7:ds=items.drop (j+1):=by
   have:(items.drop j).drop 1=ds:=by erw[<- hd];rfl
   erw[<- this,zN]
  refine item R0 x hS h1 h2 h3 hj hc ha hb λg' s' ae st x' fT Gi r'=>?_;have rest:cM (av Γ.prog Γ.w) A (.forLoop target (.ref I) body cR env) R s':=ih he R0 x' g7 fT Gi h2 h3 λuy ky gp uW=>hR uy ky gp (st.trans uW);rcases hg with rfl|rfl
  ·cases (show g'=.next from r');exact rest
  ·cases (show g'=.cont from r');exact rest
 |stop hc ha hb hg1 hg2=>
  rename_i d ds g σ σ₁ aw;intro mR he A env s ρ j R R0 x hd hS h1 h2 h3 hR;refine e02 he ?_;clear he;intro fw fA;subst fw;subst fA;have hj:items[j]?=some d:=by
   have:(items.drop j)[0]?=some d:=by erw[<- hd];rfl
   rwa[wt,wu] at this
  refine item R0 x hS h1 h2 h3 hj hc ha hb λg' s' ae st x' fT Gi r'=>?_;induction g using Fl.casesOn with
  |next=>exact absurd rfl hg1
  |cont=>exact absurd rfl hg2
  |brk=>cases (show g'=.brk from r');exact hR .next s' ae st x' rfl
  |ret e=>refine e12 r' ?_;clear r';intro v iH rv;subst iH;exact hR (.ret v) s' ae st x' ⟨v,rfl,rv⟩
theorem Ch{F own ρ ae:List Addr}{h bf h':Heap}{I:Addr}(hl:Le h bf)(bz:h.objs.size<=bf.objs.size)(hI:h.objs.size<=I)(st:Step F (I::own) ρ ae bf h'):Step F own ρ ae h h':=by
 refine e12 st.ext λnew e fn=>?_;refine ⟨⟨new,e,λa ha=>ah bz (fn a ha)⟩,λb o hb ho e'=>st.keep' b o hb (λq=>?_) (hl b o e'),hl.imm.trans st.imm,ah bz st.size⟩;rcases bu.mp q with rfl|q
 ·exact absurd (cF e') (bQ.mpr hI)
 ·exact ho q
theorem Ex1.for_{target iter:Expr}{body cR:List Stmt}{pos:Pos}{d:AV}{items:List AV}{cv:List AO->Prop}{r:Option Fl}{f:Fl}(h1:Ev Γ k cx σ iter d σ₁)(hi:IterP Γ d σ₁.heap items cv)
  (L:Lp Γ k cx target body cv items σ₁ r aw) (he:Aft Γ k cx cR f aw cJ r) (hs:∀env x,rI iter env x=pure x):Ex1 Γ k cx σ (.For target iter body cR pos) f cJ:=λA env s ρ R x=>by
 erw[exec_For];refine Rn.standAt (Rn.bind (h1 A env s ρ R x) λv az ai aV q7=>e02 q7 λap aU=>?_);erw[hs];refine ag (am (ag (gZ (ag (cu (ba (hi A ai az v (R.le (bW _)) ap.h aU) (λit ay qq=>?_) λzz zz q=>q.elim))))));refine e02 qq ?_;clear qq;intro sl jR;refine e22 jR λI S e jJ=>?_;refine e03 jJ λhI Sp hS=>?_;subst e;have n7:Γ.base.get? I=none:=by
  cases e:Γ.base.get? I with
  |none=>rfl
  |some o=>exact absurd (cF (ap.h.base _ _ e)) (bQ.mpr hI)
 refine FF (R4 Sp L he R (sl.sim ap) rfl hS (λq=>absurd (ap.h.hp.lt q) (bQ.mpr hI)) (λq=>absurd (ap.vr.lt I q) (bQ.mpr hI)) n7 λg s' ae st x' r'=>cH ae ?_ x' r');exact Ch sl.le sl.size hI st
inductive Wl(Γ:Gam)(k:Nat)(cx:Cx)(fz:Expr)(body:List Stmt):St->Option Fl->St->Prop
 |done {σ σ₁:St}:Ts Γ k cx σ fz false σ₁->Wl Γ k cx fz body σ none σ₁
 |next {f:Fl} {r:Option Fl} {σ σ₁ aw cJ:St}:Ts Γ k cx σ fz true σ₁->Ex Γ k cx σ₁ body f aw->f=.next\/f=.cont->Wl Γ k cx fz body aw r cJ->Wl Γ k cx fz body σ r cJ
 |stop {f:Fl} {σ σ₁ aw:St}:Ts Γ k cx σ fz true σ₁->Ex Γ k cx σ₁ body f aw->f≠.next->f≠.cont->Wl Γ k cx fz body σ (some f) aw
theorem while_{fz:Expr}{body cR:List Stmt}{f:Fl}:∀{σ:St} {r:Option Fl} {bE:St},Wl Γ k cx fz body σ r bE->∀{aw:St},Aft Γ k cx cR f bE aw r ->
  ∀{A:Around} {env:Env} {s:Shared} {ρ:List Addr} {R:gH->Shared->Prop},Room k A->Sim Γ A.frames cx ρ σ env s ->
  (∀g s' ae,Step (frs A) (ownOf cx env) ρ ae s.heap s'.heap->Sim Γ A.frames cx ae aw env s'->oq ae s'.heap f g->R (.ok g) s')->cM (av Γ.prog Γ.w) A (.whileLoop fz body cR env) R s:=by
 intro σ r bE L;have turn:∀{A:Around} {env:Env} {s:Shared} {R:gH->Shared->Prop},
   aj (av Γ.prog Γ.w) A (wU fz env (eval fz env)) (λb ai=>match b with
    |false=>aj (av Γ.prog Γ.w) A (rG cR env) (λg ay=>R (.ok g) ay) (λzz zz=>False) ai
    |true=>aj (av Γ.prog Γ.w) A (rG body env) (λg cj=>match g with
      |.next|.cont=>cM (av Γ.prog Γ.w) A (.whileLoop fz body cR env) R cj
      |.brk=>R (.ok .next) cj
      |.ret v=>R (.ok (.ret v)) cj) (λzz zz=>False) ai) (λzz zz=>False) s ->
   cM (av Γ.prog Γ.w) A (.whileLoop fz body cR env) R s:=by
  intro A env s R h;refine pj ?_;erw[Et (rfl)];refine tK ?_;simp only[whileTurn];refine ag (ba h (λb ai bf=>?_) λzz zz q=>q.elim);induction b using dN with
  |false=>exact ag (ba bf (λzz zz q=>am q) λzz zz q=>q.elim)
  |true=>
   refine ag (ba bf (λg cj fj=>?_) λzz zz q=>q.elim);induction g using zM with
   |next=>exact am ⟨rfl,fj⟩
   |cont=>exact am ⟨rfl,fj⟩
   |brk=>exact am fj
   |ret v=>exact am fj
 induction L with
 |done ht=>
  intro aw he A env s ρ R R0 x hR;refine turn (Rn.to (ht A env s ρ R0 x) λb ai az aV q7=>e02 q7 λap e=>?_);clear q7;subst e;exact Rn.to (he A env az ai R0 ap) λg aP ay aX q7=>e02 q7 λaH b6=>hR g ay aP (aV.trans aX) aH b6
 |next ht hb hg L' ih=>
  intro aw he A env s ρ R R0 x hR;refine turn (Rn.to (ht A env s ρ R0 x) λb ai az aV q7=>e02 q7 λap e=>?_);clear q7;subst e;refine Rn.to (hb A env az ai R0 ap) λg aP ay aX q7=>e02 q7 λaH b6=>?_;have rest:cM (av Γ.prog Γ.w) A (.whileLoop fz body cR env) R ay:=ih he R0 aH λuy ky gp uW=>hR uy ky gp ((aV.trans aX).trans uW);rcases hg with rfl|rfl
  ·cases (show g=.next from b6);exact rest
  ·cases (show g=.cont from b6);exact rest
 |stop ht hb hg1 hg2=>
  rename_i f' σ σ₁ aw;intro aw he A env s ρ R R0 x hR;refine e02 he ?_;clear he;intro jP jI;subst jP;subst jI;refine turn (Rn.to (ht A env s ρ R0 x) λb ai az aV q7=>e02 q7 λap e=>?_);clear q7;subst e;refine Rn.to (hb A env az ai R0 ap) λg aP ay aX q7=>e02 q7 λaH b6=>?_;induction f' using Fl.casesOn with
  |next=>exact absurd rfl hg1
  |cont=>exact absurd rfl hg2
  |brk=>cases (show g=.brk from b6);exact hR .next ay aP (aV.trans aX) aH rfl
  |ret e=>clear q7;refine e12 b6 ?_;clear b6;intro v lJ rv;subst lJ;exact hR (.ret v) ay aP (aV.trans aX) aH ⟨v,rfl,rv⟩
theorem Ex1.while_{fz:Expr}{body cR:List Stmt}{pos:Pos}{r:Option Fl}{f:Fl}(L:Wl Γ k cx fz body σ r aw)(he:Aft Γ k cx cR f aw cJ r):Ex1 Γ k cx σ (.While fz body cR pos) f cJ:=λA env s ρ R x=>by
 erw[exec_While];exact Rn.standAt (FF (Mine.while_ L he R x λg s' ae st x' r'=>cH ae st x' r'))
end
def BReps(ρ:List Addr)(h:Heap):List (Str × AV)->List (Str × Value)->Prop
 |[],bs=>bs=[]
 |(x,d)::r,bs=>∃v bs',bs=(x,v)::bs'/\VRep ρ h d v/\BReps ρ h r bs'
theorem BReps.mono{ρ ae:List Addr}{h h':Heap}(hp:Pre ρ ae)(hi:ImmLe h h'):∀{ds:List (Str × AV)} {bs:List (Str × Value)},BReps ρ h ds bs->BReps ae h' ds bs:=λ{ds}=>by
 induction ds with
 |nil=>
  intro _ x;exact x
 |cons hd _ ih=>
  intro _ cO;obtain ⟨_,d⟩:=hd;refine e23 cO ?_;clear cO;intro v bs e r y;exact fk v bs e (VRep.mono hp hi d _ r) (ih y)
theorem BReps.names{ρ:List Addr}{h:Heap}:∀{ds:List (Str × AV)} {bs:List (Str × Value)},BReps ρ h ds bs->bs.map (·.1)=ds.map (·.1):=λ{ds}=>by
 induction ds with
 |nil=>
  intro _ x;cases (show _=[] from x);rfl
 |cons hd _ ih=>
  intro _ cO;obtain ⟨_,d⟩:=hd;refine e23 cO ?_;clear cO;intro v bs e r y;subst e;simp[ih y]
theorem BReps.lookup{ρ:List Addr}{h:Heap}{x:Str}{d:AV}:∀{ds:List (Str × AV)} {bs:List (Str × Value)},BReps ρ h ds bs->ds.lookup x=some d->∃v,bs.lookup x=some v/\VRep ρ h d v
 |(y,e)::_,_,⟨v,bs,q,r,z⟩,hl=>by
  subst q;rw[dW] at hl ⊢;cases hb:x==y with
  |true=>rw[hb] at hl;(injection hl with aC;subst aC);exact aB v rfl r
  |false=>rw[hb] at hl;exact BReps.lookup z hl
theorem Ht{α:Type}{x:Str}:∀{l:List (Str × α)},x∉l.map (·.1)->l.lookup x=none:=λ{l}=>by
 induction l with
 |nil=>
  intro _;exact rfl
 |cons hd r ih=>
  intro h;obtain ⟨y,e⟩:=hd;erw[dW];have h1:x≠y:=λq=>h (by simp[q]);erw[beq_eq_false_iff_ne.mpr h1];exact ih (λq=>h (by simp at q ⊢;exact .inr q))
theorem R5{kindOf:Str->Option NameKind}{x:Str}(hx:kindOf x=some .local):∀(bs:List (Str × Value)) (m:Str->Option Value),(bs.map (·.1)).Nodup->bindL kindOf bs m x=(bs.lookup x).or (m x):=λbs=>by
 induction bs with
 |nil=>
  intro m _;exact rfl
 |cons hd r ih=>
  intro m hn;obtain ⟨y,v⟩:=hd;rw[bX,fM] at hn;unfold bindL;erw[ih _ hn.2,dW];by_cases q:x=y
  ·subst q;erw[Ht hn.1,if_pos hx];simp
  ·erw[beq_eq_false_iff_ne.mpr q];cases Eu x r with
   |some u=>simp
   |none=>by_cases hy:kindOf y=some .local<;>simp[hy,q]
theorem R6{kindOf:Str->Option NameKind}{x:Str}(hx:kindOf x=some .cell):∀(bs:List (Str × Value)) (m:Str->Option Value),(bs.map (·.1)).Nodup->bindC kindOf bs m x=(bs.lookup x).or (m x):=λbs=>by
 induction bs with
 |nil=>
  intro m _;exact rfl
 |cons hd r ih=>
  intro m hn;obtain ⟨y,v⟩:=hd;rw[bX,fM] at hn;unfold bindC;erw[ih _ hn.2,dW];by_cases q:x=y
  ·subst q;erw[Ht hn.1,if_neg (by erw[hx];decide)];simp
  ·erw[beq_eq_false_iff_ne.mpr q];cases Eu x r with
   |some u=>simp
   |none=>by_cases hy:kindOf y=some .local<;>simp[hy,q]
theorem Hu{x:Str}:∀(names:List (Str × NameKind)) (n:Nat) (aa:List (Str × Addr)),((x,eF)∈names\/(aa.lookup x).isSome=true)->((iC n names aa).lookup x).isSome=true:=λnames=>by
 induction names with
 |nil=>
  intro n aa h;refine cT (h) (λh=>?_) λh=>?_
  ·cases h
  ·exact h
 |cons hd r ih=>
  intro n aa h;obtain ⟨y,kd⟩:=hd;unfold iC;have OB:∀m:Nat,(aa.lookup x).isSome=true->((((y,m)::aa:List (Str × Addr))).lookup x).isSome=true:=λm hs=>by
   erw[dW];cases x==y<;>simp[hs]
  split
  ·refine ih _ _ ?_;rcases h with h|h
   ·rcases bu.mp h with q|q
    ·(injection q with aI aS;subst aS;subst aI);right;erw[dW];simp
    ·exact .inl q
   ·exact .inr (OB n h)
  ·rename_i hk;refine ih _ _ ?_;rcases h with h|h
   ·rcases bu.mp h with q|q
    ·(injection q with be bw;subst bw;subst be);exact absurd rfl hk
    ·exact .inl q
   ·exact .inr h
theorem zy2{x:Str}{c:Addr}:∀(names:List (Str × NameKind)) (n:Nat) (aa:List (Str × Addr)),(x,c)∈iC n names aa->(x,eF)∈names\/(x,c)∈aa:=λnames=>by
 induction names with
 |nil=>
  intro n aa h;exact .inr h
 |cons hd r ih=>
  intro n aa h;obtain ⟨y,kd⟩:=hd;unfold iC at h;split at h
  ·rename_i hk;rcases ih _ _ h with q|q
   ·exact .inl (aL _ q)
   ·rcases bu.mp q with e|e
    ·(injection e with bA bN;subst bN;subst bA);have:kd=eF:=by simpa using hk
     clear hk;subst this;exact .inl aG
    ·exact .inr e
  ·rcases ih _ _ h with q|q
   ·exact .inl (aL _ q)
   ·exact .inr q
noncomputable def FnSpec(Γ:Gam)(j:Nat)(a:Addr)(args:List AV)(H:List AO)(d:AV)(H':List AO):Prop :=
 ∀A s ρ vs,Room j A->SimH Γ ρ H s->VReps ρ s.heap args vs->Tr Γ A.frames ρ s.heap ->
  cM (av Γ.prog Γ.w) A (.call (.ref a) ⟨vs,[]⟩) (λr s'=>∃v ae,r=.ok (.ret v)/\Step (frs A) [] ρ ae s.heap s'.heap/\SimH Γ ae H' s'/\VRep ae s'.heap d v) s
noncomputable def BindR(Γ:Gam)(fd:i8)(args:List AV)(H:List AO)(ds:List (Str × AV)):Prop :=
 ∀A s ρ vs,Room 0 A->SimH Γ ρ H s->VReps ρ s.heap args vs->aj (av Γ.prog Γ.w) A (wZ fd ⟨vs,[]⟩) (λbs s'=>SLe s s'/\BReps ρ s'.heap ds bs) (λzz zz=>False) s
structure R7(fd:i8)(cx:Cx):Prop where
 sc:cx.sc=fd.scope
 names:∀x i j,(x,i)∈cx.vis->(x,j)∈cx.vis->i=j
 slots:∀x y i,(x,i)∈cx.vis->(y,i)∈cx.vis->x=y
 bound:∀x i,(x,i)∈cx.vis->i<cx.n
 kind:∀x i,(x,i)∈cx.vis->fd.scope.names.lookup x=some .local\/(fd.scope.names.lookup x=some .cell/\(x,eF)∈fd.scope.names)
def Hv:Fl->AV->Prop
 |.ret d,e=>d=e
 |.next,e=>e=.none
 |_,_=>False
theorem Ci{F F' own ρ ae:List Addr}{h bf h':Heap}(hl:Le h bf)(bz:h.objs.size<=bf.objs.size)(hI:∀a∈own,h.objs.size<=a)(hF:∀a∈F',a∈F\/h.objs.size<=a)(st:Step F' own ρ ae bf h'):Step F [] ρ ae h h':=by
 refine e12 st.ext λnew e fn=>?_;refine ⟨⟨new,e,λa ha=>ah bz (fn a ha)⟩,λb o hb zz e'=>?_,hl.imm.trans st.imm,ah bz st.size⟩;rcases st.keep' b o hb (λq=>absurd (cF e') (bQ.mpr (hI b q))) (hl b o e') with q|⟨f,q⟩
 ·exact .inl q
 ·exact .inr ⟨(hF b f).resolve_right λq=>absurd (cF e') (bQ.mpr q),q⟩
theorem FnSpec.intro{Γ:Gam}{j:Nat}{a:Addr}{args:List AV}{H H':List AO}{d:AV}{oc:Value}{od:Option Addr}{mX:Array (Option Value)}{fd:i8}{body:List Stmt}{cx:Cx}{ds:List (Str × AV)}{f:Fl}{vars vars':List (Option AV)}
  (hK:Γ.K.lookup a=some ⟨oc,od,.func fd,mX⟩) (QE:codeIn Γ.K fd.code fd.qualname=true) (Br:fd.body=.stmts body) (Oq:fd.globals=rF) (fD:fd.builtins=wT) (OO:fd.closure=[])
  (O5:fd.scope.isCoroutine=false) (O0:fd.scope.isGenerator=false) (hk:fd.scope.kind=.function) (C:R7 fd cx) (hB:BindR Γ fd args H ds) (fh:(ds.map (·.1)).Nodup)
  (O4:∀x∈ds.map (·.1),fd.scope.names.lookup x=some .local\/(fd.scope.names.lookup x=some .cell/\(x,eF)∈fd.scope.names))
  (eU:vars.length=cx.n) (hv:∀x i d,(x,i)∈cx.vis->vars[i]?=some (some d)->ds.lookup x=some d)
  (hE:Ex Γ j cx ⟨vars,H⟩ body f ⟨vars',H'⟩) (hf:Hv f d):FnSpec Γ (j+1) a args H d H':=by
 intro A s ρ vs R x hr tr;refine codeAny_call_function (body:=body) (zJ (bK _ _) R.depth) (x.base _ _ (Γ.inK _ _ hK)) rfl O5 O0 Br (codeRec_of (Γ.inK.keeps x.base) QE) ?_;refine ba (hB A.in1 s ρ vs (R.in1.le (bW _)) x hr) (λbs ai q7=>e02 q7 λsl br=>?_) λzz zz q=>q.elim;have ap:SimH Γ ρ H ai:=sl.h x;erw[OO];have uY:=br.names;have n7:(bs.map (·.1)).Nodup:=uY▸fh;refine wpAny_newFunctionEnv_cells hk (λp hp=>?_) λenv he ay ic=>?_
 ·have:p.1∈ds.map (·.1):=by erw[<- uY];exact ft hp
  rcases O4 p.1 this with q|⟨q,q'⟩
  ·exact .inl q
  ·exact .inr ⟨q,Hu _ _ _ (.inl q')⟩
 have hL:env.locals=ai.heap.objs.size:=by erw[he];rfl
 have mj:env.scope=fd.scope:=by erw[he];rfl
 have GB:env.cells=iC (ai.heap.objs.size+1) fd.scope.names []:=by erw[he];rfl
 have t0:Le ai.heap ay.heap:=ic.toInCall.keep;refine e21 ic.toInCall.same λbv tk es=>?_;have P4:ay.gens=ai.gens:=by erw[es]
 have Py:ay.os=ai.os:=by erw[es]
 have aH:SimH Γ ρ H ay:=ap.le t0 P4 Py;have pz:=ic.toInCall.ns;have jQ:∀b∈ownOf cx env,ai.heap.objs.size<=b:=λb hb=>by
  rcases bu.mp hb with q|q
  ·erw[q,hL];exact aq _
  ·refine e12 (oX.mp q) λy _ hy=>?_;have:=ic.above y b (mem_of_lookup hy);rw[hL] at this;exact bk this
 have QU:ai.heap.objs.size<=ay.heap.objs.size:=by
  have:=pz.lt;rw[hL] at this;exact bk this
 have pt:env.frame=some env.locals:=by erw[he];rfl
 have S:Sim Γ (A.deeper env).frames cx ρ ⟨vars,H⟩ env ay:=by
  refine ⟨aH,⟨mj.trans C.sc.symm,C.sc▸hk,by erw[he];exact Oq,by erw[he];exact fD,C.names,C.slots,C.bound⟩,⟨eU,⟨_,pz,λy i hy uX e n0=>?_⟩,λy i hy uX=>?_,λy z c hy hz=>?_,λb hb=>?_,λb hb q=>?_,λb hb=>?_⟩,λl hl e n0=>?_,λl hl=>?_⟩
  ·have g6:env.kindOf y=some .local:=by unfold qU;erw[mj,<- C.sc];exact uX
   refine e12 (br.lookup (hv y i e hy n0)) λv e1 e2=>?_;refine aB v ?_ (VRep.mono (.refl _) t0.imm _ _ e2);erw[R5 g6 bs _ n7,e1];rfl
  ·have xz:fd.scope.names.lookup y=some .cell/\(y,eF)∈fd.scope.names:=by
    refine cT (C.kind y i hy) (λq=>?_) λq=>?_
    ·unfold Cx.kind at uX;rw[C.sc,q] at uX;rcases uX with e|e<;>(injection e with cg;injection cg)
    ·exact q
   have g6:env.kindOf y=some .cell:=by unfold qU;erw[mj];exact xz.1
   refine e11 (oZ.mp (Hu (x:=y) fd.scope.names (ai.heap.objs.size+1) [] (.inl xz.2))) λc hc=>?_;rw[<- GB] at hc;have xq:=ic.cell y c hc;refine hM c _ hc (λq=>?_) xq (λe n0=>?_)
   ·have h1:=ic.above y c (mem_of_lookup hc);have h2:=ap.hp.lt q;rw[hL] at h1;exact absurd h2 (bQ.mpr (bk h1))
   ·refine e12 (br.lookup (hv y i e hy n0)) λv e1 e2=>?_;refine aB v ?_ (VRep.mono (.refl _) t0.imm _ _ e2);erw[R6 g6 bs _ n7,e1];rfl
  ·exact name_of_addr ic.apart (mem_of_lookup hy) (mem_of_lookup hz)
  ·cases e:Γ.base.get? b with
   |none=>rfl
   |some o=>exact absurd (cF (ap.base _ _ e)) (bQ.mpr (jQ b hb))
  ·exact absurd (ap.hp.lt q) (bQ.mpr (jQ b hb))
  ·rcases bu.mp hb with q|q
   ·erw[q];exact pz.lt
   ·refine e12 (oX.mp q) λy _ hy=>?_;exact (ic.cell y b hy).lt
  ·obtain ⟨l₀,h₀,rfl⟩:∃l₀,A.frames=some l₀/\l=env::l₀:=by
    have:A.frames.map (env::·)=some l:=hl;cases h:A.frames with
    |none=>rw[h] at this;injection this
    |some l₀=>rw[h] at this;exact aB l₀ rfl (by simpa using this.symm)
   rcases bu.mp n0 with q|q
   ·clear GB he hl ic n0 hL;subst q;refine ⟨by erw[mj,hk];decide,e.locals,_,pt,?_,λq=>?_,pz⟩
    ·cases e:Γ.base.get? e.locals with
     |none=>rfl
     |some o=>exact absurd (cF (ap.base _ _ e)) (bQ.mpr (jQ _ aG))
    ·exact absurd (ap.hp.lt q) (bQ.mpr (jQ _ aG))
   ·exact (tr.le (sl.le.trans t0)) l₀ h₀ e q
  ·have:A.frames.map (env::·)=some l:=hl;cases h:A.frames with
   |none=>rw[h] at this;injection this
   |some l₀=>rw[h] at this;exact bZ env l₀ (by simpa using this.symm) rfl
 refine ⟨Γ.nolimit.keeps aH.base,codeAny_func ?_⟩;refine Rn.to (hE (A.deeper env) env ay ρ R.deeper S) λg bS dz st q7=>e02 q7 λcD fR=>?_;have ee:Step (frs A) [] ρ bS s.heap dz.heap:=by
  refine Ci (sl.le.trans t0) (ah sl.size QU) (λb hb=>ah sl.size (jQ b hb)) (λb hb=>?_) st;unfold frs at hb ⊢;cases h:A.frames with
  |none=>have:=R.fr;rw[h] at this;injection this
  |some l=>
   have e:(A.deeper env).frames=some (env::l):=by show A.frames.map _=_;erw[h];rfl
   rw[e] at hb;simp only[Ew,LW,pt] at hb ⊢;rcases bu.mp hb with q|q
   ·exact .inr (q▸ah sl.size (jQ _ aG))
   ·exact .inl q
 induction f using Fl.casesOn with
 |ret e=>
  cases (show e=d from hf);clear q7;refine e12 fR ?_;clear fR;intro v cm rv;subst cm;exact hM v bS rfl ee cD.h rv
 |next=>
  cases (show g=.next from fR)
  cases (show d=.none from hf);exact hM .none bS rfl ee cD.h rfl
 |brk=>exact hf.elim
 |cont=>exact hf.elim
section
variable{Γ:Gam}{k:Nat}{cx:Cx}{σ bE σ₁ aw cJ:St}{A:Around}{env:Env}{s:Shared}{ρ:List Addr}
noncomputable def gt(es:List Expr):Bool:=es.all λe=>!dA e
theorem Cj(env:Env):∀{es:List Expr},gt es=true->(kf es env).all (λx=>!x.1)=true:=λ{es}=>by
 induction es with
 |nil=>exact λzz=>rfl
 |cons e r ih=>
  intro h;have h':=i3.mp (show (!dA e&&gt r)=true from h);have he:dA e=false:=by have:=h'.1;revert this;cases dA e<;>simp
  erw[Cf he,zO];simp only[LX,Ey];exact ih h'.2
theorem R8{pos:Pos}:∀{l:List (Bool × Sem Value)},l.all (λx=>!x.1)=true->(jE pos l).any (·.1)=false:=λ{l}=>by
 induction l with
 |nil=>
  intro _;exact rfl
 |cons hd r ih=>
  intro h;obtain ⟨b,t⟩:=hd;have h':=i3.mp (show (!b&&r.all (λx=>!x.1))=true from h);show (b||(jE pos r).any (·.1))=false
  erw[ih h'.2];have:=h'.1;revert this;induction b using dN<;>simp
theorem R9{pos:Pos}:∀{l:List (Bool × Sem Value)},(jE pos l).all (λx=>!x.1)=l.all (λx=>!x.1):=λ{l}=>by
 induction l with
 |nil=>
  exact rfl
 |cons hd r ih=>
  obtain ⟨b,t⟩:=hd;show (!b&&(jE pos r).all (λx=>!x.1))=(!b&&r.all (λx=>!x.1));erw[ih]
theorem Sa{f:Value}{es:List Expr}{pos:Pos}{P:Args->List Addr->Shared->Prop}(hp:gt es=true)(h:Rn Γ A (ownOf cx env) ρ s (wX (jE pos (kf es env))) λvs ae s'=>P ⟨vs,[]⟩ ae s') :
  Rn Γ A (ownOf cx env) ρ s (FG f true (jE pos (kf es env)) []) P:=by
 have hs:=Cj env hp;induction es using bI with
 |nil=>
  unfold FG;refine ag (ba h (λvs s' h'=>?_) λzz zz q=>q.elim);refine ag (am ?_);refine cu ?_;exact ag (am (ag (am (am h'))))
 |cons e r=>
  have he:dA e=false:=by
   have h':=i3.mp (show (!dA e&&gt r)=true from hp);have:=h'.1;revert this;cases dA e<;>simp
  rw[Cf he] at h ⊢;exact LY h
def Callee(Γ:Gam)(f:Value):Prop:=∀A s (Q:Keeper->Shared->Prop) E,Le Γ.base s.heap->Q .machine s->Q .frame s->aj (av Γ.prog Γ.w) A (tL f) Q E s
theorem Callee.builtin{id:String}:Callee Γ (.builtin id):=λA s Q E zz h zz=>am h
theorem Callee.type{T:String}:Callee Γ (.type T):=λA s Q E zz h zz=>am h
theorem Callee.fn{a:Addr}{oc:Value}{od:Option Addr}{mX:Array (Option Value)}{fd:i8}(hK:Γ.K.lookup a=some ⟨oc,od,.func fd,mX⟩):Callee Γ (.ref a):=λA s Q E hb zz h=>by
 unfold tL;exact ag (pi (hb _ _ (Γ.inK _ _ hK)) (am h))
theorem xY{f:Value}{first:List Value}{es:List Expr}{pos OK:Pos}{P:Value->List Addr->Shared->Prop}(hc:Callee Γ f)(hp:gt es=true)
  (h:Rn Γ A (ownOf cx env) ρ s (wX (jE pos (kf es env))) λvs ae s'=>Le Γ.base s'.heap/\Rn Γ A (ownOf cx env) ae s' (call f (first++vs)) P) :
  Rn Γ A (ownOf cx env) ρ s (rJ OK f first (jE pos (kf es env)) []) P:=by
 unfold rJ;have ha:(jE pos (kf es env)).any (·.1)=false:=R8 (Cj env hp);refine Rn.bind (Rn.holding (Sa (P:=λa ae s'=>a.kw=[]/\Le Γ.base s'.heap/\Rn Γ A (ownOf cx env) ae s' (call f (first++a.pos)) P) hp (Rn.mono h λvs ae s' zz q=>⟨rfl,q⟩))) λa az ai aV q7=>e03 q7 λhk hb hr=>Rn.standAt ?_
 erw[ha];simp only[List.any_nil,Ez];erw[hk];have BC:∀{t:Sem Value},Rn Γ A (ownOf cx env) az ai t P->Rn Γ A (ownOf cx env) az ai (t >>= λr=>holding [r] point >>= λzz=>pure r) P :=
  λht=>ag (ba ht (λr ay hr=>ag (cu (AB (am hr)))) λzz zz x=>x)
 refine ag (m:=tL f) (hc A ai _ _ hb ?_ ?_)
 ·exact BC hr
 ·dsimp only;split
  ·exact BC hr
  ·exact BC (by unfold callMarked;exact Calls.wpAny_keep hr)
noncomputable def CallP(Γ:Gam)(k:Nat)(f:Value)(args:List AV)(H:List AO)(d:AV)(H':List AO):Prop :=
 ∀A s ρ vs,Room k A->SimH Γ ρ H s->VReps ρ s.heap args vs->Tr Γ A.frames ρ s.heap->Pr Γ A ρ s (call f vs) H' d
theorem FnSpec.call{a:Addr}{args:List AV}{H H':List AO}{d:AV}{j:Nat}(h:FnSpec Γ j a args H d H'):CallP Γ j (.ref a) args H d H':=λA s ρ vs R x r tr=>by
 refine tM (tN (h A s ρ vs R x r tr) λr s' q7=>e24 q7 λv ae e st x' rv=>?_);clear q7;subst e;exact cH ae st x' rv
theorem FnSpec.le{a:Addr}{args:List AV}{H H':List AO}{d:AV}{j i:Nat}(h:FnSpec Γ j a args H d H')(dh:j<=i):FnSpec Γ i a args H d H':=λA s ρ vs R x r=>h A s ρ vs (R.le dh) x r
theorem CallP.le{f:Value}{args:List AV}{H H':List AO}{d:AV}{j i:Nat}(h:CallP Γ j f args H d H')(dh:j<=i):CallP Γ i f args H d H':=λA s ρ vs R x r=>h A s ρ vs (R.le dh) x r
theorem Ev.call{y:Str}{np pos:Pos}{es:List Expr}{f:Value}{fd:AV}{ds:List AV}{d:AV}{H':List AO}(hf:Ev Γ k cx σ (.Name y np) fd σ₁)(Pa:∀ρ h v,VRep ρ h fd v->v=f)(hc:Callee Γ f)(hp:gt es=true)(ha:Es Γ k cx σ₁ es ds aw)
  (h:CallP Γ k f ds aw.heap d H'):Ev Γ k cx σ (.Call (.Name y np) es [] pos) d ⟨aw.vars,H'⟩:=λA env s ρ R x=>by
 erw[AI];refine Rn.bind (hf A env s ρ R x) λv az ai aV q7=>e02 q7 λap aU=>?_;cases Pa _ _ _ aU;refine xY hc hp (Rn.mono (ha A env ai az pos R ap) λvs aP ay aX q7=>e02 q7 λaH b6=>⟨aH.h.base,?_⟩);exact Pr.lift aH (h A ay aP vs R aH.h b6 aH.tr)
noncomputable def MethP(Γ:Gam)(name:Str)(d:AV)(H:List AO)(f:Value):Prop :=
 ∀A s ρ v pl,Room 0 A->SimH Γ ρ H s->VRep ρ s.heap d v->aj (av Γ.prog Γ.w) A (getMethod v name pl) (λr s'=>r=(f,[v])/\SLe s s') (λzz zz=>False) s
noncomputable def sm:Expr->Bool
 |.Call (.Name id _) [] [] _=>id != "super"
 |_=>true
theorem Ck{o:Expr}(h:sm o=true)(name:Str)(env:Env)(uh:Sem Value):attributeBase o name env uh=uh:=by
 induction o using fL<;>first|rfl|skip
 rename_i f as ks pos;induction f using fL<;>first|rfl|skip
 induction as using bI<;>induction ks using bI<;>first|rfl|skip
 have this:(_ != ("super":Str))=true:=h;delta attributeBase;dsimp only;simp[this]
theorem Ev.meth{o:Expr}{name:Str}{jc pos:Pos}{es:List Expr}{od:AV}{f:Value}{ds:List AV}{d:AV}{H':List AO}(ho:Ev Γ k cx σ o od σ₁)(hb:sm o=true)(hm:MethP Γ name od σ₁.heap f)(hc:Callee Γ f)(hp:gt es=true)
  (hl:(jc.endLine==pos.line)=true) (hn:es.length<29) (ha:Es Γ k cx σ₁ es ds aw) (h:CallP Γ k f (od::ds) aw.heap d H'):Ev Γ k cx σ (.Call (.Attribute o name jc) es [] pos) d ⟨aw.vars,H'⟩:=λA env s ρ R x=>by
 erw[arm_eval_Call,Ck hb];refine Rn.bind (ho A env s ρ R x) λv az ai aV q7=>e02 q7 λap aU=>Rn.standAt ?_;have Bp:FH (es.length+([]:List w0).length) (jE pos (kf es env)) (backToKw pos (keywordEach [] env))=true:=by
  unfold FH;erw[R9,Cj env hp];have:keywordEach [] env=[]:=rfl;erw[this];simp[backToKw];exact lT (bk hn) rfl
 have Pe:methodCallPos true o env jc pos=pure pos:=by unfold methodCallPos;simp[hl]
 unfold methodCall;erw[Bp];refine ag (cu (ba (hm A ai az v _ (R.le (bW _)) ap.h aU) (λr ay q7=>e02 q7 λe sl=>?_) λzz zz q=>q.elim));clear q7;subst e;refine ag (lm Pe ?_);have aH:=sl.sim ap;have key:Rn Γ A (ownOf cx env) az ay (rJ pos f [v] (jE pos (kf es env)) []) λu ae s'=>Sim Γ A.frames cx ae ⟨aw.vars,H'⟩ env s'/\VRep ae s'.heap d u:=by
  refine xY hc hp (Rn.mono (ha A env ay az pos R aH) λvs dz bS cK q7=>e02 q7 λcD fR=>⟨cD.h.base,?_⟩);exact Pr.lift cD (h A bS dz (v::vs) R cD.h (.cons (cK.vrep (sl.vrep aU)) fR) cD.tr)
 exact Rn.to key λu ae s' st q=>⟨ae,(sl.step).trans st,q⟩
theorem Ex1.expr{e:Expr}{pos:Pos}{d:AV}(h:Ev Γ k cx σ e d σ₁)(hs:∀env,swapsWith e none pos.line env=pure false):Ex1 Γ k cx σ (.Expr e pos) .next σ₁:=λA env s ρ R x=>by
 have hi:interactive env=false:=by unfold interactive;erw[x.ok.sc,x.ok.kind];rfl
 erw[arm_exec_Expr,hi,hs];refine Rn.standAt ?_;simp only[eG,if_false];refine ag (am ?_);simp only[eG,if_false];exact Rn.bind (h A env s ρ R x) λv az ai aV q7=>e02 q7 λap aU=>wpAny_dropValue ⟨az,.refl ..,ap,rfl⟩
noncomputable def m7:Expr->Bool
 |.ListComp .. | .SetComp .. | .DictComp ..=>true
 |_=>false
theorem Cm{e:Expr}(h:m7 e=false)(t:Option Expr)(l:Nat)(env:Env):swapsWith e t l env=pure false:=by
 induction e using fL<;>first|rfl|exact nomatch h
theorem Cn{e:Expr}(h:m7 e=false)(ts:List Expr)(l:Nat)(env:Env):AJ ts e l env=pure false:=by
 unfold AJ;split
 ·exact Cm h _ _ _
 ·rfl
noncomputable def qi:Expr->Bool
 |.Tuple ..=>true
 |_=>false
theorem vf{e:Expr}(h:qi e=false)(ts:List Expr)(env:Env):swappedStores ts e env=pure none:=by
 rcases ts with _|⟨t,_|⟨u,r⟩⟩
 ·rfl
 ·induction t using fL<;>first|rfl|(induction e using fL<;>first|rfl|exact nomatch h)
 ·induction t using fL<;>first|rfl|(cases e<;>rfl)
theorem sr{t:Expr}(h:dA t=false)(r:List Expr)(env:Env):kh (t::r) env=(false,assign t env)::kh r env:=by
 induction t using fL<;>first|rfl|exact nomatch h
theorem Ex1.assign{t e:Expr}{pos:Pos}{d:AV}(h:Ev Γ k cx σ e d σ₁)(ht:As Γ k cx σ₁ t d aw)(hc:m7 e=false)(hn:qi e=false)(hs:dA t=false):Ex1 Γ k cx σ (.Assign [t] e pos) .next aw:=λA env s ρ R x=>by
 erw[w5,Cn hc];refine Rn.standAt (ag (am ?_));simp only[eG,if_false];refine Rn.bind (h A env s ρ R x) λv az ai aV q7=>e02 q7 λap aU=>?_;erw[vf hn];refine ag (am ?_);have he:(kh [t] env).map (·.2)=[qW t env]:=congrArg (wv (·.2)) (sr hs _ _);erw[he];exact Rn.bind (ht A env ai az v R ap aU) λzz aP ay aX aH=>Rn.pure ⟨aH,rfl⟩
theorem Ex1.assign2{t t' e:Expr}{pos:Pos}{d:AV}(h:Ev Γ k cx σ e d σ₁)(ht:As Γ k cx σ₁ t d aw)(PB:As Γ k cx aw t' d cJ)(hc:m7 e=false)(hn:qi e=false)(hs:dA t=false)(BV:dA t'=false):Ex1 Γ k cx σ (.Assign [t,t'] e pos) .next cJ:=λA env s ρ R x=>by
 erw[w5,Cn hc];refine Rn.standAt (ag (am ?_));simp only[eG,if_false];refine Rn.bind (h A env s ρ R x) λv az ai aV q7=>e02 q7 λap aU=>?_;erw[vf hn];refine ag (am ?_);have he:(kh [t,t'] env).map (·.2)=[qW t env,qW t' env]:=congrArg (wv (·.2)) ((sr hs _ _).trans (congrArg _ (sr BV _ _)));erw[he];refine Rn.bind (P:=λzz ae s'=>Sim Γ A.frames cx ae cJ env s') (Rn.bind (Rn.holding (ht A env ai az v R ap aU)) λzz aP ay aX aH=>PB A env ay aP v R aH (aX.vrep aU)) λzz aP ay aX aH=>Rn.pure ⟨aH,rfl⟩
inductive Ass(Γ:Gam)(k:Nat)(cx:Cx):St->List Expr->List AV->St->Prop
 |nil {σ:St}:Ass Γ k cx σ [] [] σ
 |cons {σ σ₁ aw:St} {t:Expr} {d:AV} {ts:List Expr} {ds:List AV}:As Γ k cx σ t d σ₁->dA t=false->Ass Γ k cx σ₁ ts ds aw->Ass Γ k cx σ (t::ts) (d::ds) aw
section
variable{ts:List Expr}{ds:List AV}{σ bE:St}(h:Ass Γ k cx σ ts ds bE)
include h
theorem Ass.length:ts.length=ds.length:=by
 induction h with
 |nil=>rfl
 |cons _ _ _ ih=>exact congrArg nG ih
theorem Ass.len{env:Env}:(kh ts env).length=ds.length/\(kh ts env).findIdx? (·.1)=none:=by
 induction h with
 |nil=>exact ⟨rfl,rfl⟩
 |cons _ hs _ ih=>
  erw[sr hs];exact ⟨congrArg nG ih.1,by erw[List.findIdx?_cons];simp only[eG,if_false,ih.2];rfl⟩
theorem Ass.run:∀{A:Around} {env:Env} {s:Shared} {ρ:List Addr} {vs:List Value},Room k A->Sim Γ A.frames cx ρ σ env s->VReps ρ s.heap ds vs ->
  Rn Γ A (ownOf cx env) ρ s (assignInOrder ((kh ts env).map (·.2)) vs) λzz ae s'=>Sim Γ A.frames cx ae bE env s':=by
 induction h with
 |nil=>
  intro A env s ρ vs R x r;cases (show vs=[] from r);exact Rn.pure x
 |cons h hs _ ih=>
  intro A env s ρ vs R x r;refine e23 r ?_;clear r;intro v us e rv ru;subst e;erw[sr hs,bX];exact Rn.bind (Rn.holding (h A env s ρ v R x rv)) λzz az ai aV ap=>ih R ap (aV.vreps ru)
end
theorem As.tup[NeZero k]{ts:List Expr}{n:Nat}{pos:Pos}{ds:List AV}(h:Ass Γ k cx σ ts ds σ₁):As Γ k cx σ (.Tuple ts n pos) (.tup ds) σ₁:=λA env s ρ v R x hr=>by
 refine e33 hr ?_;clear hr;intro a vs m e ht r;subst e;erw[N8];refine e02 (h.len (env:=env)) λh1 h2=>?_;have hn:(kh ts env).length=vs.toArray.size:=by simp[h1,r.length]
 refine Rn.standAt ?_;unfold unpack;erw[h2,hn];refine ag (cu (ba (jT (wpAny_unpackItems_tuple (E:=λzz zz=>False) (Q:=λus s'=>us=vs/\∃h',s'={s with heap:=h'}/\Le s.heap h') R.handled (t:=a) (items:=vs.toArray) ⟨_,ht,rfl,m,rfl⟩
  λh' hx=>⟨by simp,h',rfl,λb o e=>hx b o (b5 (cF e)) e⟩)) (λus s' qq=>?_) λzz zz q=>q.2))
 refine e03 qq ?_;clear qq;intro bz e1 aC;refine e12 aC λh' e2 le=>?_;clear hn ht;subst e1 e2;have sl:SLe s {s with heap:=h'}:=⟨le,bz,rfl,rfl⟩
 exact Rn.to (h.run R (sl.sim x) (sl.vreps r)) λzz ae s' st x'=>⟨ae,(sl.step).trans st,x'⟩
noncomputable def SetAP(Γ:Gam)(name:Str)(d v:AV)(H H':List AO):Prop :=
 ∀A s ρ o u,Room 0 A->SimH Γ ρ H s->VRep ρ s.heap d o->VRep ρ s.heap v u->PrU Γ A ρ s (setAttr o name u) H'
theorem As.attr{o:Expr}{name:Str}{pos:Pos}{d v:AV}{H':List AO}(h:Ev Γ k cx σ o d σ₁)(hs:SetAP Γ name d v σ₁.heap H'):As Γ k cx σ (.Attribute o name pos) v ⟨σ₁.vars,H'⟩:=λA env s ρ u R x hr=>by
 erw[arm_assign_Attribute];refine Rn.bind (Rn.holding (h A env s ρ R x)) λw az ai aV q7=>e02 q7 λap aU=>Rn.standAt ?_;refine Rn.bind (Rn.holding (PrU.lift ap (hs A ai az w u (R.le (bW _)) ap.h aU (aV.vrep hr)))) λzz aP ay aX aH=>wW ⟨aP,.refl ..,aH⟩
noncomputable def SetIP(Γ:Gam)(d i v:AV)(H H':List AO):Prop :=
 ∀A s ρ o j u,Room 0 A->SimH Γ ρ H s->VRep ρ s.heap d o->VRep ρ s.heap i j->VRep ρ s.heap v u->PrU Γ A ρ s (setItem o j u) H'
theorem As.item{o i:Expr}{pos:Pos}{d j v:AV}{H':List AO}(h:Ev Γ k cx σ o d σ₁)(hi:Ev Γ k cx σ₁ i j aw)(hs:SetIP Γ d j v aw.heap H'):As Γ k cx σ (.Subscript o i pos) v ⟨aw.vars,H'⟩:=λA env s ρ u R x hr=>by
 erw[arm_assign_Subscript];refine Rn.bind (Rn.holding (h A env s ρ R x)) λw az ai aV q7=>e02 q7 λap aU=>Rn.bind (Rn.holding (hi A env ai az R ap)) λy aP ay aX q7=>e02 q7 λaH b6=>Rn.standAt ?_;refine Rn.bind (Rn.holding (PrU.lift aH (hs A ay aP w y u (R.le (bW _)) aH.h (aX.vrep aU) b6 (aX.vrep (aV.vrep hr))))) λzz dz bS cK cD=>wW ⟨dz,.refl ..,cD⟩
noncomputable def AttrP(Γ:Gam)(name:Str)(d:AV)(H:List AO)(r:AV)(H':List AO):Prop :=
 ∀A s ρ o b,Room 0 A->SimH Γ ρ H s->VRep ρ s.heap d o->Pr Γ A ρ s (getAttr o name b) H' r
theorem Ev.attr{o:Expr}{name:Str}{pos:Pos}{d r:AV}{H':List AO}(h:Ev Γ k cx σ o d σ₁)(hb:sm o=true)(ha:AttrP Γ name d σ₁.heap r H'):Ev Γ k cx σ (.Attribute o name pos) r ⟨σ₁.vars,H'⟩:=λA env s ρ R x=>by
 erw[arm_eval_Attribute,Ck hb];refine Rn.bind (h A env s ρ R x) λw az ai aV q7=>e02 q7 λap aU=>Rn.standAt ?_;refine Rn.bind (Rn.holding (Pr.lift ap (ha A ai az w true (R.le (bW _)) ap.h aU))) λu aP ay aX q7=>e02 q7 λaH b6=>?_;exact ag (wpAny_letTemporaryGo (am ⟨aP,.refl ..,aH,b6⟩))
theorem Sb{y:Str}{i:Nat}{d:AV}(x:Sim Γ A.frames cx ρ σ env s)(hv:(y,i)∈cx.vis)(hd:σ.vars[i]?=some (some d))(hk:cx.kind y=some .local\/cx.kind y=some .cell) :
  Rn Γ A (ownOf cx env) ρ s (loadName env y) λv ae s'=>Sim Γ A.frames cx ae σ env s'/\VRep ae s'.heap d v:=by
 have iP:env.scope.kind=.function:=by erw[x.ok.sc];exact x.ok.kind
 have g6:env.kindOf y=cx.kind y:=by delta qU Cx.kind;erw[x.ok.sc]
 refine Rn.ofSLe ?_;rcases hk with hk|hk
 ·refine e12 x.vr.loc λm hn hl=>?_;refine e12 (hl y i hv hk d hd) λv e1 e2=>?_;exact N2 iP (g6.trans hk) hn e1 ⟨.refl _,x,e2⟩
 ·refine e24 (x.vr.cell y i hv (.inl hk)) λc vo e1 _ e3 e4=>?_;refine e12 (e4 d hd) λv aI e5=>?_;subst aI;exact N3 iP (g6.trans hk) e1 e3 ⟨.refl _,x,e5⟩
theorem Ex1.aug{y:Str}{i:Nat}{d v r:AV}{op:Operator}{e:Expr}{np pos:Pos}{H':List AO}(hv:(y,i)∈cx.vis)(hd:σ.vars[i]?=some (some d))(hk:cx.kind y=some .local\/(cx.kind y=some .cell/\y∈cx.cells))(h:Ev Γ k cx σ e v σ₁)
  (hp:InpP Γ op d v σ₁.heap r H'):Ex1 Γ k cx σ (.AugAssign (.Name y np) op e pos) .next ⟨σ₁.vars.set i (some r),H'⟩:=λA env s ρ R x=>by
 erw[arm_exec_AugAssign];refine Rn.standAt (Rn.bind (Sb x hv hd (hk.imp id (·.1))) λa az ai aV q7=>e02 q7 λap aU=>Rn.bind (Rn.holding (h A env ai az R ap)) λb aP ay aX q7=>e02 q7 λaH b6=>Rn.standAt ?_);refine Rn.bind (tH (Pr.lift aH (hp A ay aP a b (R.le (bW _)) aH.h (aX.vrep aU) b6))) λc dz bS cK q7=>e02 q7 λcD fR=>Rn.standAt ?_;exact Rn.bind (Hq cD hv hk fR) λzz ui cj lq gk=>Rn.pure ⟨gk,rfl⟩
theorem Ex1.augAttr{o:Expr}{name:Str}{od d v r:AV}{op:Operator}{e:Expr}{tp pos:Pos}{bO bY H':List AO}(ho:Ev Γ k cx σ o od σ₁)(ha:AttrP Γ name od σ₁.heap d bO)(h:Ev Γ k cx ⟨σ₁.vars,bO⟩ e v aw)(hp:InpP Γ op d v aw.heap r bY)
  (hs:SetAP Γ name od r bY H'):Ex1 Γ k cx σ (.AugAssign (.Attribute o name tp) op e pos) .next ⟨aw.vars,H'⟩:=λA env s ρ R x=>by
 have R0:Room 0 A:=R.le (bW _);erw[arm_exec_AugAssign_2];refine Rn.standAt (Rn.bind (ho A env s ρ R x) λw az ai aV q7=>e02 q7 λap aU=>?_);refine Rn.bind (P:=λc ae s'=>Sim Γ A.frames cx ae ⟨aw.vars,bY⟩ env s'/\VRep ae s'.heap r c) (Rn.holding (Rn.standAt ?_)) λc aP ay aX q7=>e02 q7 λaH b6=>Rn.standAt ?_
 ·refine Rn.bind (Pr.lift ap (ha A ai az w true R0 ap.h aU)) λa aP ay aX q7=>e02 q7 λaH b6=>Rn.bind (Rn.holding (h A env ay aP R aH)) λb dz bS cK q7=>e02 q7 λcD fR=>Rn.standAt ?_;exact tH (Pr.lift cD (hp A bS dz a b R0 cD.h (cK.vrep b6) fR))
 ·exact Rn.bind (Rn.holding (PrU.lift aH (hs A ay aP w c R0 aH.h (aX.vrep aU) b6))) λzz dz bS cK cD=>ag (wW (am ⟨dz,.refl ..,cD,rfl⟩))
end
noncomputable def eK(env:Env):List (Str × NameKind)->List (Str × Addr)->List (Str × Addr)
 |[],aa=>aa
 |(n,k)::r,aa=>if k==.free then eK env r ((n,(env.cells.lookup n).getD 0)::aa) else eK env r aa
theorem Hw{scope:dg}{env:Env}(h:∀x,(x,fg)∈scope.names->(env.cells.lookup x).isSome=true):AK scope env=pure (eK env scope.names []):=by
 unfold AK;have key:∀(l:List (Str × NameKind)) (aa:List (Str × Addr)),(∀x,(x,fg)∈l->(env.cells.lookup x).isSome=true) ->
   (forIn l aa λ(x:Str × NameKind) r=>(match x with
    |(name,kind)=>if (kind==fg)=true then do let a <- cellOf env name;pure (ti ((name,a)::r)) else pure (ti r):Sem (ForInStep (List (Str × Addr)))))=pure (eK env l aa):=by
  intro l;induction l with
  |nil=>intro aa _;rfl
  |cons x r ih=>
   intro aa hx;obtain ⟨n,k⟩:=x;erw[zP];have hr:∀x,(x,fg)∈r->(env.cells.lookup x).isSome=true:=λx q=>hx x (aL _ q);unfold eK;by_cases hk:(k==fg)=true
   ·erw[if_pos hk];dsimp only;erw[if_pos hk];have:k=.free:=by simpa using hk
    clear hk;subst this;refine e11 (oZ.mp (hx n aG)) λc hc=>?_;have e:cellOf env n=pure c:=by unfold cellOf;erw[hc]
    erw[e,hc];exact ih _ hr
   ·erw[if_neg hk];dsimp only;erw[if_neg hk];exact ih _ hr
 have:=key scope.names [] h;refine tj ?_ (show (forIn scope.names ([]:List (Str × Addr)) _ >>= λcs=>pure cs)=_ from by erw[this];rfl);rfl
theorem Sc{env:Env}{x:Str}:∀(l:List (Str × NameKind)) (aa:List (Str × Addr)),(l.map (·.1)).Nodup ->
  (((x,fg)∈l->(env.cells.lookup x).isSome=true->(eK env l aa).lookup x=env.cells.lookup x)/\((x,fg)∉l->(eK env l aa).lookup x=aa.lookup x)):=λl=>by
 induction l with
 |nil=>
  intro aa _;exact ⟨λh=>(by cases h),λzz=>rfl⟩
 |cons hd r ih=>
  intro aa hn;obtain ⟨n,k⟩:=hd;rw[bX,fM] at hn;have nY:∀q,(n,q)∉r:=λq hm=>hn.1 (ft (f:=(·.1)) hm);unfold eK;by_cases hk:(k==fg)=true
  ·have:k=.free:=by simpa using hk
   subst this;erw[if_pos hk];have ih:=ih ((n,(env.cells.lookup n).getD 0)::aa) hn.2;refine ⟨λhm hs=>?_,λhm=>?_⟩
   ·rcases bu.mp hm with e|hm
    ·(injection e with aC aI;cases aI;subst aC)
     erw[ih.2 (nY _),dW];refine e11 (oZ.mp hs) λc hc=>?_;simp[hc]
    ·exact ih.1 hm hs
   ·have hx:x≠n:=λe=>hm (by erw[e];exact aG);erw[ih.2 (λq=>hm (aL _ q)),dW,beq_eq_false_iff_ne.mpr hx]
  ·erw[if_neg hk];have ih:=ih aa hn.2;refine ⟨λhm hs=>?_,λhm=>?_⟩
   ·rcases bu.mp hm with e|hm
    ·(injection e with aS be;subst be;subst aS);exact absurd rfl hk
    ·exact ih.1 hm hs
   ·exact ih.2 (λq=>hm (aL _ q))
theorem Sd{env:Env}{x:Str}{c:Addr}:∀(l:List (Str × NameKind)) (aa:List (Str × Addr)),(x,c)∈eK env l aa->((x,fg)∈l/\c=(env.cells.lookup x).getD 0)\/(x,c)∈aa:=λl=>by
 induction l with
 |nil=>
  intro aa h;exact .inr h
 |cons hd r ih=>
  intro aa h;obtain ⟨n,k⟩:=hd;unfold eK at h;split at h
  ·rename_i hk;have:k=.free:=by simpa using hk
   clear hk;subst this;rcases ih _ h with q|q
   ·exact .inl ⟨aL _ q.1,q.2⟩
   ·rcases bu.mp q with e|e
    ·(injection e with bw bA;subst bA;subst bw);exact .inl ⟨aG,rfl⟩
    ·exact .inr e
  ·refine cT (ih _ h) (λq=>?_) λq=>?_
   ·exact .inl ⟨aL _ q.1,q.2⟩
   ·exact .inr q
theorem Hx{x:Str}:∀(l:List (Str × NameKind)) (n:Nat) (aa:List (Str × Addr)),(l.map (·.1)).Nodup->(∀y c,(y,c)∈aa->(y,eF)∉l) ->
  ((x,eF)∈l->∃c,(iC n l aa).lookup x=some c/\n<=c)/\((x,eF)∉l->(iC n l aa).lookup x=aa.lookup x):=λl=>by
 induction l with
 |nil=>
  intro n aa _ _;exact ⟨λh=>(by cases h),λzz=>rfl⟩
 |cons hd r ih=>
  intro n aa hn ha;obtain ⟨y,k⟩:=hd;rw[bX,fM] at hn;have nY:∀q,(y,q)∉r:=λq hm=>hn.1 (ft (f:=(·.1)) hm);unfold iC;by_cases hk:(k==eF)=true
  ·have:k=.cell:=by simpa using hk
   subst this;erw[if_pos hk];have ih:=ih (n+1) ((y,n)::aa) hn.2 (λz c hz=>by
    rcases bu.mp hz with e|e
    ·(injection e with bN ch;subst ch;subst bN);exact nY _
    ·exact λq=>ha z c e (aL _ q))
   refine ⟨λhm=>?_,λhm=>?_⟩
   ·rcases bu.mp hm with e|hm
    ·(injection e with cg cm;cases cm;subst cg)
     exact aB n (by erw[ih.2 (nY _),dW];simp) (aq _)
    ·refine e12 (ih.1 hm) λc e l=>?_;exact aB c e (ww l)
   ·have hx:x≠y:=λe=>hm (by erw[e];exact aG);erw[ih.2 (λq=>hm (aL _ q)),dW,beq_eq_false_iff_ne.mpr hx]
  ·erw[if_neg hk];have ih:=ih n aa hn.2 (λz c hz q=>ha z c hz (aL _ q));refine ⟨λhm=>?_,λhm=>?_⟩
   ·rcases bu.mp hm with e|hm
    ·(injection e with cW d0;subst d0;subst cW);exact absurd rfl hk
    ·exact ih.1 hm
   ·exact ih.2 (λq=>hm (aL _ q))
theorem Se{x:Str}{c:Addr}:∀(l:List (Str × NameKind)) (h:Heap) (aa:List (Str × Addr)),(x,c)∈iC h.objs.size l aa->((rK h l).IsCell c none/\h.objs.size<=c)\/(x,c)∈aa:=λl=>by
 induction l with
 |nil=>
  intro h aa hm;exact .inr hm
 |cons hd r ih=>
  intro h aa hm;obtain ⟨y,k⟩:=hd;unfold iC at hm;unfold rK;split at hm
  ·rename_i hk;erw[if_pos hk];rw[<- dS h {cls:=.type "cell",data:=.cell none}] at hm;refine cT (ih _ _ hm) (λq=>?_) λq=>?_
   ·refine .inl ⟨q.1,?_⟩;have:=q.2;rw[dS] at this;exact ww this
   ·rcases bu.mp q with e|e
    ·(injection e with d5 dJ;subst dJ;subst d5)
     exact .inl ⟨⟨_,FI _ _ _ _ (co _ rfl),rfl⟩,aq _⟩
    ·exact .inr e
  ·rename_i hk;erw[if_neg hk];exact ih h aa hm
theorem Sf:∀(l:List (Str × NameKind)) (n:Nat) (aa:List (Str × Addr)),(aa.Pairwise λx y=>x.2≠y.2)->(∀p∈aa,p.2<n)->(iC n l aa).Pairwise λx y=>x.2≠y.2:=λl=>by
 induction l with
 |nil=>
  intro n aa h _;exact h
 |cons hd r ih=>
  intro n aa h hl;obtain ⟨y,k⟩:=hd;unfold iC;split
  ·refine ih (n+1) _ (EA.mpr ⟨λp hp e=>?_,h⟩) λp hp=>?_
   ·exact absurd (hl p hp) (by erw[<- show n=p.2 from e];exact lc _)
   ·rcases bu.mp hp with e|e
    ·erw[e];exact LZ _
    ·exact wx (hl p e)
  ·exact ih n aa h hl
theorem Sg{env:Env}:∀(l:List (Str × NameKind)) (aa:List (Str × Addr)),(l.map (·.1)).Nodup->(∀x y c,env.cells.lookup x=some c->env.cells.lookup y=some c->x=y)->(∀x,(x,fg)∈l->(env.cells.lookup x).isSome=true) ->
  (aa.Pairwise λx y=>x.2≠y.2)->(∀p∈aa,env.cells.lookup p.1=some p.2/\∀q,(p.1,q)∉l)->(eK env l aa).Pairwise λx y=>x.2≠y.2:=λl=>by
 induction l with
 |nil=>
  intro aa _ _ _ h _;exact h
 |cons hd r ih=>
  intro aa hn hi hs h ha;obtain ⟨n,k⟩:=hd;rw[bX,fM] at hn;have nY:∀q,(n,q)∉r:=λq hm=>hn.1 (ft (f:=(·.1)) hm);unfold eK;split
  ·rename_i hk;have:k=.free:=by simpa using hk
   clear hk;subst this;refine e11 (oZ.mp (hs n aG)) λc hc=>?_;refine ih _ hn.2 hi (λx q=>hs x (aL _ q)) (EA.mpr ⟨λp hp e=>?_,h⟩) λp hp=>?_
   ·rw[hc] at e;have e':c=p.2:=e;have:=hi n p.1 c hc (e'▸(ha p hp).1);exact (ha p hp).2 fg (by erw[<- this];exact aG)
   ·rcases bu.mp hp with e|e
    ·erw[e];exact ⟨by erw[hc];rfl,nY⟩
    ·exact ⟨(ha p e).1,λq hq=>(ha p e).2 q (aL _ hq)⟩
  ·exact ih aa hn.2 hi (λx q=>hs x (aL _ q)) h λp hp=>⟨(ha p hp).1,λq hq=>(ha p hp).2 q (aL _ hq)⟩
noncomputable def Co(scope ip:dg):dg :=
 {scope with names:=scope.names.map λ(n,k)=>if (k==.free&&ip.kind==.function&&ip.names.lookup n==some .cell) then (n,.cell) else (n,k)}
theorem Sh{scope:dg}{env:Env}:rL scope env=Co scope env.scope:=rfl
theorem Si{ip:dg}{x:Str}{k:NameKind}:∀{names:List (Str × NameKind)},names.lookup x=some k ->
  (names.map λ(n,k)=>if (k==fg&&ip.kind==.function&&ip.names.lookup n==some .cell) then (n,eF) else (n,k)).lookup x=some (if (k==fg&&ip.kind==.function&&ip.names.lookup x==some .cell) then .cell else k):=λ{names}=>by
 induction names with
 |nil=>
  intro h;simp at h
 |cons hd r ih=>
  intro h;obtain ⟨n,k'⟩:=hd;erw[bX];rw[dW] at h;cases hx:x==n with
  |true=>
   rw[hx] at h;(injection h with dY;subst dY)
   have:x=n:=beq_iff_eq.mp hx;clear hx;subst this;dsimp only;split<;>(erw[dW];simp)
  |false=>
   rw[hx] at h;have ih:=ih h;dsimp only;split<;>(erw[dW,hx];exact ih)
structure su(cx:Cx)(scope:dg)(ci:Cx):Prop where
 kind:scope.kind=.function
 sc:ci.sc=Co scope cx.sc
 n:ci.n=cx.n
 nd:(scope.names.map (·.1)).Nodup
 names:∀x i j,(x,i)∈ci.vis->(x,j)∈ci.vis->i=j
 slots:∀x y i,(x,i)∈ci.vis->(y,i)∈ci.vis->x=y
 bound:∀x i,(x,i)∈ci.vis->i<ci.n
 each:∀x i,(x,i)∈ci.vis->(x,NameKind.local)∈scope.names\/(x,eF)∈scope.names\/((x,fg)∈scope.names/\(x,i)∈cx.vis/\(cx.kind x=some .cell\/cx.kind x=some .free))
 free:∀x,(x,fg)∈scope.names->∃i,(x,i)∈cx.vis/\(cx.kind x=some .cell\/cx.kind x=some .free)
 cells:∀x∈ci.cells,(x,eF)∈scope.names
theorem qj{α:Type}{x:Str}{a:α}:∀{l:List (Str × α)},(l.map (·.1)).Nodup->(x,a)∈l->l.lookup x=some a
 |(y,b)::r,hn,hm=>by
  rw[bX,fM] at hn;erw[dW];rcases bu.mp hm with e|e
  ·(injection e with eT eS;subst eS;subst eT);simp
  ·have:x≠y:=by rintro rfl;exact hn.1 (ft (f:=(·.1)) e)
   erw[beq_eq_false_iff_ne.mpr this];exact qj hn.2 e
section
variable{Γ:Gam}{k:Nat}{cx ci:Cx}{σ bE σ₁ aw cJ:St}{A:Around}{env:Env}{s:Shared}{ρ:List Addr}{scope:dg}
theorem Sj{M:me}{E:Value->Shared->Prop}(C:su cx scope ci)(x:Sim Γ A.frames cx ρ σ env s)(hv:∀y i,(y,i)∈ci.vis->((y,NameKind.local)∈scope.names\/(y,eF)∈scope.names)->∀d:AV,σ.vars[i]?≠some (some d))
  {Q:Env->Shared->Prop} (h:∀pF s',SLe s s'->pF.globals=env.globals->(∀a∈ownOf ci {pF with scope:=rL scope env},s.heap.objs.size<=a)->Sim Γ A.frames ci ρ σ {pF with scope:=rL scope env} s'->Q pF s') :
  AK scope env=pure (eK env scope.names [])/\aj M A (N9 scope env.globals (eK env scope.names []) [] env.qual none .none (some env)) Q E s:=by
 have GV:∀y,(y,fg)∈scope.names->∃c vo,env.cells.lookup y=some c/\c∉ρ/\s.heap.IsCell c vo:=λy hy=>by
  refine e12 (C.free y hy) λi hi hk=>?_;refine e24 (x.vr.cell y i hi hk) λc vo e1 e2 e3 _=>?_;exact fk c vo e1 e2 e3
 have xN:∀y,(y,fg)∈scope.names->(env.cells.lookup y).isSome=true:=λy hy=>by
  refine e22 (GV y hy) λc vo e1 _=>?_;erw[e1];rfl
 refine ⟨Hw xN,?_⟩;simp only[N9,Option.isSome_some,if_true];refine ag (wpAny_alloc ?_);refine ag (wpAny_layCells _ (λname kind cells=>by cases xz:kind==eF<;>simp[xz]) _ _ _ _ ?_)
 erw[EB];refine ag (am (am ?_));have bz:(s.heap.push {cls:=.type "dict",data:=.dict #[]}).objs.size=s.heap.objs.size+1:=dS _ _;have xv:Le s.heap (rK (s.heap.push {cls:=.type "dict",data:=.dict #[]}) scope.names):=λb o e=>FI _ _ _ _ (du _ e);have hL:(rK (s.heap.push {cls:=.type "dict",data:=.dict #[]}) scope.names).Ns s.heap.objs.size (λzz=>none):=(Heap.Ns.new s.heap (.type "dict")).keeps (FI _ _);have sl:SLe s {s with heap:=rK (s.heap.push {cls:=.type "dict",data:=.dict #[]}) scope.names}:=⟨xv,bk hL.lt,rfl,rfl⟩
 have pT:∀y c,(y,c)∈eK env scope.names []->(y,fg)∈scope.names/\env.cells.lookup y=some c:=λy c hm=>by
  refine cT (Sd _ _ hm) (λq=>?_) λq=>?_
  ·refine e11 (oZ.mp (xN y q.1)) λc' xK=>?_;refine ⟨q.1,?_⟩;erw[xK,q.2,xK];rfl
  ·cases q
 have Gj:∀{y:Str} {uA GO:NameKind},(y,uA)∈scope.names->(y,GO)∈scope.names->uA=GO:=λh1 h2=>by
  have a:=qj C.nd h1;have b:=qj C.nd h2;rw[a] at b;exact l5 b
 have pD:∀y c,(y,c)∈eK env scope.names []->(y,eF)∉scope.names:=λy c hm q=>by
  have:=Gj (pT y c hm).1 q;injection this
 have xq:∀y,(y,eF)∈scope.names->∃c,(iC (s.heap.objs.size+1) scope.names (eK env scope.names [])).lookup y=some c/\s.heap.objs.size+1<=c/\(rK (s.heap.push {cls:=.type "dict",data:=.dict #[]}) scope.names).IsCell c none:=λy hy=>by
  refine e12 ((Hx (x:=y) scope.names (s.heap.objs.size+1) (eK env scope.names []) C.nd pD).1 hy) λc e l=>?_;refine cH c e l ?_;have hm:=mem_of_lookup e;rw[<- bz] at hm;refine cT (Se _ _ _ hm) (λq=>?_) λq=>?_
  ·exact q.1
  ·exact absurd hy (pD y c q)
 have pt:∀y,(y,fg)∈scope.names->(iC (s.heap.objs.size+1) scope.names (eK env scope.names [])).lookup y=env.cells.lookup y:=λy hy=>by
  erw[(Hx (x:=y) scope.names (s.heap.objs.size+1) (eK env scope.names []) C.nd pD).2 (λq=>by have:=Gj hy q;injection this)];exact (Sc scope.names [] C.nd).1 hy (xN y hy)
 have jQ:∀a∈ownOf ci {({scope:=scope,locals:=s.heap.objs.size,globals:=env.globals,cells:=iC (s.heap.objs.size+1) scope.names (eK env scope.names []),qual:=env.qual,func:=none,code:=env.code,frame:=env.frame,builtins:=env.builtins}:Env) with scope:=rL scope env},s.heap.objs.size<=a/\(a=s.heap.objs.size\/(rK (s.heap.push {cls:=.type "dict",data:=.dict #[]}) scope.names).IsCell a none):=λa ha=>by
  rcases bu.mp ha with q|q
  ·erw[q];exact ⟨aq _,.inl rfl⟩
  ·refine e12 (oX.mp q) λy hy hl=>?_;refine e13 (xq y (C.cells y hy)) λc e l hc=>?_;have:c=a:=by rw[show Eu y (iC (s.heap.objs.size+1) scope.names (eK env scope.names []))=some a from hl] at e;exact (l5 e).symm
   clear ha q hl;subst this;exact ⟨ww l,.inr hc⟩
 erw[bz];refine h _ _ sl rfl (λa ha=>(jQ a ha).1) ?_;have um:∀y kd,(y,kd)∈scope.names->ci.kind y=some (if (kd==fg&&cx.sc.kind==.function&&cx.sc.names.lookup y==some .cell) then .cell else kd):=λy kd hy=>by
  unfold Cx.kind;erw[C.sc];exact Si (qj C.nd hy)
 refine ⟨sl.h x.h,⟨?_,?_,x.ok.gl,x.ok.bl,C.names,C.slots,C.bound⟩,⟨?_,⟨_,hL,λy i hy hk d hd=>?_⟩,λy i hy hk=>?_,λy z c hy hz=>?_,λa ha=>?_,λa ha q=>?_,λa ha=>?_⟩,x.tr.le xv,λl hl=>x.hd l hl⟩
 ·show rL scope env=ci.sc;erw[Sh,C.sc,x.ok.sc]
 ·erw[C.sc];exact C.kind
 ·erw[C.n];exact x.vr.len
 ·rcases C.each y i hy with q|q|⟨q,_⟩
  ·exact absurd hd (hv y i hy (.inl q) d)
  ·exact absurd hd (hv y i hy (.inr q) d)
  ·rw[um y _ q] at hk;split at hk<;>(injection hk with fw;injection fw)
 ·rcases C.each y i hy with q|q|⟨q,q1,q2⟩
  ·rw[um y _ q] at hk;simp at hk
  ·refine e13 (xq y q) λc e l hc=>?_;refine hM c none e (λr=>?_) hc (λd hd=>absurd hd (hv y i hy (.inr q) d));have:=x.h.hp.lt r;exact absurd this (bQ.mpr (ww l))
  ·refine e24 (x.vr.cell y i q1 q2) λc vo e1 e2 e3 e4=>?_;exact hM c vo ((pt y q).trans e1) e2 (e3.keeps xv) (λd hd=>let ⟨v,f1,f2⟩:=e4 d hd;⟨v,f1,VRep.mono (.refl _) xv.imm _ _ f2⟩)
 ·refine name_of_addr (Sf scope.names _ _ (Sg scope.names [] C.nd x.vr.inj xN Adr (λp hp=>by cases hp)) λp hp=>?_) (mem_of_lookup hy) (mem_of_lookup hz);refine e02 (pT p.1 p.2 hp) λh1 h2=>?_;refine e23 (GV p.1 h1) λc vo e1 e2 e3=>?_;rw[h2] at e1;(injection e1 with fA;subst fA)
  exact wx e3.lt
 ·cases e:Γ.base.get? a with
  |none=>rfl
  |some o=>exact absurd (cF (x.h.base _ _ e)) (bQ.mpr (jQ a ha).1)
 ·exact absurd (x.h.hp.lt q) (bQ.mpr (jQ a ha).1)
 ·rcases (jQ a ha).2 with q|q
  ·erw[q];exact hL.lt
  ·exact q.lt
end
section
variable{Γ:Gam}{k:Nat}[NeZero k]{cx ci:Cx}{σ bE σ₁ aw cJ:St}{A:Around}{env:Env}{s:Shared}{ρ:List Addr}{scope:dg}
inductive Cnd(Γ:Gam)(k:Nat)(cx:Cx):List Expr->St->Bool->St->Prop
 |nil {σ:St}:Cnd Γ k cx [] σ true σ
 |one {σ σ₁:St} {c:Expr} {b:Bool}:Ts Γ k cx σ c b σ₁->Cnd Γ k cx [c] σ b σ₁
theorem Cnd.run{ifs:List Expr}{b:Bool}(h:Cnd Γ k cx ifs σ b σ₁)(R:Room k A)(x:Sim Γ A.frames cx ρ σ env s) :
  Rn Γ A (ownOf cx env) ρ s (forIn ifs true λc r=>if r=true then do let ok <- wU c env (eval c env);pure (ti ok) else pure (ti r)) λb' ae s'=>Sim Γ A.frames cx ae σ₁ env s'/\b'=b:=by
 cases h with
 |nil=>exact Oa ⟨ρ,.refl ..,x,rfl⟩
 |one h=>exact wpAny_tests_one (h A env s ρ R x)
noncomputable def vg:Expr->Bool
 |.Name ..=>true
 |_=>false
theorem Cp{t:Expr}(h:vg t=true)(it v:Value):tJ t it v=pure ():=by
 induction t using fL<;>first|rfl|exact nomatch h
structure DOk(Γ:Gam)(A:Around)(cx:Cx)(env:Env)(ρ:List Addr)(D:Addr):Prop where
 ρ:D∉ρ
 own:D∉ownOf cx env
 fr:D∉frs A
 base:Γ.base.get? D=none
theorem DOk.step{own ae:List Addr}{h h':Heap}{D:Addr}(d:DOk Γ A cx env ρ D)(st:Step (frs A) own ρ ae h h'){o:Obj}(e:h.get? D=some o):DOk Γ A cx env ae D:=⟨qh st e d.ρ,d.own,d.fr,d.base⟩
theorem DOk.keep{ae:List Addr}{h h':Heap}{D:Addr}(d:DOk Γ A cx env ρ D)(st:Step (frs A) (ownOf cx env) ρ ae h h'){o:Obj}(e:h.get? D=some o):h'.get? D=some o:=st.keepF D o d.ρ d.own e d.fr
theorem DOk.sim{s':Shared}{D:Addr}(d:DOk Γ A cx env ρ D)(x:Sim Γ A.frames cx ρ σ env s)(sb:SBut D s s')(h:∀v,¬ s.heap.IsCell D v):Sim Γ A.frames cx ρ σ env s':=x.other sb d.ρ d.own d.base h d.fr
structure Sk(Γ:Gam)(A:Around)(cx:Cx){α:Type}(K:α->Addr->List Addr->Heap->Prop)(env:Env)(ρ:List Addr)(h:Heap)(bE:St)(je:α)(D:Addr)(ae:List Addr)(s':Shared):Prop where
 st:Step (frs A) (D::ownOf cx env) ρ ae h s'.heap
 sim:Sim Γ A.frames cx ae bE env s'
 d:DOk Γ A cx env ae D
 k:K je D ae s'.heap
abbrev ov:=Around->Addr->Env->(Shared->Prop)->Shared->Prop
noncomputable def kG(Γ:Gam)(k:Nat)(cx:Cx){α:Type}(K:α->Addr->List Addr->Heap->Prop)(B:ov)(σ:St)(aa:α)(bE:St)(je:α):Prop :=
 ∀A env s ρ D (P:Shared->Prop),Room k A->Sim Γ A.frames cx ρ σ env s->DOk Γ A cx env ρ D->K aa D ρ s.heap->(∀ae s',Sk Γ A cx K env ρ s.heap bE je D ae s'->P s')->B A D env P s
inductive Tn(Γ:Gam)(k:Nat)(cx:Cx)(target:Expr)(cv:List AO->Prop){α:Type}(T:St->α->St->α->Prop):List AV->α->St->α->St->Prop
 |nil {σ:St} {aa:α}:cv σ.heap->Tn Γ k cx target cv T [] aa σ aa σ
 |cons {d:AV} {ds:List AV} {aa je out:α} {σ σ₁ aw cJ:St}:cv σ.heap->As Γ k cx σ target d σ₁->T σ₁ aa aw je->Tn Γ k cx target cv T ds je aw out cJ->Tn Γ k cx target cv T (d::ds) aa σ out cJ
structure CK(Γ:Gam)(e target iter:Expr)(ifs:List Expr)(ja:Sem Value)(B:ov){α:Type}(K:α->Addr->List Addr->Heap->Prop)(lv:α):Prop where
 cl:clausesOf e=[⟨target,iter,ifs,0⟩]
 new:∀A s (Q:Value->Shared->Prop),(∀o,o.isFreed=false->(∀ρ h D,h.get? D=some o->K lv D ρ h)->Q (.ref s.heap.objs.size) {s with heap:=s.heap.push o})->aj (av Γ.prog Γ.w) A ja Q (λzz zz=>False) s
 keep:∀{aa D ρ ae h h'},K aa D ρ h->Pre ρ ae->ImmLe h h'->(∀o,h.get? D=some o->h'.get? D=some o)->K aa D ae h'
 obj:∀{aa D ρ h},K aa D ρ h->∃o,h.get? D=some o
 turn:∀A I D env (R:gH->Shared->Prop) s,aj (av Γ.prog Γ.w) A (fP (.ref I)) (λr ai=>r.elim (R (.ok .next) ai) λv=>aj (av Γ.prog Γ.w) A (assign target env v) (λzz ay=>B A D env (λbS=>cM (av Γ.prog Γ.w) A (.compLoop e 0 (.ref I) (.ref D) env) R bS) ay) (λzz zz=>False) ai) (λzz zz=>False) s ->
  cM (av Γ.prog Γ.w) A (.compLoop e 0 (.ref I) (.ref D) env) R s
 start:∀A it aa env (R:gH->Shared->Prop) s,cM (av Γ.prog Γ.w) A (.compLoop e 0 it aa env) R s->aj (av Γ.prog Γ.w) A (rH it) (λuN s'=>cM (av Γ.prog Γ.w) A (.compLoop e 0 uN aa env) R s') (notedBy (av Γ.prog Γ.w) A env λx s'=>R (.error x) s') s ->
  cM (av Γ.prog Γ.w) A (.compStart e 0 it aa env) R s
theorem wk{α:Type}{M:me}{u:Sem α}{Q:α->Shared->Prop}{E:Value->Shared->Prop}(h:aj M A u Q (λzz zz=>False) s):aj M A u Q E s:=ba h (λzz zz q=>q) λzz zz q=>q.elim
theorem Sl{α:Type}{l:List α}{i:Nat}{d:α}{r:List α}(e:d::r=l.drop i):l[i]?=some d/\r=l.drop (i+1):=by
 have h:(l.drop i)[0]?=some d:=by erw[<- e];rfl
 rw[wt] at h;exact ⟨h,by erw[<- zN,<- e];rfl⟩
theorem Sm{α:Type}{l:List α}{i:Nat}(e:[]=l.drop i):l[i]?=none:=qV (List.drop_eq_nil_iff.mp e.symm)
theorem Sn{α:Type}{e target iter:Expr}{ifs:List Expr}{ja:Sem Value}{B:ov}{K:α->Addr->List Addr->Heap->Prop}{lv:α}(ck:CK Γ e target iter ifs ja B K lv){I D:Addr}{items:List AV}{cv:List AO->Prop}{S:Nat->List Addr->Heap->Prop}(it:ou Γ I items cv S)(R0:Room k A)(BB:I≠D)
  {ds:List AV} {aa out:α} (L:Tn Γ k cx target cv (kG Γ k cx K B) ds aa σ out bE):∀{ρ:List Addr} {s:Shared} {j:Nat} {R:gH->Shared->Prop},Sim Γ A.frames cx ρ σ env s->ds=items.drop j->S j ρ s.heap->DOk Γ A cx env ρ I->DOk Γ A cx env ρ D->K aa D ρ s.heap ->
  (∀ae s',Step (frs A) (I::D::ownOf cx env) ρ ae s.heap s'.heap->Sim Γ A.frames cx ae bE env s'->DOk Γ A cx env ae D->K out D ae s'.heap->R (.ok .next) s')->cM (av Γ.prog Γ.w) A (.compLoop e 0 (.ref I) (.ref D) env) R s:=by
 induction L with
 |nil hc=>
  intro ρ s j R x hd hS hI xC hK hR;refine ck.turn _ _ _ _ _ _ (ba (it.stop j ρ s _ A R0.one x.h hc hS (Sm hd)) (λr ai q=>?_) λzz zz q=>q);cases q.1;exact hR ρ ai (q.2.step aG) (x.sbut q.2 hI.ρ hI.own hI.base (it.live _ _ _ hS)) xC (ck.keep hK (.refl _) q.2.imm λo e=>q.2.keep D o (bV BB) e)
 |cons hc ha hb _ ih=>
  intro ρ s j R x hd hS hI xC hK hR;have hj:=Sl hd;refine ck.turn _ _ _ _ _ _ (ba (it.next j ρ s _ _ A (R0.le (bW _)) x.h hc hS hj.1) (λr ai q=>?_) λzz zz q=>q)
  refine e14 q ?_;clear q;intro v e rv sb mW;subst e;have ap:=x.sbut sb hI.ρ hI.own hI.base (it.live _ _ _ hS);have FZ:=ck.keep hK (.refl _) sb.imm λo e=>sb.keep D o (bV BB) e;refine e22 (it.live _ _ _ mW) λoI _ eI _=>?_;refine e11 (ck.obj FZ) λoD eD=>?_;refine Rn.to (ha A env ai ρ v R0 ap rv) λzz aP ay aX aH=>?_;have FT:=hI.keep aX eI;refine hb A env ay aP D _ R0 aH (xC.step aX eD) (ck.keep FZ aX.pre aX.imm λo e=>xC.keep aX e) λdz bS b=>?_;have n6:=hI.step aX eI;have kI:bS.heap.get? I=some oI:=b.st.keepF I oI n6.ρ (λq=>(bu.mp q).elim BB hI.own) FT hI.fr;have st:=(aX.widen' λa ha=>aL D ha).trans b.st;refine ih b.sim hj.2 (it.mono _ _ _ _ _ mW st.pre st.imm λo e=>by rw[eI] at e;(injection e with aC;subst aC);exact kI) (n6.step b.st FT) b.d b.k λae s' ee=>hR ae s' ((sb.step aG).trans ((st.widen' λa ha=>aL I ha).trans ee))
theorem HRep.add{h:Heap}{H:List AO}{a:Addr}{o':AO}(x:HRep Γ ρ h H)(ha:a∉ρ)(hb:Γ.base.get? a=none)(h1:a≠1)(r:ORep Γ (ρ++[a]) h o' a):HRep Γ (ρ++[a]) h (H++[o']):=by
 refine ⟨by simp[x.len],?_,λj o b e q=>?_,λj b q hp=>?_,λb BQ=>(cU.mp BQ).elim (x.nm b) λq=>by simp at q;exact q▸h1⟩
 ·erw[jw];exact ⟨x.nd,by simp,λb iM c hc=>by simp at hc;clear r hb h1;subst hc;exact λe=>ha (e▸iM)⟩
 ·by_cases hj:j<ρ.length
  ·rw[lf hj] at q;rw[lf (x.len▸hj)] at e;exact ORep.mono ⟨[a],rfl⟩ (.refl _) (λzz e=>e) (x.obj j o b e q)
  ·have pO:j=ρ.length:=by
    have:=(ei.mp q).1;simp at this;exact fJ (dU this) (d8 hj)
   clear hj;subst pO;simp at q;subst q;rw[x.len] at e;simp at e;subst e;exact r
 ·by_cases hj:j<ρ.length
  ·rw[lf hj] at q;exact x.off j b q λl e=>hp l (by erw[lf (x.len▸hj)];exact e)
  ·have pO:j=ρ.length:=by
    have:=(ei.mp q).1;simp at this;exact fJ (dU this) (d8 hj)
   clear hj hp;subst pO;simp at q;subst q;exact hb
theorem So{X az ae:List Addr}{ai s':Shared}{H':List AO}{D:Addr}{o':AO}(ap:Sim Γ A.frames cx az σ₁ env ai)(st:Step (frs A) X az ae ai.heap s'.heap)(hX:∀a∈X,ai.heap.objs.size<=a)(h':SimH Γ ae H' s')(hD:ai.heap.objs.size<=D)(Rd:D∉ae)
  (r:ORep Γ (ae++[D]) s'.heap o' D):Step (frs A) [] az (ae++[D]) ai.heap s'.heap/\Sim Γ A.frames cx (ae++[D]) ⟨σ₁.vars,H'++[o']⟩ env s'/\VRep (ae++[D]) s'.heap (.loc H'.length) (.ref D):=by
 refine e12 st.ext λnew e fn=>?_;have ee:Step (frs A) [] az (ae++[D]) ai.heap s'.heap:=by
  refine ⟨⟨new++[D],by erw[e];simp,λa ha=>?_⟩,λb o hb zz e'=>st.keep' b o hb (λq=>absurd (cF e') (bQ.mpr (hX b q))) e',st.imm,st.size⟩;refine cT (cU.mp ha) (λq=>?_) λq=>?_
  ·exact fn a q
  ·simp at q;erw[q];exact hD
 have hb:Γ.base.get? D=none:=by
  cases e:Γ.base.get? D with
  |none=>rfl
  |some o=>exact absurd (cF (ap.h.base _ _ e)) (bQ.mpr hD)
 refine ⟨ee,ap.step ee (by simp) ⟨h'.base,h'.gens,h'.os,h'.hp.add Rd hb (Ho ap.h.base hD) r⟩,D,rfl,?_⟩;erw[<- h'.hp.len];simp
structure AtEnd(Γ:Gam)(A:Around)(cx:Cx)(σ:St)(env:Env)(ρ:List Addr)(s:Shared)(ae:List Addr)(d:AV)(aa:Value)(C:Addr)(s':Shared):Prop where
 st:Step (frs A) (ownOf cx env) ρ ae s.heap s'.heap
 sim:Sim Γ A.frames cx ae σ env s'
 rep:VRep ae s'.heap d aa
 ns:∃m,s'.heap.Ns C m
 fresh:s.heap.objs.size<=C
 off:C∉ae
 own:C∉ownOf cx env
 base:Γ.base.get? C=none
 tr0:Tr Γ A.frames ρ s.heap
theorem AtEnd.then_{ae:List Addr}{d:AV}{aa:Value}{C:Addr}{s':Shared}{h':Heap}(x:AtEnd Γ A cx σ env ρ s ae d aa C s')(aW:fK C s'.heap h'):∃gp,Step (frs A) (ownOf cx env) ρ gp s.heap h'/\Sim Γ A.frames cx gp σ env {s' with heap:=h'}/\VRep gp h' d aa:=by
 refine e11 x.ns λm hn=>?_;have nC:=λo (e:s'.heap.get? C=some o)=>xU hn e;refine e12 x.st.ext λnew e fn=>?_;have sb:SBut C s' {s' with heap:=h'}:=SBut.sb (t:=s'.toks) aW nC
 refine cH ae (⟨⟨new,e,fn⟩,λb o hb ho q=>by erw[aW.2 b (λe=>absurd (cF q) (bQ.mpr (e▸x.fresh)))];exact x.st.keep' b o hb ho q,x.st.imm.trans sb.imm,ah x.st.size sb.size⟩) ?_ (VRep.mono (.refl _) sb.imm _ _ x.rep);have kp:∀b o,b∈ownOf cx env->s'.heap.get? b=some o->h'.get? b=some o:=λb o hb e=>sb.keep b o (λq=>x.own (q▸hb)) e;have y:=x.sim;refine ⟨sb.h y.h x.off x.base,y.ok,⟨y.vr.len,?_,λz i hv hk=>?_,y.vr.inj,y.vr.off,y.vr.own,λa ha=>dT (y.vr.lt a ha) sb.size⟩,?_,y.hd⟩
 ·refine e12 y.vr.loc λm aI hl=>?_;refine e32 aI λo es ep ho rest=>?_;exact aB m ⟨o,es,ep,kp _ _ aG ho,rest⟩ (λz i hv hk d hd=>let ⟨v,e1,e2⟩:=hl z i hv hk d hd;⟨v,e1,VRep.mono (.refl _) sb.imm _ _ e2⟩)
 ·refine e24 (y.vr.cell z i hv hk) λc vo e1 e2 e3 e4=>?_;exact hM c vo e1 e2 (e3.sameBut aW (xV e3 hn)) (λd hd=>let ⟨v,f1,f2⟩:=e4 d hd;⟨v,f1,VRep.mono (.refl _) sb.imm _ _ f2⟩)
 ·intro l hl e he;refine e02 (x.tr0 l hl e he) λ_ aS=>?_;refine e24 aS λL m e1 _ _ e4=>?_;refine e02 (y.tr l hl e he) λk be=>?_;refine e24 be λL' m' f1 f2 f3 f4=>?_;rw[e1] at f1;(injection f1 with bw;subst bw)
  exact ⟨k,L,m',e1,f2,f3,f4.sameBut aW λq=>absurd e4.lt (bQ.mpr (q▸x.fresh))⟩
structure LEnd(Γ:Gam)(A:Around)(cx:Cx)(σ₁:St)(H':List AO)(env:Env)(ρ:List Addr)(s:Shared)(D C:Addr)(ae:List Addr)(s':Shared):Prop where
 mid:∃az ai X,Step (frs A) (ownOf cx env) ρ az s.heap ai.heap/\Sim Γ A.frames cx az σ₁ env ai/\Step (frs A) X az ae ai.heap s'.heap/\(∀a∈X,ai.heap.objs.size<=a)/\ai.heap.objs.size<=D
 tr:Tr Γ A.frames ρ s.heap
 h:SimH Γ ae H' s'
 ns:∃m,s'.heap.Ns C m
 dC:D<C
 cρ:C∉ae
 dρ:D∉ae
theorem Cq{ai:Shared}{a:Addr}(x:SimH Γ ρ σ.heap ai)(h:ai.heap.objs.size<=a):Γ.base.get? a=none:=by
 cases e:Γ.base.get? a with
 |none=>rfl
 |some o=>exact absurd (cF (x.base _ _ e)) (bQ.mpr h)
theorem LEnd.loc{H':List AO}{D C:Addr}{ae:List Addr}{s':Shared}{o':AO}(x:LEnd Γ A cx σ₁ H' env ρ s D C ae s')(r:ORep Γ (ae++[D]) s'.heap o' D):AtEnd Γ A cx ⟨σ₁.vars,H'++[o']⟩ env ρ s (ae++[D]) (.loc H'.length) (.ref D) C s':=by
 refine e34 x.mid λaz ai X st ap xG bA=>?_;refine e02 bA λhX hD=>?_;refine e03 (So ap xG hX x.h hD x.dρ r) λq1 q2 q3=>?_;have hC:=ah hD (bk x.dC);exact ⟨st.trans q1.widen,q2,q3,x.ns,ah st.size hC,λq=>(cU.mp q).elim x.cρ λq=>absurd (bM.mp q) (gF x.dC),λq=>absurd (ap.vr.lt _ q) (bQ.mpr hC),Cq ap.h hC,x.tr⟩
theorem LEnd.none{H':List AO}{D C:Addr}{ae:List Addr}{s':Shared}(x:LEnd Γ A cx σ₁ H' env ρ s D C ae s'):AtEnd Γ A cx ⟨σ₁.vars,H'⟩ env ρ s ae .none .none C s':=by
 refine e34 x.mid λaz ai X st ap xG bN=>?_;refine e02 bN λhX hD=>?_;have hC:=ah hD (bk x.dC);exact ⟨st.trans (Ci (.refl _) (aq _) hX (λa ha=>.inl ha) xG).widen,ap.step xG hX x.h,rfl,x.ns,ah st.size hC,x.cρ,λq=>absurd (ap.vr.lt _ q) (bQ.mpr hC),Cq ap.h hC,x.tr⟩
theorem Cr{α:Type}{e target iter:Expr}{ifs:List Expr}{ja:Sem Value}{B:ov}{K:α->Addr->List Addr->Heap->Prop}{lv:α}(ck:CK Γ e target iter ifs ja B K lv){pos:Pos}{d:AV}{items:List AV}{out:α}{cv:List AO->Prop}(C:su cx scope ci)(h1:Ev Γ k cx σ iter d σ₁)(hi:IterP Γ d σ₁.heap items cv)
  (hv:∀y i,(y,i)∈ci.vis->((y,NameKind.local)∈scope.names\/(y,eF)∈scope.names)->∀d:AV,σ₁.vars[i]?≠some (some d)) (L:Tn Γ k ci target cv (kG Γ k ci K B) items lv σ₁ out aw)
  (hs:∀env x,rI iter env x=pure x) (R:Room k A) (x:Sim Γ A.frames cx ρ σ env s) {use:Option (Value->Sem Unit)} {Q:Value->Shared->Prop}
  (RE:∀D C s' ae,LEnd Γ A cx σ₁ aw.heap env ρ s D C ae s'->K out D ae s'.heap->compPost (av Γ.prog Γ.w) A (λzz zz=>False) use Q (.ref D) C (.ok .next) s') :
  aj (av Γ.prog Γ.w) A (AL e scope env pos ja false (eval iter env) use) Q (λzz zz=>False) s:=by
 have pT:AK scope env=pure (eK env scope.names []):=Hw λy hy=>by
  refine e12 (C.free y hy) ?_;clear hi;intro i hi hk;refine e22 (x.vr.cell y i hi hk) λc vo e1 _=>?_;erw[e1];rfl
 refine wpAny_comprehension_free (use:=use) (cl:=eK env scope.names []) ck.cl (hs env) pT C.kind (λy hy hl=>by obtain ⟨n,kd⟩:=y;subst hl;exact qj C.nd hy) ?_;refine Rn.to (h1 A env s ρ R x) λv az ai aV q=>?_;refine e02 q ?_;clear q;intro ap aU;refine ba (hi A ai az v (R.le (bW _)) ap.h aU) (λit ay q=>?_) λzz zz q=>q;refine e02 q ?_;clear q;intro sl ch;refine e24 ch λI S e hI Sp hS=>?_;subst e;have aH:=sl.sim ap;refine ck.new _ _ _ λoD hf Ry=>?_;have Hg:SLe ay {ay with heap:=ay.heap.push oD}:=.push ay _ ay.toks
 refine e22 (Sp.live _ _ _ hS) λoI fI eI dI=>?_;refine (Sj C (Hg.sim aH) hv λpF cj rX hg jQ gk=>?_).2;have xu:=Hg.trans rX;have Q0:=dS ay.heap oD;have Gq:S 0 az cj.heap:=Sp.mono _ _ _ _ _ hS (.refl _) xu.le.imm λo e=>xu.le _ _ e;have sd:∀a∈ownOf ci {pF with scope:=rL scope env},ay.heap.objs.size+1<=a:=λa ha=>Q0▸jQ a ha
 have fr:∀a,ai.heap.objs.size<=a->a<ay.heap.objs.size+1->DOk Γ A ci {pF with scope:=rL scope env} az a:=λa h1 h2=>
  ⟨λq=>absurd (ap.h.hp.lt q) (bQ.mpr h1),λq=>absurd (sd a q) (Nat.not_le.mpr h2),λq=>(ap.tr.frNs q).elim λzz q=>absurd q.lt (bQ.mpr h1),Cq ap.h h1⟩
 have Gh:=cF eI;refine (λloop=>ck.start _ _ _ _ _ _ loop (Sp.self _ _ _ _ _ _ Gq loop)) (Sn ck Sp R (b5 Gh) L gk rfl Gq (fr I hI (wx Gh)) (fr _ sl.size (LZ _)) (Ry _ _ _ (rX.le _ _ (co _ hf))) λae s' st x' P7 k'=>?_);refine e12 x'.vr.loc λmm hn _=>?_;refine RE _ _ s' ae ⟨⟨az,ai,_,aV,ap,(Step.of_le (sl.trans xu).le (sl.trans xu).size).trans st,λa ha=>?_,sl.size⟩,x.tr,x'.h,⟨mm,hn⟩,sd _ aG,x'.vr.own _ aG,P7.ρ⟩ k';refine cT (bu.mp ha) (λq=>?_) λq=>?_
 ·exact q▸hI
 ·refine cT (bu.mp q) (λq=>?_) λq=>?_
  ·exact q▸sl.size
  ·exact ah sl.size (ww (sd a q))
theorem Hy{t:Expr}(hs:dA t=false):(kh [t] env).map (·.2)=[qW t env]:=congrArg (wv (·.2)) (sr hs _ _)
theorem Sq{t:Expr}{d:AV}{aa:Value}{C:Addr}{s':Shared}{ae:List Addr}{Q:Value->Shared->Prop}(hR:Room k A)(h:AtEnd Γ A cx σ₁ env ρ s ae d aa C s')(ht:As Γ k cx σ₁ t d aw)(hs:dA t=false)
  (hQ:∀ky gp,Step (frs A) (ownOf cx env) ρ gp s.heap ky.heap->Sim Γ A.frames cx gp aw env ky->Q .none ky) :
  compPost (av Γ.prog Γ.w) A (λzz zz=>False) (some λv=>FJ v ((kh [t] env).map (·.2))) Q aa C (.ok .next) s':=by
 erw[Hy hs];refine Rn.to (ht A env s' ae aa hR h.sim h.rep) λzz aP ay st aH=>?_;refine e11 h.ns λm hn=>?_;have pz:ay.heap.Ns C m:=st.keepNs h.off h.own hn;have QP:C∉aP:=by
  refine e32 hn ?_;clear hn;intro o es ep e r;exact qh st e h.off
 have y:AtEnd Γ A cx aw env ρ s aP .none .none C ay:=⟨h.st.trans st,aH,rfl,⟨m,pz⟩,h.fresh,QP,h.own,h.base,h.tr0⟩;refine aB m pz (λh' aW=>?_);refine e13 (y.then_ aW) λgp a b c=>?_;exact hQ _ gp a b
structure CKL(e:Expr)(iter:Expr)(scope:dg)(pos:Pos)(ja:Sem Value):Prop where
 ev:∀env,eval e env=AL e scope env pos ja false (eval iter env) none
 use:∀env f,evalThenUse e env f=(AL e scope env pos ja false (eval iter env) (some f) >>= λzz=>pure ())
 sw:∀t l env,∃b,AJ [t] e l env=pure b
 tup:qi e=false
section
variable{α:Type}{e target iter:Expr}{ifs:List Expr}{ja:Sem Value}{B:ov}{K:α->Addr->List Addr->Heap->Prop}{lv:α}{pos:Pos}{d:AV}{items:List AV}{out:α}{cv:List AO->Prop}{o':AO}
theorem Cs(ck:CK Γ e target iter ifs ja B K lv)(cl:CKL e iter scope pos ja)(C:su cx scope ci)(h1:Ev Γ k cx σ iter d σ₁)(hi:IterP Γ d σ₁.heap items cv)
  (hv:∀y i,(y,i)∈ci.vis->((y,NameKind.local)∈scope.names\/(y,eF)∈scope.names)->∀d:AV,σ₁.vars[i]?≠some (some d)) (L:Tn Γ k ci target cv (kG Γ k ci K B) items lv σ₁ out aw)
  (hs:∀env x,rI iter env x=pure x) (ho:∀{D ρ h},K out D ρ h->ORep Γ (ρ++[D]) h o' D):Ev Γ k cx σ e (.loc aw.heap.length) ⟨σ₁.vars,aw.heap++[o']⟩:=λA env s ρ R x=>by
 erw[cl.ev];exact Cr ck C h1 hi hv L hs R x λD Cc s' ae h kk=>aB h.ns.choose h.ns.choose_spec (λh' aW=>(h.loc (ho kk)).then_ aW)
theorem Hz{t:Expr}{jc:Pos}(ck:CK Γ e target iter ifs ja B K lv)(cl:CKL e iter scope pos ja)(C:su cx scope ci)(h1:Ev Γ k cx σ iter d σ₁)(hi:IterP Γ d σ₁.heap items cv)
  (hv:∀y i,(y,i)∈ci.vis->((y,NameKind.local)∈scope.names\/(y,eF)∈scope.names)->∀d:AV,σ₁.vars[i]?≠some (some d)) (L:Tn Γ k ci target cv (kG Γ k ci K B) items lv σ₁ out aw)
  (hs:∀env x,rI iter env x=pure x) (ho:∀{D ρ h},K out D ρ h->ORep Γ (ρ++[D]) h o' D) (ha:As Γ k cx ⟨σ₁.vars,aw.heap++[o']⟩ t (.loc aw.heap.length) cJ) (gq:dA t=false) :
  Ex1 Γ k cx σ (.Assign [t] e jc) .next cJ:=λA env s ρ R x=>by
 erw[w5];refine Rn.standAt ?_;refine e11 (cl.sw t jc.line env) λb hb=>?_;erw[hb];refine ag (am ?_);induction b using dN with
 |true=>
  erw[if_pos rfl,cl.use];exact ag (ag (Cr ck C h1 hi hv L hs R x λD Cc s' ae h kk=>Sq R (h.loc (ho kk)) ha gq λky gp st BW=>am (am ⟨gp,st,BW,rfl⟩)))
 |false=>
  erw[if_neg zQ];refine Rn.bind (Cs ck cl C h1 hi hv L hs ho A env s ρ R x) λv az ai aV q=>?_;erw[vf cl.tup];refine ag (am ?_);show Rn Γ A (ownOf cx env) az ai (do FJ v ((kh [t] env).map (·.2));pure EC) _
  erw[Hy gq];exact Rn.bind (ha A env ai az v R q.1 q.2) λzz aP ay aX aH=>Rn.pure ⟨aH,rfl⟩
end
def vh(aa:List AV)(D:Addr)(ρ:List Addr)(h:Heap):Prop:=∃us m,h.get? D=some (dj us m)/\VReps ρ h aa us
noncomputable def xZ(Γ:Gam)(elt:Expr)(ifs:List Expr):ov:=λA D env P s=>
 aj (av Γ.prog Γ.w) A (forIn ifs true λc r=>if r=true then do let ok <- wU c env (eval c env);pure (ti ok) else pure (ti r)) (λok bS=>
  if ok=true then aj (av Γ.prog Γ.w) A (eval elt env) (λx cj=>aj (av Γ.prog Γ.w) A (call (.builtin "list.append") [.ref D,x]) (λzz s₅=>P s₅) (λzz zz=>False) cj) (λzz zz=>False) bS else P bS) (λzz zz=>False) s
theorem HA{elt target iter:Expr}{ifs:List Expr}{pos:Pos}(ht:vg target=true):CK Γ (.ListComp elt [⟨target,iter,ifs,0⟩] scope pos) target iter ifs (AG []) (xZ Γ elt ifs) vh [] where
 cl:=rfl
 new A s Q h:=gG (h _ rfl λρ h D e=>bZ ([]) 0 e rfl) (by size_fits)
 keep h hp hi hk:=h.imp λzz h=>h.imp λzz h=>⟨hk _ h.1,VReps.mono hp hi _ _ h.2⟩
 obj h:=h.elim λzz h=>h.elim λzz h=>⟨_,h.1⟩
 start A it aa env R s:=codeAny_compStart_list
 turn A I D env R s h:=by
  refine pj ?_;show aj _ A ((AM (.ListComp elt [⟨target,iter,ifs,0⟩] scope pos) 0 (.ref I) (.ref D) env).onRaise (λx=>do rM x env;FK x)) _ _ s
  refine tK ?_;erw[compTurn_list];refine ag (gZ (ag (wk (ba h (λr ai bf=>?_) λzz zz q=>q))));induction r using dF with
  |none=>exact am bf
  |some v=>
   refine ag (lm (Cp ht _ v) (ag (wk (ba bf (λzz ay bv=>ag (wk (ba bv (λok bS fi=>?_) λzz zz q=>q))) λzz zz q=>q))));induction ok using dN with
   |false=>exact am ⟨rfl,fi⟩
   |true=>exact ag (ag (wk (ba fi (λx cj fj=>ag (wk (ba fj (λzz s₅ uo=>am (am ⟨rfl,uo⟩)) λzz zz q=>q))) λzz zz q=>q)))
theorem HB{elt target iter:Expr}{ifs:List Expr}{pos:Pos}:CKL (.ListComp elt [⟨target,iter,ifs,0⟩] scope pos) iter scope (FL [⟨target,iter,ifs,0⟩] pos) (AG []) where
 ev _:=rfl
 use _ _:=rfl
 sw t l env:=by induction t using fL<;>exact ⟨_,rfl⟩
 tup:=rfl
theorem HC{out:List AV}{D:Addr}{h:Heap}(x:vh out D ρ h):ORep Γ (ρ++[D]) h (.list out) D:=x.imp λzz x=>x.imp λzz x=>⟨x.1,VReps.mono ⟨_,rfl⟩ (.refl _) _ _ x.2⟩
theorem Sr{elt:Expr}{ifs:List Expr}{aa:List AV}(hb:Cnd Γ k cx ifs σ false σ₁):kG Γ k cx vh (xZ Γ elt ifs) σ aa σ₁ aa:=λA env s ρ D P R x d kk h=>by
 refine Rn.to (hb.run R x) λok az ai st q=>?_;cases q.2;refine e22 kk ?_;clear kk;intro us m e r;exact h az ai ⟨st.widen' λa ha=>aL D ha,q.1,d.step st e,us,m,d.keep st e,st.vreps r⟩
theorem Ss{elt:Expr}{ifs:List Expr}{aa:List AV}{y:AV}(hz:aa.length<=1000000)(hb:Cnd Γ k cx ifs σ true σ₁)(he:Ev Γ k cx σ₁ elt y aw):kG Γ k cx vh (xZ Γ elt ifs) σ aa aw (aa++[y]):=λA env s ρ D P R x d kk h=>by
 refine Rn.to (hb.run R x) λok az ai st q=>?_;cases q.2;refine Rn.to (he A env ai az R q.1) λw aP ay aX ut=>?_;refine e22 kk ?_;clear kk;intro us m e r;have cK:=st.trans aX;have nW:=d.keep cK e;have nI:∀o,ay.heap.get? D=some o->¬ cz o:=λo e=>by rw[nW] at e;(injection e with cg;subst cg);intro q;exact absurd (show (nH "list")=.type "tuple" from q) (by decide)
 refine append_at (its:=us.toArray) nW (λh' hs hn=>?_) (ah (aE (r.length)) (ah hz (by decide)));have sb:SBut D ay {ay with heap:=h'}:=SBut.sb (t:=ay.toks) hs nI
 have eJ:=d.step cK e;refine h aP _ ⟨(cK.widen' λa ha=>aL D ha).trans (sb.step aG),eJ.sim ut.1 sb λv c=>?_,eJ,us++[w],m+1,?_,VReps.append (VReps.mono (.refl _) sb.imm _ _ (cK.vreps r)) (.one (VRep.mono (.refl _) sb.imm _ _ ut.2))⟩
 ·refine e12 c ?_;clear c;intro o f1 f2;rw[nW] at f1;(injection f1 with cm;subst cm);injection f2
 ·erw[hn];simp
end
noncomputable section
noncomputable def inB(z:Int):Bool:=decide (-(2 ^ 62)<z)&&decide (z<2 ^ 62)
noncomputable def okL(n:Nat):Bool:=decide (n<=100000)
noncomputable def jh(n:Nat)(i:Int):Nat:=if i<0 then n-(-i).toNat else min i.toNat n
noncomputable def bh{α:Type}(l:List α)(lo hi:Option Int):List α:=(l.drop (lo.elim 0 (jh l.length))).take (hi.elim l.length (jh l.length)-lo.elim 0 (jh l.length))
noncomputable def ow{α:Type}(l:List α)(lo:Option Int)(k:Int):List α:=(AN (w6 lo none (some k) l.length).1 (w6 lo none (some k) l.length).2.1 (w6 lo none (some k) l.length).2.2).filterMap (l[·]?)
noncomputable def asB:AV->Option Bool
 |.bool b=>some b
 |_=>none
noncomputable def asI:AV->Option Int
 |.int b=>some b
 |_=>none
noncomputable def asS:AV->Option Cps
 |.str b=>some b
 |_=>none
noncomputable def asT:AV->Option (List AV)
 |.tup b=>some b
 |_=>none
noncomputable def asL:AV->Option Nat
 |.loc b=>some b
 |_=>none
theorem Su{d:AV}{x:Bool}(h:asB d=some x):d=.bool x:=by induction d using AV.casesOn<;>first|((injection h with aC;subst aC);rfl)|exact nomatch h
theorem HD{d:AV}{x:Int}(h:asI d=some x):d=.int x:=by induction d using AV.casesOn<;>first|((injection h with aI;subst aI);rfl)|exact nomatch h
theorem Ct{d:AV}{x:Cps}(h:asS d=some x):d=.str x:=by induction d using AV.casesOn<;>first|((injection h with aS;subst aS);rfl)|exact nomatch h
theorem Cu{d:AV}{x:List AV}(h:asT d=some x):d=.tup x:=by induction d using AV.casesOn<;>first|((injection h with be;subst be);rfl)|exact nomatch h
theorem x0{d:AV}{x:Nat}(h:asL d=some x):d=.loc x:=by induction d using AV.casesOn<;>first|((injection h with bw;subst bw);rfl)|exact nomatch h
noncomputable def AO.asLi:AO->Option (List AV)
 |.list l=>some l
 |_=>none
noncomputable def AO.asDi:AO->Option (List (Cps × AV))
 |.dict l _=>some l
 |_=>none
noncomputable abbrev liO(o:Option AO):Option (List AV):=o.bind AO.asLi
noncomputable abbrev diO(o:Option AO):Option (List (Cps × AV)):=o.bind AO.asDi
theorem ey{α β:Type}{o:Option α}{f:α->Option β}{b:β}(h:o.bind f=some b):∃a,o=some a/\f a=some b:=tm.mp h
theorem Cv{o:Option AO}{x:List AV}(h:liO o=some x):o=some (.list x):=by
 refine e12 (ey h) ?_;clear h;intro a h1 h;subst h1;induction a using AO.casesOn<;>first|((injection h with bA;subst bA);rfl)|exact nomatch h
theorem HE{o:Option AO}{x:List (Cps × AV)}(h:diO o=some x):∃v,o=some (.dict x v):=by
 refine e12 (ey h) ?_;clear h;intro a h1 h;subst h1;induction a using AO.casesOn<;>first|((injection h with bN;subst bN);exact ⟨_,rfl⟩)|exact nomatch h
noncomputable def vk{α β:Type}(l:List α)(n:β)(c:α->List α->β):β:=match l with
 |[]=>n
 |a::r=>c a r
noncomputable def gM:List AV->Option (List Cps)
 |[]=>some []
 |d::r=>(asS d).bind λs=>(gM r).map (s::·)
noncomputable def jU:List AV->Option (List Int)
 |[]=>some []
 |d::r=>(asI d).bind λs=>(jU r).map (s::·)
noncomputable def mv(H:List AO):List AV->Option (List (List Cps))
 |[]=>some []
 |d::r=>(asL d).bind λn=>(liO H[n]?).bind λl=>(gM l).bind λx=>(mv H r).map (x::·)
noncomputable def bq(sep:Cps):List Cps->Cps
 |[]=>[]
 |[x]=>x
 |x::r=>x++sep++bq sep r
noncomputable def bF(c:Nat):Cps->List Cps
 |[]=>[[]]
 |x::r=>if x=c then []::bF c r else match bF c r with
  |[]=>[[x]]
  |y::t=>(x::y)::t
noncomputable def eg:Cps->Cps->Bool
 |[],_=>true
 |_::_,[]=>false
 |a::l,b::r=>a==b&&eg l r
noncomputable def iq(c:Nat)(s:Cps):Int:=(s.length:Int)-1-(s.reverse.findIdx (·==c):Nat)
noncomputable def qk(c:Nat)(s:Cps):Cps:=(s.reverse.dropWhile (·==c)).reverse
noncomputable def hV(f:AV->AV->Option Bool):List AV->List AV->Option Bool
 |[],r=>some r.isEmpty
 |a::l,r=>vk r (some false) λb r=>(f a b).bind λx=>(hV f l r).map (x&&·)
noncomputable def HF(H:List AO)(f:AV->AV->Option Bool)(a b:AV):Option Bool:=match a with
 |.none=>if (match b with|.none=>true|_=>false) then some true else none
 |.bool x=>(asB b).map (x==·)
 |.int x=>(asI b).map (x==·)
 |.str x=>(asS b).map (x==·)
 |.tup l=>(asT b).bind (hV f l)
 |.loc i=>(asL b).bind λj=>if i=j then none else (liO H[i]?).bind λl=>(liO H[j]?).bind (hV f l)
 |_=>none
noncomputable def aeq(H:List AO):Nat->AV->AV->Option Bool
 |0,_,_=>none
 |n+1,a,b=>HF H (aeq H n) a b
noncomputable def oy(H:List AO)(es:List (Cps × AV)):List (Cps × AV)->Option Bool
 |[]=>some true
 |q::r=>(es.lookup q.1).elim (some false) λu=>(aeq H 4 q.2 u).bind λa=>(oy H es r).map (a&&·)
noncomputable def mw(H:List AO)(a b:AV):Option Bool:=(aeq H 7 a b).or ((asL a).bind λi=>(asL b).bind λj=>if i=j then none else (diO H[i]?).bind λd=>(diO H[j]?).bind λe=>if d.length=e.length then oy H e d else some false)
noncomputable def x3(H:List AO):List AV->List AV->Option Bool
 |[],r=>vk r (some true) λ_ _=>none
 |a::l,r=>vk r none λb r=>(mw H a b).bind λx=>(x3 H l r).map (x&&·)
noncomputable def eqF(H:List AO)(a b:AV):Option Bool:=(aeq H 8 a b).or ((asT a).bind λl=>(asT b).bind (x3 H l))
theorem Cw{H:List AO}{n:Nat}{C:AV->AV->Bool->Prop}(c0:C .none .none true)(c1:∀x y,C (.bool x) (.bool y) (x==y))(c2:∀x y,C (.int x) (.int y) (x==y))(c3:∀x y,C (.str x) (.str y) (x==y))(c4:∀l r b,hV (aeq H n) l r=some b->C (.tup l) (.tup r) b)
  (c5:∀i j l r b,i≠j->H[i]?=some (.list l)->H[j]?=some (.list r)->hV (aeq H n) l r=some b->C (.loc i) (.loc j) b) {a b:AV} {r:Bool} (h:aeq H (n+1) a b=some r):C a b r:=by
 have h:HF H (aeq H n) a b=some r:=h;induction a using AV.casesOn with
 |none=>induction b using AV.casesOn<;>first|((injection h with ch;subst ch);exact c0)|exact nomatch h
 |bool x=>refine e12 (fN.mp h) ?_;clear h;intro y h1 h;subst h;rw[Su h1];exact c1 x y
 |int x=>refine e12 (fN.mp h) ?_;clear h;intro y h1 h;subst h;rw[HD h1];exact c2 x y
 |str x=>refine e12 (fN.mp h) ?_;clear h;intro y h1 h;subst h;rw[Ct h1];exact c3 x y
 |tup x=>refine e12 (ey h) ?_;clear h;intro y h1 h;rw[Cu h1];exact c4 _ _ _ h
 |loc i=>
  refine e12 (ey h) ?_;clear h;intro j h1 h;rw[x0 h1];by_cases dh:i=j
  ·rw[if_pos dh] at h;exact nomatch h
  ·rw[if_neg dh] at h;refine e12 (ey h) ?_;clear h;intro l h2 h;refine e12 (ey h) ?_;clear h;intro l' h3 h;exact c5 _ _ _ _ _ dh (Cv h2) (Cv h3) h
 |_=>exact nomatch h
mutual
noncomputable def AV.dat:AV->Bool
 |.none=>true
 |.bool _=>true
 |.int _=>true
 |.str _=>true
 |.tup l=>AVs.dat l
 |.loc _=>true
 |.fn _=>false
 |.typ _=>false
 |.bi _=>false
 |.rng _ _ _=>false
 |.nxt _=>false
 |.vw _=>false
termination_by structural a=>a
noncomputable def AVs.dat:List AV->Bool
 |[]=>true
 |a::l=>AV.dat a&&AVs.dat l
termination_by structural l=>l
end
noncomputable def inL(H:List AO)(a:AV):List AV->Option Bool
 |[]=>some false
 |b::r=>if AV.dat b=true then (aeq H 8 b a).bind λx=>(inL H a r).map (x||·) else none
noncomputable def isNone:AV->Option Bool
 |.none=>some true
 |.fn _|.bi _|.typ _=>none
 |_=>some false
noncomputable def cZ(n:Nat)(i:Int):Option Nat:=if 0<=i then (if i<n then some i.toNat else none) else if 0<=i+n then some (i+n).toNat else none
noncomputable def eA:AV->Option (Option Int)
 |.none=>some none
 |.int i=>if inB i then some (some i) else none
 |_=>none
noncomputable def jV:List Int->Int
 |[]=>0
 |x::r=>x+jV r
noncomputable def ltC(a b:Cps):Bool:=decide (a<b)
noncomputable def ltR:List Cps->List Cps->Bool
 |_,[]=>false
 |[],_::_=>true
 |a::l,b::r=>if a=b then ltR l r else ltC a b
noncomputable def ql(c:Int->Int->Bool)(e:List Cps->List Cps->Bool)(H:List AO)(l:List AV):Option AV:=vk l none λv r=>(((jU (v::r)).map λxs i j=>c (xs.getD i 0) (xs.getD j 0)).or ((mv H (v::r)).map λxs i j=>e (xs.getD i []) (xs.getD j []))).bind λbt=>(v::r)[argBest bt r.length]?
noncomputable def sv(H:List AO)(l:List AV):Option AV:=ql (λa b=>decide (a<b)) ltR H l
noncomputable def vm(H:List AO)(l:List AV):Option AV:=ql (λa b=>decide (b<a)) (λa b=>ltR b a) H l
inductive Src where
 |list (n:Nat) (l:List AV)
 |keys (n:Nat) (es:List (Cps × AV)) (e:Nat)
 |vals (n:Nat) (es:List (Cps × AV)) (e:Nat)
 |fix (l:List AV)
noncomputable def Src.items:Src->List AV
 |.list _ l=>l
 |.keys _ es _=>es.map λe=>.str e.1
 |.vals _ es _=>es.map (·.2)
 |.fix l=>l
noncomputable def eV(x:Str)(d:AV):List (Str × AV)->List (Str × AV)
 |[]=>[(x,d)]
 |(y,e)::r=>if y=x then (y,d)::r else (y,e)::eV x d r
noncomputable def b7(x:Cps)(d:AV):List (Cps × AV)->List (Cps × AV)
 |[]=>[(x,d)]
 |(y,e)::r=>if y=x then (y,d)::r else (y,e)::b7 x d r
structure eW where
 meth:Nat->Str->Option Nat
 slot:Nat->Str->Option Nat
 own:Nat->Str->Bool
 idf:Option Nat
noncomputable def oz:AV->Bool
 |.bi _=>false
 |_=>true
noncomputable def strM:List (Str × String):=[("join","str.join"),("startswith","str.startswith"),("endswith","str.endswith"),("split","str.split"),("rfind","str.rfind"),("rstrip","str.rstrip")]
noncomputable def listM:List (Str × String):=[("append","list.append"),("extend","list.extend"),("pop","list.pop"),("clear","list.clear")]
noncomputable def dictM:List (Str × String):=[("get","dict.get"),("values","dict.values")]
noncomputable def setM:List (Str × String):=[("add","set.add")]
mutual
inductive ME where
 |cst (d:AV)
 |var (i:Nat)
 |glb (d:AV)
 |bin (op:Operator) (a b:ME)
 |un (op:UnaryOp) (a:ME)
 |ife (c:MC) (a b:ME)
 |cmp (a:ME) (op:CmpOp) (b:ME)
 |bop (op:BoolOp) (a b:ME)
 |tup (l:MEs)
 |lst (l:MEs)
 |dct
 |idx (a i:ME)
 |slc (a:ME) (lo hi st:MO)
 |att (a:ME) (x:Str)
 |call (f:AV) (l:MEs)
 |mth (o:ME) (x:Str) (l:MEs)
 |mthS (o:ME) (x:Str) (e:ME)
 |nam (i:Nat) (e:ME)
 |lcp (elt:ME) (t:Nat) (iter:ME) (c:MCO) (own:List Nat)
 |dcp (k v:ME) (t:Nat) (iter:ME) (own:List Nat)
 |tmap (f:Nat) (e:ME)
 |bad
inductive MEs where
 |nil
 |cons (e:ME) (r:MEs)
inductive MO where
 |no
 |so (e:ME)
inductive MC where
 |not (c:MC)
 |all (op:BoolOp) (l:MCs)
 |cmp (a:ME) (op:CmpOp) (b:ME)
 |cmp2 (a:ME) (op:CmpOp) (b:ME) (op':CmpOp) (c:ME)
 |val (e:ME)
 |bad
inductive MCs where
 |nil
 |cons (c:MC) (r:MCs)
inductive MCO where
 |no
 |so (c:MC)
end
inductive MT where
 |nm (i:Nat)
 |tp (l:List Nat)
 |at (o:ME) (x:Str)
 |ix (o i:ME)
 |bad
mutual
inductive MS where
 |exp (e:ME)
 |asg (t:MT) (e:ME)
 |asg2 (t t':MT) (e:ME)
 |aug (i:Nat) (op:Operator) (e:ME)
 |augA (o:ME) (x:Str) (op:Operator) (e:ME)
 |ite (c:MC) (a b:MB)
 |for_ (t:MT) (e:ME) (body els:MB)
 |forE (i j:Nat) (e:ME) (body:MB)
 |whl (c:MC) (body els:MB)
 |ret (e:ME)
 |brk
 |cont
 |pass
 |del (o i:ME)
 |tryB (body:MB)
 |tryN (i:Nat) (f:ME) (d s t:Nat)
 |setU (i:Nat) (elt:ME) (t:Nat) (iter:ME) (own:List Nat)
 |bad
inductive MB where
 |nil
 |cons (s:MS) (r:MB)
end
def Wp{α:Type}(r:Option α)(P:α->Prop):Prop:=match r with
 |some x=>P x
 |none=>False
theorem c7{α:Type}{r:Option α}{P:α->Prop}(h:Wp r P):∃x,r=some x/\P x:=by
 induction r using dF with
 |none=>exact h.elim
 |some x=>exact ⟨x,rfl,h⟩
abbrev AV.onI(d:AV)(f:Int->Prop):Prop:=match d with|.int i=>f i|_=>False
abbrev AV.onS(d:AV)(f:Cps->Prop):Prop:=match d with|.str i=>f i|_=>False
abbrev AV.onT(d:AV)(f:List AV->Prop):Prop:=match d with|.tup i=>f i|_=>False
abbrev AV.onL(d:AV)(f:Nat->Prop):Prop:=match d with|.loc i=>f i|_=>False
theorem fV{d:AV}{f:Int->Prop}(h:d.onI f):∃i,d=.int i/\f i:=by induction d using AV.casesOn<;>first|exact ⟨_,rfl,h⟩|exact h.elim
theorem jW{d:AV}{f:Cps->Prop}(h:d.onS f):∃i,d=.str i/\f i:=by induction d using AV.casesOn<;>first|exact ⟨_,rfl,h⟩|exact h.elim
theorem Cy{d:AV}{f:List AV->Prop}(h:d.onT f):∃i,d=.tup i/\f i:=by induction d using AV.casesOn<;>first|exact ⟨_,rfl,h⟩|exact h.elim
theorem jX{d:AV}{f:Nat->Prop}(h:d.onL f):∃i,d=.loc i/\f i:=by induction d using AV.casesOn<;>first|exact ⟨_,rfl,h⟩|exact h.elim
def d6:Option AO->(List AV->Prop)->Prop
 |some (.list l),f=>f l
 |_,_=>False
def qm:Option AO->(List (Str × AV)->Prop)->Prop
 |some (.ns l),f=>f l
 |_,_=>False
def oA:Option AO->(List (Cps × AV)->Option Nat->Prop)->Prop
 |some (.dict l v),f=>f l v
 |_,_=>False
def Cz:Option AO->(List Cps->Prop)->Prop
 |some (.set l),f=>f l
 |_,_=>False
theorem iS{o:Option AO}{f:List AV->Prop}(h:d6 o f):∃l,o=some (.list l)/\f l:=by
 rcases o with _|o
 ·exact h.elim
 ·induction o using AO.casesOn<;>first|exact ⟨_,rfl,h⟩|exact h.elim
theorem vn{o:Option AO}{f:List (Str × AV)->Prop}(h:qm o f):∃l,o=some (.ns l)/\f l:=by
 rcases o with _|o
 ·exact h.elim
 ·induction o using AO.casesOn<;>first|exact ⟨_,rfl,h⟩|exact h.elim
theorem sx{o:Option AO}{f:List (Cps × AV)->Option Nat->Prop}(h:oA o f):∃l v,o=some (.dict l v)/\f l v:=by
 rcases o with _|o
 ·exact h.elim
 ·induction o using AO.casesOn<;>first|exact ⟨_,_,rfl,h⟩|exact h.elim
theorem Sv{o:Option AO}{f:List Cps->Prop}(h:Cz o f):∃l,o=some (.set l)/\f l:=by
 rcases o with _|o
 ·exact h.elim
 ·induction o using AO.casesOn<;>first|exact ⟨_,rfl,h⟩|exact h.elim
def m8(H:List AO)(d:AV)(P:Bool->Prop):Prop:=match d with
 |.none=>P false
 |.bool b=>P b
 |.int i=>P (decide (i≠0))
 |.str s=>okL s.length=true/\P (!s.isEmpty)
 |.tup l=>okL l.length=true/\P (!l.isEmpty)
 |.loc n=>d6 H[n]? λl=>okL l.length=true/\P (!l.isEmpty)
 |_=>False
def HG(op:Operator)(x y:Int)(P:AV->Prop):Prop:=match op with
 |.Add=>inB (x+y)=true/\P (.int (x+y))
 |.Sub=>inB (x-y)=true/\P (.int (x-y))
 |.FloorDiv=>(0<y/\y<=1000000)/\P (.int (j6 x y))
 |.Mod=>(0<y/\y<=1000000)/\P (.int (j7 x y))
 |.Pow=>(0<=x/\x<=10/\0<=y/\y<=16)/\P (.int (x ^ y.toNat))
 |.BitAnd=>P (.int (zR x y))
 |.BitXor=>P (.int (wy x y))
 |_=>False
def kH(op:Operator)(a b:AV)(H:List AO)(P:AV->List AO->Prop):Prop:=match a with
 |.int x=>b.onI λy=>HG op x y λz=>P z H
 |.str x=>match b with
  |.str y=>op=.Add/\okL (x.length+y.length)=true/\P (.str (x++y)) H
  |.int y=>op=.Mult/\(0<=y/\y<=100000/\okL (x.length*y.toNat)=true)/\P (.str (j8 y.toNat x).flatten) H
  |_=>False
 |.loc i=>b.onL λj=>d6 H[i]? λl=>d6 H[j]? λr=>op=.Add/\okL (l.length+r.length)=true/\P (.loc H.length) (H++[.list (l++r)])
 |_=>False
def sy(op:Operator)(a b:AV)(P:AV->Prop):Prop:=match a with
 |.int x=>b.onI λy=>match op with
  |.Add=>inB (x+y)=true/\P (.int (x+y))
  |.Sub=>inB (x-y)=true/\P (.int (x-y))
  |_=>False
 |.str x=>b.onS λy=>op=.Add/\okL (x.length+y.length)=true/\P (.str (x++y))
 |_=>False
def inW(a:AV)(H:List AO)(o:Option AO)(P:Bool->Prop):Prop:=match o with
 |some (.list l)=>Wp (inL H a l) P
 |some (.set l)=>a.onS λs=>P (l.contains s)
 |some (.dict es _)=>a.onS λs=>P (es.any (·.1==s))
 |_=>False
def fW(op:CmpOp)(a b:AV)(H:List AO)(P:Bool->Prop):Prop:=match op with
 |.Eq=>Wp (eqF H a b) P
 |.NotEq=>Wp (aeq H 8 a b) λr=>P (!r)
 |.Lt=>a.onI λx=>b.onI λy=>P (decide (x<y))
 |.LtE=>a.onI λx=>b.onI λy=>P (decide (x<=y))
 |.Gt=>a.onI λx=>b.onI λy=>P (decide (y<x))
 |.GtE=>a.onI λx=>b.onI λy=>P (decide (y<=x))
 |.Is=>b=.none/\Wp (isNone a) P
 |.IsNot=>b=.none/\Wp (isNone a) λr=>P (!r)
 |.In=>b.onL λn=>inW a H H[n]? P
 |.NotIn=>b.onL λn=>d6 H[n]? λl=>Wp (inL H a l) λr=>P (!r)
def vp(a i:AV)(H:List AO)(P:AV->Prop):Prop:=match a with
 |.tup l=>i.onI λj=>inB j=true/\Wp ((cZ l.length j).bind λj=>l[j]?) P
 |.loc n=>match i with
  |.int j=>inB j=true/\d6 H[n]? λl=>Wp ((cZ l.length j).bind λj=>l[j]?) P
  |.str s=>oA H[n]? λes zz=>Wp (es.lookup s) P
  |_=>False
 |_=>False
def vq(n:Nat)(lo hi:AV)(P:Option Int->Option Int->Prop):Prop:=okL n=true/\Wp (eA lo) λl=>Wp (eA hi) λh=>P l h
def Sw(t:List AV)(lo hi st:AV)(P:List AV->Prop):Prop:=match st with
 |.none=>vq t.length lo hi λl h=>P (bh t l h)
 |.int k=>okL t.length=true/\hi=.none/\Wp (eA lo) λl=>(0<k/\k<=100)/\P (ow t l k)
 |_=>False
def lP(a lo hi st:AV)(H:List AO)(P:AV->List AO->Prop):Prop:=match a with
 |.str s=>st=.none/\vq s.length lo hi λl h=>P (.str (bh s l h)) H
 |.tup s=>st=.none/\vq s.length lo hi λl h=>P (.tup (bh s l h)) H
 |.loc n=>match H[n]? with
  |some (.list t)=>Sw t lo hi st λr=>P (.loc H.length) (H++[.list r])
  |some (.pin t)=>st=.none/\vq t.length lo hi λl h=>P (.loc H.length) (H++[.list (bh t l h)])
  |_=>False
 |_=>False
def x4(T:eW)(n:Nat)(x:Str)(H:List AO)(o:Option AO)(P:AV->Prop):Prop:=match o with
 |some (.inst c d)=>T.own c x=true/\qm H[d]? λfs=>Wp (fs.lookup x) λz=>oz z=true/\P z
 |some (.slots c d vs)=>Wp (T.slot c x) λi=>qm H[d]? λzz=>Wp vs[i]? λz=>oz z=true/\P z
 |some (.iter _ _)=>x="__next__"/\P (.nxt n)
 |_=>False
def ji(T:eW)(o:AV)(x:Str)(H:List AO)(P:AV->Prop):Prop:=o.onL λn=>x4 T n x H H[n]? P
def x5(T:eW)(n:Nat)(x:Str)(d:AV)(H:List AO)(o:Option AO)(P:List AO->Prop):Prop:=match o with
 |some (.inst c m)=>T.own c x=true/\qm H[m]? λfs=>fs.length<=50/\P (H.set m (.ns (eV x d fs)))
 |some (.slots c m vs)=>Wp (T.slot c x) λi=>qm H[m]? λzz=>if i<vs.length then P (H.set n (.slots c m (vs.set i d))) else i=vs.length/\P (H.set n (.slots c m (vs++[d])))
 |_=>False
def mx(T:eW)(o:AV)(x:Str)(d:AV)(H:List AO)(P:List AO->Prop):Prop:=o.onL λn=>x5 T n x d H H[n]? P
def CA(o i d:AV)(H:List AO)(P:List AO->Prop):Prop:=o.onL λn=>i.onS λs=>oA H[n]? λes v=>es.length<=1000/\P (H.set n (.dict (b7 s d es) (if es.any (·.1==s) then v else v.map (·+1))))
def x6(o i:AV)(H:List AO)(P:List AO->Prop):Prop:=o.onL λn=>i.onS λs=>oA H[n]? λes zz=>es.any (·.1==s)=true/\es.length<=1000/\P (H.set n (.dict (es.filter λe=>!(e.1==s)) none))
def vt(T:eW)(x:Str)(H:List AO)(o:Option AO)(P:AV->Prop):Prop:=match o with
 |some (.list _)=>Wp (listM.lookup x) λi=>P (.bi i)
 |some (.dict _ _)=>Wp (dictM.lookup x) λi=>P (.bi i)
 |some (.set _)=>Wp (setM.lookup x) λi=>P (.bi i)
 |some (.inst c m)=>qm H[m]? λfs=>fs.lookup x=none/\Wp (T.meth c x) λf=>P (.fn f)
 |_=>False
def lQ(T:eW)(o:AV)(x:Str)(H:List AO)(P:AV->Prop):Prop:=match o with
 |.str _=>Wp (strM.lookup x) λi=>P (.bi i)
 |.loc n=>vt T x H H[n]? P
 |_=>False
def Src.ok(H:List AO):Src->Prop
 |.list n l=>H[n]?=some (.list l)
 |.keys n es e=>H[n]?=some (.dict es (some e))
 |.vals n es e=>H[n]?=some (.dict es (some e))
 |.fix _=>True
def CB(n:Nat)(o:Option AO)(P:Src->Prop):Prop:=match o with
 |some (.list l)=>okL l.length=true/\P (.list n l)
 |some (.dict es (some e))=>okL es.length=true/\P (.keys n es e)
 |_=>False
def jY(d:AV)(H:List AO)(P:Src->Prop):Prop:=match d with
 |.tup l=>okL l.length=true/\P (.fix l)
 |.rng a b c=>(th a b c=true/\0<=jx a b c/\jx a b c<=100000)/\P (.fix ((bn (jx a b c).toNat).map λ(j:Nat)=>AV.int (a+c*(j:Int))))
 |.loc n=>CB n H[n]? P
 |.vw n=>oA H[n]? λes v=>Wp v λe=>okL es.length=true/\P (.vals n es e)
 |_=>False
def ar1:List AV->(AV->Prop)->Prop
 |[a],f=>f a
 |_,_=>False
def ar2:List AV->(AV->AV->Prop)->Prop
 |[a,b],f=>f a b
 |_,_=>False
def x7(sep:Cps)(l:List AV)(P:AV->Prop):Prop:=Wp (gM l) λxs=>okL ((xs.map b9).sum+xs.length*sep.length)=true/\P (.str (bq sep xs))
def Sx(d:AV)(H:List AO)(P:AV->Prop):Prop:=match d with
 |.str s=>okL s.length=true/\P (.int s.length)
 |.tup l=>okL l.length=true/\P (.int l.length)
 |.loc n=>d6 H[n]? λl=>okL l.length=true/\P (.int l.length)
 |_=>False
def chW(s:AV)(P:Nat->Prop):Prop:=s.onS λs=>match s with
 |[c]=>P c
 |_=>False
noncomputable def biT:List (String × (List AV->List AO->(AV->List AO->Prop)->Prop)):=[
 ("len",λa H P=>ar1 a λd=>Sx d H λz=>P z H),
 ("sum",λa H P=>ar1 a λd=>d.onL λn=>d6 H[n]? λl=>Wp (jU l) λxs=>P (.int (jV xs)) H),
 ("max",λa H P=>ar1 a λd=>d.onL λn=>d6 H[n]? λl=>Wp (vm H l) λz=>P z H),
 ("min",λa H P=>ar1 a λd=>d.onL λn=>d6 H[n]? λl=>Wp (sv H l) λz=>P z H),
 ("divmod",λa H P=>ar2 a λd e=>d.onI λx=>e.onI λy=>(0<y/\y<=1000000)/\P (.tup [.int (j6 x y),.int (j7 x y)]) H),
 ("isinstance",λa H P=>ar2 a λd e=>d.onS λzz=>e=.typ "bytes"/\P (.bool false) H),
 ("iter",λa H P=>ar1 a λd=>d.onL λn=>d6 H[n]? λzz=>P (.loc H.length) (H++[.iter n 0])),
 ("str.join",λa H P=>ar2 a λd e=>d.onS λs=>match e with
  |.loc n=>d6 H[n]? λl=>x7 s l λz=>P z H
  |.tup l=>x7 s l λz=>P z H
  |_=>False),
 ("str.startswith",λa H P=>ar2 a λd e=>d.onS λs=>e.onS λp=>P (.bool (eg p s)) H),
 ("str.endswith",λa H P=>ar2 a λd e=>d.onS λs=>e.onS λp=>P (.bool (eg p.reverse s.reverse)) H),
 ("str.split",λa H P=>ar2 a λd e=>d.onS λs=>chW e λc=>okL s.length=true/\P (.loc H.length) (H++[.list ((bF c s).map .str)])),
 ("str.rfind",λa H P=>ar2 a λd e=>d.onS λs=>chW e λc=>okL s.length=true/\P (.int (iq c s)) H),
 ("str.rstrip",λa H P=>ar2 a λd e=>d.onS λs=>chW e λc=>okL s.length=true/\P (.str (qk c s)) H),
 ("list.append",λa H P=>ar2 a λd e=>d.onL λn=>d6 H[n]? λl=>okL l.length=true/\P .none (H.set n (.list (l++[e])))),
 ("list.extend",λa H P=>ar2 a λd e=>d.onL λn=>e.onL λm=>d6 H[n]? λl=>d6 H[m]? λr=>okL (l.length+r.length)=true/\P .none (H.set n (.list (l++r)))),
 ("list.pop",λa H P=>ar1 a λd=>d.onL λn=>d6 H[n]? λl=>Wp l.getLast? λz=>okL l.length=true/\P z (H.set n (.list l.dropLast))),
 ("list.clear",λa H P=>ar1 a λd=>d.onL λn=>d6 H[n]? λl=>okL l.length=true/\P .none (H.set n (.list []))),
 ("dict.get",λa H P=>ar2 a λd e=>d.onL λn=>e.onS λs=>oA H[n]? λes zz=>P ((es.lookup s).getD .none) H),
 ("dict.values",λa H P=>ar1 a λd=>d.onL λn=>oA H[n]? λzz zz=>P (.vw n) H),
 ("set.add",λa H P=>ar2 a λd e=>d.onL λn=>e.onS λs=>Cz H[n]? λl=>l.length<=1000/\P .none (if l.contains s then H else H.set n (.set (l++[s])))),
 ("issubclass",λa H P=>a=[.typ "str",.tup [.typ "str",.typ "bytes"]]/\P (.bool true) H)]
noncomputable def tyT:List (String × (List AV->List AO->(AV->List AO->Prop)->Prop)):=[
 ("range",λa H P=>match a with
  |[d]=>d.onI λb=>inB b=true/\P (.rng 0 b 1) H
  |[d,e]=>d.onI λa=>e.onI λb=>inB a=true/\inB b=true/\P (.rng a b 1) H
  |[d,e,f]=>d.onI λa=>e.onI λb=>f.onI λc=>(inB a=true/\inB b=true/\(c=1\/c=-1))/\P (.rng a b c) H
  |_=>False),
 ("tuple",λa H P=>ar1 a λd=>d.onL λn=>d6 H[n]? λl=>okL l.length=true/\P (.tup l) H),
 ("list",λa H P=>ar1 a λd=>d.onT λl=>okL l.length=true/\P (.loc H.length) (H++[.list l])),
 ("bool",λa H P=>ar1 a λd=>d.onL λn=>d6 H[n]? λl=>okL l.length=true/\P (.bool (!l.isEmpty)) H),
 ("set",λa H P=>a=[]/\P (.loc H.length) (H++[.set []])),
 ("type",λa H P=>ar1 a λd=>d.onS λzz=>P (.typ "str") H)]
def cE(t:List (String × (List AV->List AO->(AV->List AO->Prop)->Prop)))(id:String)(args:List AV)(H:List AO)(P:AV->List AO->Prop):Prop:=Wp (t.lookup id) λf=>f args H P
structure Sys where
 Φ:Nat->List AV->List AO->(AV->List AO->Prop)->Prop
 T:eW
abbrev vy(S:Sys)(f:AV)(args:List AV)(H:List AO)(P:AV->List AO->Prop):Prop:=match f with
 |.bi id=>cE biT id args H P
 |.typ T=>cE tyT T args H P
 |.fn a=>S.Φ a args H P
 |_=>False
noncomputable abbrev Vs:=List (Option AV)
noncomputable abbrev hY:Vs->Nat->Option AV
 |[],_=>none
 |o::_,0=>o
 |_::r,n+1=>hY r n
noncomputable abbrev dB:Vs->Nat->AV->Vs
 |[],_,_=>[]
 |_::r,0,d=>some d::r
 |o::r,n+1,d=>o::dB r n d
theorem HH:∀{vs:Vs} {i:Nat} {d:AV},hY vs i=some d->vs[i]?=some (some d)
 |o::_,0,_,h=>congrArg some h
 |_::r,n+1,_,h=>HH (vs:=r) h
theorem sA:∀(vs:Vs) (i:Nat) (d:AV),dB vs i d=vs.set i (some d)
 |[],_,_=>rfl
 |_::_,0,_=>rfl
 |o::r,n+1,d=>congrArg (o::·) (sA r n d)
abbrev PrS:=Vs->List AO->Prop
abbrev kF(P:Fl->PrS)(f:Fl)(vs:Vs)(H:List AO):Prop:=P f vs H
abbrev my(next:PrS)(Q:Option Fl->PrS)(f:Fl)(vs:Vs)(H:List AO):Prop:=match f with
 |.next=>next vs H
 |.cont=>next vs H
 |.brk=>Q (some .brk) vs H
 |.ret d=>Q (some (.ret d)) vs H
abbrev onF(P:Fl->PrS)(Q:PrS)(f:Fl)(vs:Vs)(H:List AO):Prop:=match f with
 |.next=>Q vs H
 |.cont=>P .cont vs H
 |.brk=>P .brk vs H
 |.ret d=>P (.ret d) vs H
abbrev CC(els:PrS)(P:Fl->PrS)(r:Option Fl)(vs:Vs)(H:List AO):Prop:=match r with
 |none=>els vs H
 |some f=>P (Hs f) vs H
abbrev TrV:=Vs->List AO->(AV->PrS)->Prop
abbrev TrB:=Vs->List AO->(Bool->PrS)->Prop
abbrev TrF:=Vs->List AO->(Fl->PrS)->Prop
abbrev TrL:=Vs->List AO->(List AV->PrS)->Prop
noncomputable abbrev lcD(Q:List AV->PrS)(y:AV)(r:List AV):PrS:=Q (y::r)
noncomputable abbrev lcC(mn:(List AV->PrS)->PrS)(Q:List AV->PrS)(y:AV):PrS:=mn (lcD Q y)
abbrev lcB(el:TrV)(mn:(List AV->PrS)->PrS)(Q:List AV->PrS)(b:Bool)(vs:Vs)(H:List AO):Prop:=if b=true then el vs H (lcC mn Q) else mn Q vs H
noncomputable def lcW(iJ:TrB)(el:TrV)(t:Nat)(src:Src):List AV->(List AV->PrS)->PrS
 |[],Q,vs,H=>src.ok H/\Q [] vs H
 |d::ds,Q,vs,H=>src.ok H/\iJ (dB vs t d) H (lcB el (lcW iJ el t src ds) Q)
abbrev dcC(mn:List (Cps × AV)->PrS)(aa:List (Cps × AV))(c:Cps)(y:AV)(vs:Vs)(H:List AO):Prop:=aa.length<=1000/\mn (b7 c y aa) vs H
abbrev dcB(ev:TrV)(mn:List (Cps × AV)->PrS)(aa:List (Cps × AV))(x:AV)(vs:Vs)(H:List AO):Prop:=x.onS λc=>ev vs H (dcC mn aa c)
noncomputable def dcW(ek ev:TrV)(t:Nat)(src:Src)(Q:List (Cps × AV)->PrS):List AV->List (Cps × AV)->PrS
 |[],aa,vs,H=>src.ok H/\Q aa vs H
 |d::ds,aa,vs,H=>src.ok H/\ek (dB vs t d) H (dcB ev (dcW ek ev t src Q ds) aa)
abbrev HI(body:TrF)(P:Fl->PrS)(vs:Vs)(H:List AO):Prop:=body vs H P
noncomputable def foW(asg:AV->Vs->List AO->PrS->Prop)(body:TrF)(src:Src)(Q:Option Fl->PrS):List AV->PrS
 |[],vs,H=>src.ok H/\Q none vs H
 |d::ds,vs,H=>src.ok H/\asg d vs H (HI body (my (foW asg body src Q ds) Q))
noncomputable def feW(i j:Nat)(body:TrF)(n:Nat)(l:List AV)(Q:Option Fl->PrS):Nat->List AV->PrS
 |_,[],vs,H=>H[n]?=some (.list l)/\Q none vs H
 |m,d::ds,vs,H=>H[n]?=some (.list l)/\body (dB (dB vs i (.int m)) j d) H (my (feW i j body n l Q (m+1) ds) Q)
abbrev whB(body:TrF)(mn:PrS)(Q:Option Fl->PrS)(b:Bool)(vs:Vs)(H:List AO):Prop:=if b=true then body vs H (my mn Q) else Q none vs H
noncomputable def whW(iJ:TrB)(body:TrF)(Q:Option Fl->PrS):Nat->PrS
 |0,_,_=>False
 |n+1,vs,H=>iJ vs H (whB body (whW iJ body Q n) Q)
abbrev vrW(vs:Vs)(i:Nat)(P:AV->Prop):Prop:=match hY vs i with
 |some d=>P d
 |none=>False
noncomputable def bound(vs:Vs)(l:List Nat):Bool:=l.any λi=>match vs[i]? with|some (some _)=>true|_=>false
section
variable(S:Sys)
abbrev kV(P:AV->PrS)(vs:Vs)(z:AV)(H:List AO):Prop:=P z vs H
abbrev kX(P:AV->PrS)(vs:Vs)(H:List AO)(z:AV):Prop:=P z vs H
abbrev kO(P:AV->PrS)(vs:Vs)(H:List AO)(z:Bool):Prop:=P (.bool z) vs H
abbrev kT(P:Bool->PrS)(vs:Vs)(H:List AO)(z:Bool):Prop:=P z vs H
abbrev Sz(op:Operator)(P:AV->PrS)(x y:AV)(vs:Vs)(H:List AO):Prop:=kH op x y H (kV P vs)
abbrev SA(op:Operator)(b:TrV)(P:AV->PrS)(x:AV)(vs:Vs)(H:List AO):Prop:=b vs H (Sz op P x)
abbrev kUn(op:UnaryOp)(P:AV->PrS)(x:AV)(vs:Vs)(H:List AO):Prop:=x.onI λi=>op=.USub/\inB i=true/\P (.int (-i)) vs H
abbrev SD(a b:TrV)(P:AV->PrS)(t:Bool)(vs:Vs)(H:List AO):Prop:=if t=true then a vs H P else b vs H P
abbrev SF(op:CmpOp)(P:AV->PrS)(x y:AV)(vs:Vs)(H:List AO):Prop:=fW op x y H (kO P vs H)
abbrev SG(op:CmpOp)(b:TrV)(P:AV->PrS)(x:AV)(vs:Vs)(H:List AO):Prop:=b vs H (SF op P x)
abbrev SH(op:BoolOp)(b:TrV)(P:AV->PrS)(x:AV)(vs:Vs)(H:List AO)(t:Bool):Prop:=if t=(op==.Or) then P x vs H else b vs H P
abbrev SJ(op:BoolOp)(b:TrV)(P:AV->PrS)(x:AV)(vs:Vs)(H:List AO):Prop:=m8 H x (SH op b P x vs H)
abbrev SK(P:AV->PrS)(ds:List AV)(vs:Vs)(H:List AO):Prop:=okL ds.length=true/\P (.tup ds) vs H
abbrev SL(P:AV->PrS)(ds:List AV)(vs:Vs)(H:List AO):Prop:=okL ds.length=true/\P (.loc H.length) vs (H++[.list ds])
abbrev SM(P:AV->PrS)(x y:AV)(vs:Vs)(H:List AO):Prop:=vp x y H (kX P vs H)
abbrev SN(i:TrV)(P:AV->PrS)(x:AV)(vs:Vs)(H:List AO):Prop:=i vs H (SM P x)
abbrev SO(P:AV->PrS)(x l h k:AV)(vs:Vs)(H:List AO):Prop:=lP x l h k H (kV P vs)
abbrev SP(st:TrV)(P:AV->PrS)(x l h:AV)(vs:Vs)(H:List AO):Prop:=st vs H (SO P x l h)
abbrev SQ(hi st:TrV)(P:AV->PrS)(x l:AV)(vs:Vs)(H:List AO):Prop:=hi vs H (SP st P x l)
abbrev SS(lo hi st:TrV)(P:AV->PrS)(x:AV)(vs:Vs)(H:List AO):Prop:=lo vs H (SQ hi st P x)
abbrev SU(x:Str)(P:AV->PrS)(d:AV)(vs:Vs)(H:List AO):Prop:=ji S.T d x H (kX P vs H)
abbrev SW(f:AV)(P:AV->PrS)(ds:List AV)(vs:Vs)(H:List AO):Prop:=vy S f ds H (kV P vs)
abbrev SX(P:AV->PrS)(d f:AV)(ds:List AV)(vs:Vs)(H:List AO):Prop:=vy S f (d::ds) H (kV P vs)
abbrev SY(l:TrL)(P:AV->PrS)(d:AV)(vs:Vs)(H:List AO)(f:AV):Prop:=l vs H (SX S P d f)
abbrev SZ(x:Str)(l:TrL)(P:AV->PrS)(d:AV)(vs:Vs)(H:List AO):Prop:=lQ S.T d x H (SY S l P d vs H)
abbrev S8(P:AV->PrS)(d:AV)(n:Nat)(v:AV)(vs:Vs)(H:List AO):Prop:=v.onT λds=>okL ds.length=true/\S.Φ n (d::ds) H (kV P vs)
abbrev S9(e:TrV)(P:AV->PrS)(d:AV)(vs:Vs)(H:List AO)(f:AV):Prop:=∃n,f=.fn n/\e vs H (S8 S P d n)
abbrev kMs(x:Str)(e:TrV)(P:AV->PrS)(d:AV)(vs:Vs)(H:List AO):Prop:=lQ S.T d x H (S9 S e P d vs H)
abbrev HJ(i:Nat)(P:AV->PrS)(d:AV)(vs:Vs)(H:List AO):Prop:=P d (dB vs i d) H
abbrev Ta(P:AV->PrS)(vs:Vs)(out:List AV)(_:Vs)(H:List AO):Prop:=P (.loc H.length) vs (H++[.list out])
abbrev Tb(c:TrB)(elt:TrV)(t:Nat)(own:List Nat)(P:AV->PrS)(vs:Vs)(H:List AO)(src:Src):Prop:=bound vs own=false/\lcW c elt t src src.items (Ta P vs) vs H
abbrev kLc(c:TrB)(elt:TrV)(t:Nat)(own:List Nat)(P:AV->PrS)(d:AV)(vs:Vs)(H:List AO):Prop:=jY d H (Tb c elt t own P vs H)
abbrev Tc(P:AV->PrS)(vs:Vs)(out:List (Cps × AV))(_:Vs)(H:List AO):Prop:=P (.loc H.length) vs (H++[.dict out none])
abbrev Td(k v:TrV)(t:Nat)(own:List Nat)(P:AV->PrS)(vs:Vs)(H:List AO)(src:Src):Prop:=bound vs own=false/\dcW k v t src (Tc P vs) src.items [] vs H
abbrev kDc(k v:TrV)(t:Nat)(own:List Nat)(P:AV->PrS)(d:AV)(vs:Vs)(H:List AO):Prop:=jY d H (Td k v t own P vs H)
abbrev kTm(f:Nat)(P:AV->PrS)(d:AV)(vs:Vs)(H:List AO):Prop:=d.onL λn=>d6 H[n]? λl=>S.T.idf=some f/\okL l.length=true/\Wp (gM l) λzz=>P (.tup l) vs H
noncomputable abbrev Te(P:Bool->PrS)(b:Bool):PrS:=P (!b)
abbrev Tf(op:CmpOp)(P:Bool->PrS)(x y:AV)(vs:Vs)(H:List AO):Prop:=fW op x y H (kT P vs H)
abbrev kTc(op:CmpOp)(b:TrV)(P:Bool->PrS)(x:AV)(vs:Vs)(H:List AO):Prop:=b vs H (Tf op P x)
abbrev Tg(op':CmpOp)(P:Bool->PrS)(y w:AV)(vs:Vs)(H:List AO):Prop:=fW op' y w H (kT P vs H)
abbrev Th(op':CmpOp)(c:TrV)(P:Bool->PrS)(y:AV)(vs:Vs)(H:List AO)(z:Bool):Prop:=if z=true then c vs H (Tg op' P y) else P false vs H
abbrev Ti(op op':CmpOp)(c:TrV)(P:Bool->PrS)(x y:AV)(vs:Vs)(H:List AO):Prop:=fW op x y H (Th op' c P y vs H)
abbrev kTd(op op':CmpOp)(b c:TrV)(P:Bool->PrS)(x:AV)(vs:Vs)(H:List AO):Prop:=b vs H (Ti op op' c P x)
abbrev Tj(P:Bool->PrS)(d:AV)(vs:Vs)(H:List AO):Prop:=m8 H d (kT P vs H)
abbrev kAl(op:BoolOp)(r:TrB)(P:Bool->PrS)(b:Bool)(vs:Vs)(H:List AO):Prop:=if b=(op==.Or) then P b vs H else r vs H P
noncomputable abbrev kL2(P:List AV->PrS)(d:AV)(ds:List AV):PrS:=P (d::ds)
abbrev kL(r:TrL)(P:List AV->PrS)(d:AV)(vs:Vs)(H:List AO):Prop:=r vs H (kL2 P d)
end
mutual
noncomputable abbrev WE(S:Sys):ME->TrV
 |.cst d,vs,H,P=>P d vs H
 |.glb d,vs,H,P=>P d vs H
 |.var i,vs,H,P=>vrW vs i (kX P vs H)
 |.bin op a b,vs,H,P=>WE S a vs H (SA op (WE S b) P)
 |.un op a,vs,H,P=>WE S a vs H (kUn op P)
 |.ife c a b,vs,H,P=>WT S c vs H (SD (WE S a) (WE S b) P)
 |.cmp a op b,vs,H,P=>WE S a vs H (SG op (WE S b) P)
 |.bop op a b,vs,H,P=>WE S a vs H (SJ op (WE S b) P)
 |.tup l,vs,H,P=>WL S l vs H (SK P)
 |.lst l,vs,H,P=>WL S l vs H (SL P)
 |.dct,vs,H,P=>P (.loc H.length) vs (H++[.dict [] (some 0)])
 |.idx a i,vs,H,P=>WE S a vs H (SN (WE S i) P)
 |.slc a lo hi st,vs,H,P=>WE S a vs H (SS (WO S lo) (WO S hi) (WO S st) P)
 |.att a x,vs,H,P=>WE S a vs H (SU S x P)
 |.call f l,vs,H,P=>WL S l vs H (SW S f P)
 |.mth o x l,vs,H,P=>WE S o vs H (SZ S x (WL S l) P)
 |.mthS o x e,vs,H,P=>WE S o vs H (kMs S x (WE S e) P)
 |.nam i e,vs,H,P=>WE S e vs H (HJ i P)
 |.lcp elt t iter c own,vs,H,P=>WE S iter vs H (kLc (WCO S c) (WE S elt) t own P)
 |.dcp k v t iter own,vs,H,P=>WE S iter vs H (kDc (WE S k) (WE S v) t own P)
 |.tmap f e,vs,H,P=>WE S e vs H (kTm S f P)
 |.bad,_,_,_=>False
termination_by structural e=>e
noncomputable abbrev WT(S:Sys):MC->TrB
 |.not c,vs,H,P=>WT S c vs H (Te P)
 |.all op l,vs,H,P=>WAl S op l vs H P
 |.cmp a op b,vs,H,P=>WE S a vs H (kTc op (WE S b) P)
 |.cmp2 a op b op' c,vs,H,P=>WE S a vs H (kTd op op' (WE S b) (WE S c) P)
 |.val e,vs,H,P=>WE S e vs H (Tj P)
 |.bad,_,_,_=>False
termination_by structural e=>e
noncomputable abbrev WAl(S:Sys)(op:BoolOp):MCs->TrB
 |.nil,vs,H,P=>P (op==.And) vs H
 |.cons e r,vs,H,P=>WT S e vs H (kAl op (WAl S op r) P)
termination_by structural e=>e
noncomputable abbrev WL(S:Sys):MEs->Vs->List AO->(List AV->PrS)->Prop
 |.nil,vs,H,P=>P [] vs H
 |.cons e r,vs,H,P=>WE S e vs H (kL (WL S r) P)
termination_by structural e=>e
noncomputable abbrev WO(S:Sys):MO->TrV
 |.no,vs,H,P=>P .none vs H
 |.so e,vs,H,P=>WE S e vs H P
termination_by structural e=>e
noncomputable abbrev WCO(S:Sys):MCO->TrB
 |.no,vs,H,P=>P true vs H
 |.so e,vs,H,P=>WT S e vs H P
termination_by structural e=>e
end
abbrev asN:List Nat->List AV->Vs->(Vs->Prop)->Prop
 |[],[],vs,P=>P vs
 |i::is,d::ds,vs,P=>asN is ds (dB vs i d) P
 |_,_,_,_=>False
abbrev kPS(P:PrS)(H:List AO)(vs:Vs):Prop:=P vs H
abbrev Tk(P:PrS)(d w j:AV)(vs:Vs)(H:List AO):Prop:=CA w j d H (P vs)
abbrev Tl(i:TrV)(P:PrS)(d w:AV)(vs:Vs)(H:List AO):Prop:=i vs H (Tk P d w)
abbrev Tm(S:Sys)(x:Str)(P:PrS)(d w:AV)(vs:Vs)(H:List AO):Prop:=mx S.T w x d H (P vs)
abbrev WA(S:Sys)(t:MT)(d:AV)(vs:Vs)(H:List AO)(P:PrS):Prop:=match t with
 |.nm i=>P (dB vs i d) H
 |.tp l=>d.onT λds=>asN l ds vs (kPS P H)
 |.at o x=>WE S o vs H (Tm S x P d)
 |.ix o i=>WE S o vs H (Tl (WE S i) P d)
 |.bad=>False
def CD(s:Nat)(vs:Vs)(H:List AO)(P:Nat->List AV->AV->Prop):Prop:=vrW vs s λd=>d.onL λn=>d6 H[n]? λl=>okL l.length=true/\Wp l.getLast? λx=>P n l x
def x8(d s t:Nat)(vs:Vs)(H:List AO)(P:PrS):Prop:=vrW vs d λw=>CD s vs H λn l x=>x6 w x (H.set n (.list l.dropLast)) λH=>CD t vs H λm r zz=>P vs (H.set m (.list r.dropLast))
def x9:Option AO->(Nat->Nat->Prop)->Prop
 |some (.iter m j),f=>f m j
 |_,_=>False
def AV.onN(d:AV)(f:Nat->Prop):Prop:=match d with|.nxt i=>f i|_=>False
abbrev kNx(P:Fl->PrS)(vs:Vs)(H:List AO):Prop:=P .next vs H
abbrev To(P:Fl->PrS)(_:AV)(vs:Vs)(H:List AO):Prop:=P .next vs H
abbrev Tp(S:Sys)(t:MT)(P:PrS)(d:AV)(vs:Vs)(H:List AO):Prop:=WA S t d vs H P
abbrev Tt(S:Sys)(t:MT)(P:PrS)(d:AV)(vs:Vs)(H:List AO):Prop:=WA S t d vs H P
abbrev Tu(S:Sys)(t t':MT)(P:PrS)(d:AV)(vs:Vs)(H:List AO):Prop:=WA S t d vs H (Tt S t' P d)
abbrev HK(i:Nat)(P:Fl->PrS)(vs:Vs)(H:List AO)(r:AV):Prop:=P .next (dB vs i r) H
abbrev Tv(i:Nat)(op:Operator)(P:Fl->PrS)(d v:AV)(vs:Vs)(H:List AO):Prop:=sy op d v (HK i P vs H)
abbrev Tw(i:Nat)(op:Operator)(e:TrV)(P:Fl->PrS)(vs:Vs)(H:List AO)(d:AV):Prop:=e vs H (Tv i op P d)
abbrev Tz(S:Sys)(x:Str)(P:Fl->PrS)(w:AV)(vs:Vs)(H:List AO)(r:AV):Prop:=mx S.T w x r H (kNx P vs)
abbrev TA(S:Sys)(x:Str)(op:Operator)(P:Fl->PrS)(w d v:AV)(vs:Vs)(H:List AO):Prop:=sy op d v (Tz S x P w vs H)
abbrev TB(S:Sys)(x:Str)(op:Operator)(e:TrV)(P:Fl->PrS)(w:AV)(vs:Vs)(H:List AO)(d:AV):Prop:=e vs H (TA S x op P w d)
abbrev kAa(S:Sys)(x:Str)(op:Operator)(e:TrV)(P:Fl->PrS)(w:AV)(vs:Vs)(H:List AO):Prop:=ji S.T w x H (TB S x op e P w vs H)
abbrev HL(a b:TrF)(P:Fl->PrS)(t:Bool)(vs:Vs)(H:List AO):Prop:=if t=true then a vs H P else b vs H P
abbrev qn(b:TrF)(P:Fl->PrS)(vs:Vs)(H:List AO):Prop:=b vs H P
abbrev TC(asg:AV->Vs->List AO->PrS->Prop)(body els:TrF)(P:Fl->PrS)(vs:Vs)(H:List AO)(src:Src):Prop:=foW asg body src (CC (qn els P) P) src.items vs H
abbrev TD(asg:AV->Vs->List AO->PrS->Prop)(body els:TrF)(P:Fl->PrS)(d:AV)(vs:Vs)(H:List AO):Prop:=jY d H (TC asg body els P vs H)
abbrev kFe(i j:Nat)(body:TrF)(P:Fl->PrS)(d:AV)(vs:Vs)(H:List AO):Prop:=d.onL λn=>d6 H[n]? λl=>okL l.length=true/\feW i j body n l (CC (kNx P) P) 0 l vs H
noncomputable abbrev TE(P:Fl->PrS)(d:AV):PrS:=P (.ret d)
abbrev TG(P:Fl->PrS)(w j:AV)(vs:Vs)(H:List AO):Prop:=x6 w j H (kNx P vs)
abbrev TH(i:TrV)(P:Fl->PrS)(w:AV)(vs:Vs)(H:List AO):Prop:=i vs H (TG P w)
abbrev CE(i d s t:Nat)(P:Fl->PrS)(w:AV)(vs:Vs)(H:List AO):Prop:=w.onN λn=>x9 H[n]? λm j=>d6 H[m]? λl=>if h:j<l.length then P .brk (dB vs i l[j]) (H.set n (.iter m (j+1))) else x8 d s t vs (H.set n .dead) (kNx P)
abbrev TI(P:AV->PrS)(y:AV)(vs:Vs)(H:List AO):Prop:=y=.bool true/\P y vs H
abbrev elS(elt:TrV)(vs:Vs)(H:List AO)(P:AV->PrS):Prop:=elt vs H (TI P)
abbrev tsT(vs:Vs)(H:List AO)(P:Bool->PrS):Prop:=P true vs H
abbrev TJ(i:Nat)(P:Fl->PrS)(vs:Vs)(out:List AV)(_:Vs)(H:List AO):Prop:=out=[.bool true,.bool true]/\P .next (dB vs i (.bool true)) H
abbrev TK(i:Nat)(elt:TrV)(t:Nat)(own:List Nat)(P:Fl->PrS)(vs:Vs)(H:List AO)(src:Src):Prop:=bound vs own=false/\lcW tsT (elS elt) t src src.items (TJ i P vs) vs H
abbrev kSu(i:Nat)(elt:TrV)(t:Nat)(own:List Nat)(P:Fl->PrS)(d:AV)(vs:Vs)(H:List AO):Prop:=jY d H (TK i elt t own P vs H)
mutual
noncomputable abbrev WS(S:Sys):MS->TrF
 |.exp e,vs,H,P=>WE S e vs H (To P)
 |.asg t e,vs,H,P=>WE S e vs H (Tp S t (kNx P))
 |.asg2 t t' e,vs,H,P=>WE S e vs H (Tu S t t' (kNx P))
 |.aug i op e,vs,H,P=>vrW vs i (Tw i op (WE S e) P vs H)
 |.augA o x op e,vs,H,P=>WE S o vs H (kAa S x op (WE S e) P)
 |.ite c a b,vs,H,P=>WT S c vs H (HL (WB S a) (WB S b) P)
 |.for_ t e body els,vs,H,P=>WE S e vs H (TD (WA S t) (WB S body) (WB S els) P)
 |.forE i j e body,vs,H,P=>WE S e vs H (kFe i j (WB S body) P)
 |.whl c body els,vs,H,P=>whW (WT S c) (WB S body) (CC (qn (WB S els) P) P) 400 vs H
 |.ret e,vs,H,P=>WE S e vs H (TE P)
 |.brk,vs,H,P=>P .brk vs H
 |.cont,vs,H,P=>P .cont vs H
 |.pass,vs,H,P=>P .next vs H
 |.del o i,vs,H,P=>WE S o vs H (TH (WE S i) P)
 |.tryB body,vs,H,P=>WB S body vs H P
 |.tryN i f d s t,vs,H,P=>WE S f vs H (CE i d s t P)
 |.setU i elt t iter own,vs,H,P=>WE S iter vs H (kSu i (WE S elt) t own P)
 |.bad,_,_,_=>False
termination_by structural s=>s
noncomputable abbrev WB(S:Sys):MB->TrF
 |.nil,vs,H,P=>P .next vs H
 |.cons s r,vs,H,P=>WS S s vs H (onF P (qn (WB S r) P))
termination_by structural s=>s
end
end
theorem ya(x y:Cps):(ao x==ao y)=(x==y):=by
 by_cases h:x=y
 ·subst h;simp
 ·have h2:ao x≠ao y:=λe=>h (m5 e);erw[beq_eq_false_iff_ne.mpr h,beq_eq_false_iff_ne.mpr h2]
section
variable{Γ:Gam}{ρ:List Addr}{H:List AO}
theorem TL{f:AV->AV->Option Bool}{h:Heap}(hf:∀a b r v,f a b=some r->VRep ρ h a v->VRep ρ h b v->r=true):∀(l r:List AV) (vs:List Value) (b:Bool),hV f l r=some b->VReps ρ h l vs->VReps ρ h r vs->b=true:=λl=>by
 induction l with
 |nil=>
  intro r vs b e x y;induction r using bI with
  |nil=>(injection e with aC;subst aC);rfl
  |cons c r=>exact absurd ((VReps.length x).symm.trans (VReps.length y)) nofun
 |cons d l ih=>
  intro r vs b e x y;induction r using bI with
  |nil=>exact absurd ((VReps.length x).symm.trans (VReps.length y)) nofun
  |cons c r=>
   refine e23 x ?_;clear x;intro v us e1 x1 x2;refine e23 y ?_;clear y;intro v' us' e2 y1 y2;refine e12 (ey e) ?_;clear e;intro p hp e;refine e12 (fN.mp e) ?_;clear e;intro q hq e;subst e e1
   (injection e2 with aI aS;subst aS;subst aI)
   rw[hf d c p v hp x1 y1,ih r us q hq x2 y2];rfl
theorem HM{vs ws:List Value}{n m:Nat}{h:Heap}{a:Addr}(h1:h.get? a=some (m6 vs n))(h2:h.get? a=some (m6 ws m)):vs=ws:=by
 rw[h1] at h2;injection h2 with g';injection g' with _ _ g';injection g' with g' _;exact L3 g'
theorem TM{h:Heap}(nd:ρ.Nodup):∀(n:Nat) (a b:AV) (r:Bool) (v:Value),aeq H n a b=some r->VRep ρ h a v->VRep ρ h b v->r=true:=by
 intro n;induction n with
 |zero=>intro a b r v e;injection e
 |succ n ih=>
  intro a b r v e;refine Cw (C:=λa b r=>VRep ρ h a v->VRep ρ h b v->r=true) (λ_ _=>rfl) (λc d x y=>?_) (λc d x y=>?_) (λc d x y=>?_) (λl m r e x y=>?_) (λi j l m r dh _ _ _ x y=>?_) e
  ·injection (show Value.bool c=.bool d from x.symm.trans y) with q;subst q;exact beq_self_eq_true _
  ·refine e11 x ?_;clear x;intro t e1;refine e11 y ?_;clear y;intro u e2;injection e1.symm.trans e2 with q;subst q;exact beq_self_eq_true _
  ·refine e11 x ?_;clear x;intro t e1;refine e11 y ?_;clear y;intro u e2;injection e1.symm.trans e2 with q;cases m5 q;exact beq_self_eq_true _
  ·refine e33 x ?_;clear x;intro a vs k e1 g rx;refine e33 y ?_;clear y;intro a' jO k' e2 g' ry;injection e1.symm.trans e2 with q
   subst q;cases HM g g';exact TL (λa b r v=>ih a b r v) _ _ vs r e rx ry
  ·refine e12 x ?_;clear x;intro a e1 x;refine e12 y ?_;clear y;intro a' e2 y;injection e1.symm.trans e2 with q
   subst q;exact absurd (sj nd x y) dh
theorem HN{A:Around}{n:Nat}(h:A.units+(n+1)<fO):A.in1.units+n<fO:=by simp;exact ah (cr (aE (gC _ _ _))) h
theorem z2p{vs ws:List Value}{n m:Nat}{h:Heap}{a:Addr}(h1:h.get? a=some (dj vs n))(h2:h.get? a=some (dj ws m)):vs=ws:=by
 rw[h1] at h2;injection h2 with g';injection g' with _ _ g';injection g' with g' _;exact L3 g'
theorem yc{f:AV->AV->Option Bool}{A:Around}{s:Shared}(hf:∀a b r v u,f a b=some r->VRep ρ s.heap a v->VRep ρ s.heap b u->o9 A s v u r) :
  ∀(l r:List AV) (vs us:List Value) (b:Bool),hV f l r=some b->VReps ρ s.heap l vs->VReps ρ s.heap r us ->
   ∃e:Nat->Bool,(∀j (h1:j<vs.toArray.size) (h2:j<us.toArray.size),o9 A s vs.toArray[j] us.toArray[j] (e j))/\((bn (min vs.length us.length)).all e&&vs.length==us.length)=b:=λl=>by
 induction l with
 |nil=>
  intro r vs us b h x y;cases (show vs=[] from x);induction r using bI with
  |nil=>cases (show us=[] from y);(injection h with be;subst be);exact aB (λ_=>true) (λj h1=>absurd h1 (qX _)) rfl
  |cons c r=>
   refine e23 y ?_;clear y;intro u us e2 y1 y2;subst e2;(injection h with bw;subst bw)
   exact aB (λ_=>true) (λj h1=>absurd h1 (qX _)) rfl
 |cons d l ih=>
  intro r _ us b h q;refine e23 q ?_;clear q;intro v vs e1 x1 x2;subst e1;intro y;induction r using bI with
  |nil=>cases (show us=[] from y);(injection h with bA;subst bA);exact aB (λ_=>true) (λj h1 h2=>absurd h2 (qX _)) rfl
  |cons c r=>
   refine e23 y ?_;clear y;intro u us e2 y1 y2;subst e2;refine e12 (ey h) ?_;clear h;intro p hp h;refine e12 (fN.mp h) ?_;clear h;intro q hq h;subst h;refine e12 (ih r vs us q hq x2 y2) λe he ha=>?_;refine aB (λi=>if i=0 then p else e (i-1)) (λj h1 h2=>?_) ?_
   ·induction j using jv with
    |zero=>exact hf d c p v u hp x1 y1
    |succ j=>exact he j (tq h1) (tq h2)
   ·have em:min (v::vs).length (u::us).length=min vs.length us.length+1:=Nat.succ_min_succ _ _;have el:((v::vs).length==(u::us).length)=(vs.length==us.length):=by simp
    erw[em,el,wz,zO,L4];erw[<- ha];exact Bool.and_assoc ..
theorem HO{vs us:List Value}{e:Nat->Bool}{b:Bool}(h:((bn (min vs.length us.length)).all e&&vs.length==us.length)=b)(hl:vs.length=us.length):(bn vs.toArray.size).all e=b:=by
 erw[<- h,hl,Nat.min_self];simp[hl]
theorem sB:∀(n:Nat) (a b:AV) (r:Bool) (v u:Value) (A:Around) (s:Shared),aeq H n a b=some r->SimH Γ ρ H s->VRep ρ s.heap a v->VRep ρ s.heap b u->A.units+n<fO->o9 A s v u r/\wA A s v u r:=by
 intro n;induction n with
 |zero=>intro a b r v u A s e;injection e
 |succ n ih=>
  intro a b r v u A s e S x y hu;have Rv:v=u->r=true:=λq=>TM S.hp.nd (n+1) a b r v e x (q▸y);have pZ:A.units<fO:=ah (cr (bK _ _)) hu;have xE:=HN hu;have lift:∀{r:Bool},(v=u->r=true)->∀{p q:Addr},v=.ref p->u=.ref q->wA A s v u r->o9 A s v u r/\wA A s v u r:=λ{r} hs {p q} e1 e2 h=>by
   refine ⟨?_,h⟩;by_cases hq:v=u
   ·erw[hs hq,hq];exact L5 _
   ·clear x;subst e1 e2;exact o9.of_refs (λe=>hq (by erw[e])) h
  refine Cw (C:=λa b r=>VRep ρ s.heap a v->VRep ρ s.heap b u->(v=u->r=true)->o9 A s v u r/\wA A s v u r) (λx y _=>?_) (λc d x y _=>?_) (λc d x y _=>?_) (λc d x y _=>?_) (λl m r e x y hs=>?_) (λi j l m r dh hi hj e x y hs=>?_) e x y Rv
  ·cases (show v=_ from x);cases (show u=_ from y);exact ⟨L5 _,wA.none_none⟩
  ·cases (show v=_ from x);cases (show u=_ from y);exact ⟨o9.bool_bool _ _,wA.bool_bool _ _⟩
  ·refine e11 x ?_;clear x;intro t e1;refine e11 y ?_;clear y;intro t' e2;rw[e1,e2];exact ⟨o9.int_int _ _ _ _,wA.int_int _ _ _ _⟩
  ·refine e11 x ?_;clear x;intro t e1;refine e11 y ?_;clear y;intro t' e2;rw[e1,e2,<- ya];exact ⟨ED _ _ _ _,wA.str_str _ _ _ _⟩
  ·refine e33 x ?_;clear x;intro p vs k e1 g rx;refine e33 y ?_;clear y;intro q us k' e2 g' ry;refine e12 (yc (A:=A.in1) (s:=s) (λa b r v u h1 h2 h3=>(ih a b r v u A.in1 s h1 S h2 h3 xE).1) _ _ vs us r e rx ry) λf hf ha=>?_;refine lift hs e1 e2 ?_;rw[e1,e2];have:=wA.tuples (s:=s) (A:=A) (l:=p) (b:=q) (items:=vs.toArray) (items2:=us.toArray) (e:=f) ⟨_,g,rfl,k,rfl⟩ ⟨_,g',rfl,k',rfl⟩ pZ hf;erw[<- ha];simpa using this
  ·refine e12 x ?_;clear x;intro p e1 hp;refine e12 y ?_;clear y;intro q e2 hq;refine e22 (S.hp.list hi hp) λvs k g rx=>?_;refine e22 (S.hp.list hj hq) λus k' g' ry=>?_;refine e12 (yc (A:=A.in1) (s:=s) (λa b r v u h1 h2 h3=>(ih a b r v u A.in1 s h1 S h2 h3 xE).1) _ _ vs us r e rx ry) λf hf ha=>?_;refine lift hs e1 e2 ?_;rw[e1,e2];by_cases hl:vs.length=us.length
   ·erw[<- HO ha hl];exact wA.lists (dk g) (dk g') hl pZ hf
   ·have:r=false:=by erw[<- ha,beq_eq_false_iff_ne.mpr hl,qY]
    erw[this];exact wA.lists_lengths (dk g) (dk g') (bne_iff_ne.mpr hl) pZ
theorem Pr.sle{A:Around}{s:Shared}{t:Sem Value}{d:AV}(x:SimH Γ ρ H s)(h:aj (av Γ.prog Γ.w) A t (λv s'=>SLe s s'/\VRep ρ s'.heap d v) (λzz zz=>False) s):Pr Γ A ρ s t H d :=
 ba h (λv s' q7=>e02 q7 λl r=>⟨ρ,l.step,l.h x,r⟩) λzz zz q=>q
theorem PrB.sle{A:Around}{s:Shared}{t:Sem Bool}{b:Bool}(x:SimH Γ ρ H s)(h:aj (av Γ.prog Γ.w) A t (λv s'=>SLe s s'/\v=b) (λzz zz=>False) s):PrB Γ A ρ s t H b :=
 ba h (λv s' q7=>e02 q7 λl r=>⟨ρ,l.step,l.h x,r⟩) λzz zz q=>q
theorem Room.u0{A:Around}(R:Room 0 A){n:Nat}(h:n<=100):A.units+n<fO:=by have:=R.units;exact ah (cr (fH (le2 h rfl) _)) this
theorem sC{h:Heap}(P:HRep Γ ρ h H)(a:Addr)(vs:List Value)(n:Nat)(g:h.get? a=some (m6 vs n))(j:Nat):¬ ρ[j]?=some a:=λe=>by
 have hj:j<H.length:=P.len▸(ei.mp e).1;exact (P.obj j _ a (eE hj) e).not_immut g rfl
noncomputable def TN:AV->Nat
 |.none=>0
 |.bool _=>1
 |.int _=>2
 |.str _=>3
 |_=>4
noncomputable def TP:Value->Nat
 |.none=>0
 |.bool _=>1
 |.int _ _=>2
 |.str _ _=>3
 |_=>4
theorem kJ{h:Heap}{a:AV}{v:Value}(hd:AV.dat a=true)(x:VRep ρ h a v):TN a=TP v:=by
 induction a using AV.casesOn
 case none=>subst x;rfl
 case bool=>subst x;rfl
 case int=>exact x.elim λzz e=>by clear x;subst e;rfl
 case str=>exact x.elim λzz e=>by clear x;subst e;rfl
 case tup=>exact x.elim λzz x=>x.elim λzz x=>x.elim λzz x=>by cases x.1;rfl
 case loc=>exact x.elim λzz x=>by cases x.1;rfl
 all_goals exact nomatch hd
theorem TQ{s s':Cps}{v:Value}(x:∃t,v=.str (ao s) t)(y:∃t,v=.str (ao s') t):AV.str s=AV.str s' :=
 x.elim λzz x=>y.elim λzz y=>congrArg AV.str (m5 (Value.str.inj (x.symm.trans y)).1)
theorem TR{s s':Int}{v:Value}(x:∃t,v=.int s t)(y:∃t,v=.int s' t):AV.int s=AV.int s' :=
 x.elim λzz x=>y.elim λzz y=>congrArg AV.int (Value.int.inj (x.symm.trans y)).1
mutual
theorem VRep.inj{h:Heap}(P:HRep Γ ρ h H):∀(a b:AV) (v:Value),AV.dat a=true->AV.dat b=true->VRep ρ h a v->VRep ρ h b v->a=b
 |.tup l,b,v,ha,hb,x,y=>by
  have k:=(kJ ha x).trans (kJ hb y).symm;induction b using AV.casesOn<;>first|exact absurd k (qZ rfl)|(injection hb;done)|skip
  case tup r=>
   refine e33 x ?_;clear x;intro a vs n e g x;refine e33 y ?_;clear y;intro a' jO n' e' g' y;subst e;(injection e' with bN;subst bN)
   cases HM g g';exact congrArg AV.tup (VReps.inj P l r vs ha hb x y)
  case loc j=>
   refine e33 x ?_;clear x;intro a vs n e g x;refine e12 y ?_;clear y;intro a' e' y;subst e;(injection e' with ch;subst ch)
   exact absurd y (sC P a vs n g j)
 |.loc i,b,v,ha,hb,x,y=>by
  have k:=(kJ ha x).trans (kJ hb y).symm;induction b using AV.casesOn<;>first|exact absurd k (qZ rfl)|(injection hb;done)|skip
  case tup r=>
   refine e33 y ?_;clear y;intro a vs n e g y;refine e12 x ?_;clear x;intro a' e' x;subst e;(injection e' with cg;subst cg)
   exact absurd x (sC P a vs n g i)
  case loc j=>
   refine e12 x ?_;clear x;intro a e x;refine e12 y ?_;clear y;intro a' e' y;subst e;(injection e' with cm;subst cm)
   exact congrArg AV.loc (sj P.nd x y)
 |.none,b,v,ha,hb,x,y=>by
  have k:=(kJ ha x).trans (kJ hb y).symm;induction b using AV.casesOn<;>first|exact absurd k (qZ rfl)|rfl|(cases hb;done)
 |.bool z,b,v,ha,hb,x,y=>by
  have k:=(kJ ha x).trans (kJ hb y).symm;induction b using AV.casesOn<;>first|exact absurd k (qZ rfl)|exact congrArg AV.bool (Value.bool.inj (tj (jy x) y))|(cases hb;done)
 |.int z,b,v,ha,hb,x,y=>by
  have k:=(kJ ha x).trans (kJ hb y).symm;induction b using AV.casesOn<;>first|exact absurd k (qZ rfl)|exact TR x y|(cases hb;done)
 |.str z,b,v,ha,hb,x,y=>by
  have k:=(kJ ha x).trans (kJ hb y).symm;induction b using AV.casesOn<;>first|exact absurd k (qZ rfl)|exact TQ x y|(cases hb;done)
 |.fn _,_,_,ha,_,_,_=>nomatch ha
 |.typ _,_,_,ha,_,_,_=>nomatch ha
 |.bi _,_,_,ha,_,_,_=>nomatch ha
 |.rng _ _ _,_,_,ha,_,_,_=>nomatch ha
 |.nxt _,_,_,ha,_,_,_=>nomatch ha
 |.vw _,_,_,ha,_,_,_=>nomatch ha
termination_by structural a=>a
theorem VReps.inj{h:Heap}(P:HRep Γ ρ h H):∀(a b:List AV) (v:List Value),AVs.dat a=true->AVs.dat b=true->VReps ρ h a v->VReps ρ h b v->a=b
 |[],[],_,_,_,_,_=>rfl
 |[],_::_,_,_,_,x,y=>by subst x;exact y.elim λzz y=>y.elim λzz y=>nomatch y.1
 |_::_,[],_,_,_,x,y=>by subst y;exact x.elim λzz x=>x.elim λzz x=>nomatch x.1
 |a::l,b::r,v,ha,hb,x,y=>by
  refine e23 x ?_;clear x;intro _ _ e x1 x2;refine e23 y ?_;clear y;intro _ _ e' y1 y2;subst e;(injection e' with cW d0;subst d0;subst cW)
  have ha:=i3.mp ha;have hb:=i3.mp hb;erw[VRep.inj P a b _ ha.1 hb.1 x1 y1,VReps.inj P l r _ ha.2 hb.2 x2 y2]
termination_by structural a=>a
end
theorem TT{A:Around}{s:Shared}{a:AV}{u:Value}(S:SimH Γ ρ H s)(hu:A.units+8<fO)(y:VRep ρ s.heap a u):∀(l:List AV) (vs:List Value) (b:Bool),inL H a l=some b->VReps ρ s.heap l vs ->
  (∀v∈vs,∃d∈l,AV.dat d=true/\VRep ρ s.heap d v/\∃r,aeq H 8 d a=some r)/\(b=true↔∃v∈vs,∃d,AV.dat d=true/\VRep ρ s.heap d v/\aeq H 8 d a=some true):=λl=>by
 induction l with
 |nil=>
  intro vs b h x;cases (show vs=[] from x)
  (injection h with d5;subst d5);simp
 |cons d l ih=>
  intro _ b h q;refine e23 q ?_;clear q;intro v vs e1 x1 x2;subst e1;by_cases hd:AV.dat d=true
  ·have h:(if AV.dat d=true then (aeq H 8 d a).bind λx=>(inL H a l).map (x||·) else none)=some b:=h
   rw[if_pos hd] at h;refine e12 (ey h) ?_;clear h;intro p hp h;refine e12 (fN.mp h) ?_;clear h;intro q hq h;subst h;refine e02 (ih vs q hq x2) λh1 h2=>?_;refine ⟨λw hw=>?_,?_⟩
   ·refine (bu.mp hw).elim (λe=>?_) λhw=>?_
    ·subst e;exact ⟨d,aG,hd,x1,p,hp⟩
    ·refine e12 (h1 w hw) λd' m r=>?_;exact aB d' (aL _ m) r
   ·erw[tu];refine ⟨λe=>e.elim (λe=>?_) λe=>?_,λ⟨w,m,d',g7,xw,hr⟩=>?_⟩
    ·subst e;exact ⟨v,aG,d,hd,x1,hp⟩
    ·refine e12 (h2.mp e) λw m r=>?_;exact aB w (aL _ m) r
    ·refine (bu.mp m).elim (λe=>?_) λm=>.inr (h2.mpr ⟨w,m,d',g7,xw,hr⟩);rw[<- VRep.inj S.hp d d' w hd g7 (e▸x1) xw,hp] at hr;exact .inl (l5 hr)
  ·have h:(if AV.dat d=true then (aeq H 8 d a).bind λx=>(inL H a l).map (x||·) else none)=some b:=h
   rw[if_neg hd] at h;exact nomatch h
open Classical in
theorem HP{A:Around}{s:Shared}{a:AV}{u:Value}(S:SimH Γ ρ H s)(hu:A.units+8<fO)(y:VRep ρ s.heap a u){l:List AV}{vs:List Value}{b:Bool}(h:inL H a l=some b)(x:VReps ρ s.heap l vs) :
  ∃e:Value->Bool,(∀w∈vs.toArray,o9 A s w u (e w))/\vs.toArray.any e=b:=by
 refine e02 (TT S hu y l vs b h x) λh1 h2=>?_;refine aB (λw=>decide (∃d,AV.dat d=true/\VRep ρ s.heap d w/\aeq H 8 d a=some true)) (λw hw=>?_) ?_
 ·refine e14 (h1 w (by simpa using hw)) λd _ hd xw dJ=>?_;refine e11 dJ λr hr=>?_
  have:=(sB 8 d a r w u A s hr S xw y hu).1;have e:decide (∃d,AV.dat d=true/\VRep ρ s.heap d w/\aeq H 8 d a=some true)=r:=by
   induction r using dN with
   |true=>exact decide_eq_true ⟨d,hd,xw,hr⟩
   |false=>
    refine decide_eq_false ?_;rintro ⟨d',g7,GI,uJ⟩;have:=VRep.inj S.hp d d' w hd g7 xw GI;clear GI g7;subst this;rw[hr] at uJ;(injection uJ with dY;injection dY)
  show o9 A s w u (decide _);erw[e];exact this
 ·erw[i4,h2];simp[Array.any_eq_true,List.mem_iff_getElem]
end
theorem HQ(h:inB z=true):-(2 ^ 62)<z/\z<2 ^ 62:=by
 simp only[inB,ie,decide_eq_true_eq] at h;exact h
theorem dm(h:okL n=true):n<=100000:=by simpa[okL] using h
theorem dO(l:Cps):(ao l).length=l.length:=by simp[ao,L6]
theorem ye(a b:Cps):ao a++ao b=ao (a++b):=by
 show Str.mk _=Str.mk _;simp[ao]
theorem CF{n:Nat}(h:n<=100000):(n:Int)<2 ^ 63:=iL (le2 (aF h (aq _)) rfl)
theorem jk(h:n<=100000):n<=g5:=ah h (by decide)
section
variable{Γ:Gam}{ρ:List Addr}{H:List AO}
theorem TruP.of{d:AV}{Q:Bool->Prop}(h:m8 H d Q):∃b,TruP Γ d H b/\Q b:=by
 induction d using AV.casesOn
 case none=>exact aB _ (λA s ρ v R S x=>PrB.sle S (by cases (show v=_ from x);exact truthy_none ⟨.refl _,rfl⟩)) h
 case bool=>exact aB _ (λA s ρ v R S x=>PrB.sle S (by cases (show v=_ from x);exact AQ ⟨.refl _,rfl⟩)) h
 case int i=>
  refine aB _ (λA s ρ v R S x=>PrB.sle S ?_) h;refine e11 x ?_;clear x;intro t aC;subst aC;refine Ads ⟨.refl _,?_⟩;by_cases hi:i=0
  ·clear h;subst hi;rfl
  ·exact (decide_eq_true hi).symm▸bne_iff_ne.mpr hi
 case str l=>
  refine aB _ (λA s ρ v R S x=>PrB.sle S ?_) h.2;refine e11 x ?_;clear x;intro t aI;subst aI;exact P.truthy_str (by erw[dO];exact Int.not_le.mpr (CF (dm h.1))) ⟨.tok _ _,by erw[dO];induction l using bI<;>rfl⟩
 case tup l=>
  refine aB _ (λA s ρ v R S x=>PrB.sle S ?_) h.2;refine e33 x ?_;clear x;intro a vs k aS g r;subst aS;have hl:=r.length;refine Adt ⟨_,g,rfl,k,rfl⟩ (by erw[dE,hl];exact CF (dm h.1)) ⟨.tok _ _,?_⟩;induction l using bI<;>induction vs using bI<;>first|rfl|injection hl
 case loc n=>
  refine e12 (iS h) ?_;clear h;intro l hn h;refine aB _ (λA s ρ v R S x=>PrB.sle S ?_) h.2;refine e12 x ?_;clear x;intro a be ha;subst be;refine e22 (S.hp.list hn ha) λvs k g r=>?_;have hl:=r.length;refine Ob (dk g) (by erw[dE,hl];exact CF (dm h.1)) ⟨.tok _ _,?_⟩;induction l using bI<;>induction vs using bI<;>first|rfl|injection hl
 all_goals exact h.elim
theorem mz:SLe s {s with toks:=s.toks+1}/\VRep ρ s.heap (.int i) (.int i s.toks):=⟨.tok _ _,_,rfl⟩
theorem InpP.of(h:sy op a b P):∃d,InpP Γ op a b H d H/\P d:=by
 induction a using AV.casesOn
 case int=>
  refine e12 (fV h) ?_;clear h;intro y bw h;subst bw;induction op using L7
  case Add=>exact aB _ (λA s ρ v u R S q7 q8=>e11 q7 λzz x=>e11 q8 λzz y=>by clear q7;subst x y;exact Pr.sle S (iadd_int mz)) h.2
  case Sub=>exact aB _ (λA s ρ v u R S q7 q8=>e11 q7 λzz x=>e11 q8 λzz y=>by clear q7;subst x y;exact Pr.sle S (isub_int mz)) h.2
  all_goals exact h.elim
 case str=>
  refine e14 (jW h) ?_;clear h;intro y bA bN hz h;subst bA;subst bN;exact aB _ (λA s ρ v u R S q7 q8=>e11 q7 λzz x=>e11 q8 λzz y=>by clear q7;subst x y;exact Pr.sle S (iadd_str (λt' tk=>⟨.tok _ _,t',by erw[ye]⟩) (by erw[dO,dO];exact jk (dm hz)))) h
 all_goals exact h.elim
theorem UnP.neg:UnP Γ .USub (.int x) H (.int (-x)):=λA s ρ v R S q7=>e11 q7 λzz x=>by clear q7;subst x;exact Pr.sle S (neg_int mz)
theorem TU(x:Cps)(n:Int)(h0:0<=n):Txt.mul (ao x) n=ao (j8 n.toNat x).flatten:=by
 unfold Txt.mul;have Gg:∀(k:Nat) (aa:Array Nat),(j8 k (ao x).cps).foldl (·++·) aa=(aa.toList++(j8 k x).flatten).toArray:=by
  intro k;induction k with
  |zero=>intro aa;simp
  |succ k ih=>intro aa;erw[EE,cB,ih];simp[ao,EE]
 by_cases h1:n<1
 ·have:n=0:=Int.le_antisymm (Int.le_of_lt_add_one h1) h0;clear h1 h0;subst this;simp[ao,Str.empty]
 ·erw[if_neg h1];split
  ·rename_i h;simp only[tu,beq_iff_eq] at h;rcases h with h|h
   ·clear h1 h0;subst h;simp
   ·rw[dO] at h;have:x=[]:=l6.mp h;clear h Gg;subst this;simp
  ·erw[Gg];simp[ao]
theorem CG(x:SimH Γ ρ H s)(hr:VReps ρ s.heap ds vs) :
  ∃ae,Step (frs A) [] ρ ae s.heap (s.heap.push {cls:=.type "list",data:=.seq vs.toArray})/\SimH Γ ae (H++[.list ds]) {s with heap:=s.heap.push {cls:=.type "list",data:=.seq vs.toArray},toks:=tk}/\VRep ae (s.heap.push {cls:=.type "list",data:=.seq vs.toArray}) (.loc H.length) (.ref s.heap.objs.size):=by
 refine ⟨ρ++[s.heap.objs.size],⟨⟨[s.heap.objs.size],rfl,by simp⟩,λb o zz zz e=>(.inl (du _ e)),Le.imm (Le.push _ _),by simp⟩,⟨x.base.trans (Le.push _ _),x.gens,x.os,?_⟩,s.heap.objs.size,rfl,?_⟩
 ·exact x.hp.push x.base (aq _) (Le.imm (Le.push _ _)) (λb zz o e=>du _ e) ⟨vs,0,co _ rfl,VReps.mono ⟨_,rfl⟩ (Le.imm (Le.push _ _)) _ _ hr⟩
 ·erw[<- x.hp.len];simp
theorem TV(h:0<=p/\p<=10/\0<=q/\q<=16):(EF p:Int)*q<=2 ^ 27:=by
 have hb:(EF p:Int)<=4:=by
  refine e11 (Int.eq_ofNat_of_zero_le h.1) λn ch=>?_;subst ch;have hn:n<11:=by have:=h.2.1;exact cr (uL this)
  have:∀n:Nat,n<11->(EF (n:Int):Int)<=4:=by decide +kernel
  exact this n hn
 exact bH (Int.mul_le_mul hb h.2.2.2 h.2.2.1 (by decide)) (by decide)
theorem IntP.of(h:HG op x y P):∃d,BinP Γ op (.int x) (.int y) H d H/\P d:=by
 induction op using L7
 case Add=>exact aB _ (λA s ρ v u R S q7 q8=>e11 q7 λzz x=>e11 q8 λzz y=>by clear q7;subst x y;exact Pr.sle S (Adu mz)) h.2
 case Sub=>exact aB _ (λA s ρ v u R S q7 q8=>e11 q7 λzz x=>e11 q8 λzz y=>by clear q7;subst x y;exact Pr.sle S (Adv mz)) h.2
 case FloorDiv=>
  obtain ⟨hz,h⟩:(0<y/\y<=1000000)/\_:=h;exact aB _ (λA s ρ v u R S q7 q8=>e11 q7 λzz x=>e11 q8 λzz y=>by clear q7;subst x y;exact Pr.sle S (floordiv_int (L8 hz.1) mz (.inl (EG (uT (q0 (bH (lg (Int.natAbs_of_nonneg (rc hz.1))) hz.2) (by decide))))))) h
 case Mod=>exact aB _ (λA s ρ v u R S q7 q8=>e11 q7 λzz x=>e11 q8 λzz y=>by clear q7;subst x y;exact Pr.sle S (mod_int' (L8 h.1.1) mz)) h.2
 case Pow=>exact aB _ (λA s ρ v u R S q7 q8=>e11 q7 λzz x=>e11 q8 λzz y=>by clear q7;subst x y;exact Pr.sle S (pow_int h.1.2.2.1 (TV h.1) mz)) h.2
 case BitAnd=>exact aB _ (λA s ρ v u R S q7 q8=>e11 q7 λzz x=>e11 q8 λzz y=>by clear q7;subst x y;exact Pr.sle S (and_int mz)) h
 case BitXor=>exact aB _ (λA s ρ v u R S q7 q8=>e11 q7 λzz x=>e11 q8 λzz y=>by clear q7;subst x y;exact Pr.sle S (xor_int mz)) h
 all_goals exact h.elim
theorem TW(h:0<=n/\n<=100000/\okL (l*n.toNat)=true):0<n->¬ ((2 ^ 63-1) / n<(l:Int)):=λh0 h4=>by
 have h3:((l*n.toNat:Nat):Int)<=100000:=tf.mpr (dm h.2.2);rw[Int.natCast_mul,Er h.1] at h3;rw[Int.ediv_lt_iff_lt_mul h0] at h4;exact absurd (EH h4 h3) (by decide)
theorem BinP.of(h:kH op a b H P):∃d H',BinP Γ op a b H d H'/\P d H':=by
 induction a using AV.casesOn
 case int=>
  refine e12 (fV h) ?_;clear h;intro y cg h;subst cg;obtain ⟨d,h1,h2⟩:=IntP.of (H:=H) (P:=λz=>P z H) h;exact bZ d H h1 h2
 case str l=>
  induction b using AV.casesOn
  case str=>
   refine e03 h ?_;clear h;intro cm hz h;subst cm;exact bZ _ _ (λA s ρ v u R S q7 q8=>e11 q7 λzz x=>e11 q8 λzz y=>by clear q7;subst x y;exact Pr.sle S (Adw (λt' tk=>⟨.tok _ _,t',by erw[ye]⟩) (by erw[dO,dO];exact jk (dm hz)))) h
  case int n=>
   refine e03 h ?_;clear h;intro cW hz h;subst cW;refine bZ _ _ (λA s ρ v u R S q7 q8=>e11 q7 λzz x=>e11 q8 λzz y=>?_) h;clear q7;subst x y;refine Pr.sle S (SB.mul ⟨by erw[zS];exact ⟨decide_eq_false (λq=>absurd (q0 hz.1 q) (by decide)),decide_eq_false (λq=>wB (uL (bH q hz.2.1)) (bL rfl))⟩,λh1 h2 h3=>?_,λh1 h2=>?_⟩ λt' k=>⟨.tok _ _,t',by erw[TU _ _ hz.1]⟩)
   ·rw[dO] at h3;exact TW hz (iN h1) h3
   ·erw[dO];exact decide_eq_false (bQ.mpr (jk (dm hz.2.2)))
  all_goals exact h.elim
 case loc i=>
  refine e12 (jX h) ?_;clear h;intro j d0 h;subst d0;refine e12 (iS h) ?_;clear h;intro l hi h;refine e14 (iS h) ?_;clear h;intro r hj d5 hz h;subst d5;refine bZ _ _ (λA s ρ v u R S q7 q8=>e12 q7 λp x hp=>e12 q8 λq y hq=>?_) h;clear q7;subst x y;refine e22 (S.hp.list hi hp) λvs k g rx=>?_;refine e22 (S.hp.list hj hq) λus k' g' ry=>?_;refine concat_meets (T:="list") ⟨_,g,rfl⟩ ⟨_,g',rfl⟩ noFill_list_add seq_list_add PySem.F.slot_list_add PySem.F.entry_list_add (PySem.F.args_list_add_2 _ _) (list_addW p q vs.toArray us.toArray k k' _ _ _ _ (by
   erw[dE,dE,rx.length,ry.length];exact jk (dm hz))) ⟨g,g',?_⟩
  erw[List.append_toArray];exact CG (A:=A) (tk:=s.toks) S (rx.append ry)
 all_goals exact h.elim
end
section
variable{Γ:Gam}{ρ:List Addr}{H:List AO}
theorem z4y{a b:AV}{r:Bool}{v u:Value}{A:Around}{s:Shared}{n:Nat}(h:aeq H n a b=some r)(S:SimH Γ ρ H s)(x:VRep ρ s.heap a v)(y:VRep ρ s.heap b u)(R:Room 0 A)(hn:n<=8:=by decide):wA A s v u r :=
 (sB n a b r v u A s h S x y (R.u0 (le2 hn rfl))).2
theorem TX{n:Nat}{a b:AV}{r:Bool}{v u:Value}{A:Around}{s:Shared}(e:aeq H (n+1) a b=some r)(S:SimH Γ ρ H s)(x:VRep ρ s.heap a v)(y:VRep ρ s.heap b u)(hu:A.units+(n+1)<fO):L9 A s v u (!r):=by
 have pZ:A.units<fO:=ah (cr (bK _ _)) hu;have xE:=HN hu;have ih:∀a b r v u,aeq H n a b=some r->VRep ρ s.heap a v->VRep ρ s.heap b u->o9 A.in1 s v u r:=λa b r v u h1 h2 h3=>(sB n a b r v u A.in1 s h1 S h2 h3 xE).1;refine Cw (C:=λa b r=>VRep ρ s.heap a v->VRep ρ s.heap b u->L9 A s v u (!r)) (λx y=>?_) (λc d x y=>?_) (λc d x y=>?_) (λc d x y=>?_) (λl m r e x y=>?_) (λi j l m r dh hi hj e x y=>?_) e x y
 ·cases (show v=_ from x);cases (show u=_ from y);exact Adx
 ·cases (show v=_ from x);cases (show u=_ from y);exact Ady _ _
 ·refine e11 x ?_;clear x;intro t e1;refine e11 y ?_;clear y;intro t' e2;rw[e1,e2];exact Adz _ _ _ _
 ·refine e11 x ?_;clear x;intro t e1;refine e11 y ?_;clear y;intro t' e2;rw[e1,e2,<- ya];exact Ad0 _ _ _ _
 ·refine e33 x ?_;clear x;intro p vs k e1 g rx;refine e33 y ?_;clear y;intro q us k' e2 g' ry;refine e12 (yc (A:=A.in1) (s:=s) ih _ _ vs us r e rx ry) λf hf ha=>?_;rw[e1,e2];have:=Ad1 (s:=s) (A:=A) (l:=p) (b:=q) (items:=vs.toArray) (items2:=us.toArray) (e:=f) ⟨_,g,rfl,k,rfl⟩ ⟨_,g',rfl,k',rfl⟩ pZ hf;erw[<- ha];simpa using this
 ·refine e12 x ?_;clear x;intro p e1 hp;refine e12 y ?_;clear y;intro q e2 hq;refine e22 (S.hp.list hi hp) λvs k g rx=>?_;refine e22 (S.hp.list hj hq) λus k' g' ry=>?_;refine e12 (yc (A:=A.in1) (s:=s) ih _ _ vs us r e rx ry) λf hf ha=>?_;rw[e1,e2];by_cases hl:vs.length=us.length
  ·erw[<- HO ha hl];exact Ad2 (dk g) (dk g') hl pZ hf
  ·have:r=false:=by erw[<- ha,beq_eq_false_iff_ne.mpr hl,qY]
   erw[this];exact Ad3 (dk g) (dk g') (bne_iff_ne.mpr hl) pZ
theorem DReps.keys{h:Heap}:∀{es:List (Cps × AV)} {aQ:List (Str × Value)},DReps ρ h es aQ->aQ.map (·.1)=es.map λe=>ao e.1:=λ{es}=>by
 induction es with
 |nil=>
  intro _ x;cases (show _=[] from x);rfl
 |cons hd r ih=>
  intro _ cO;obtain ⟨k,d⟩:=hd;refine e23 cO ?_;clear cO;intro v aD e _ y;subst e;simp[ih y]
theorem DReps.at{h:Heap}{k:Cps}:∀{es:List (Cps × AV)} {aQ:List (Str × Value)},DReps ρ h es aQ->(∀d,es.lookup k=some d->∃v,AR aQ (ao k)=some v/\VRep ρ h d v)/\(es.lookup k=none->AR aQ (ao k)=none):=λ{es}=>by
 induction es with
 |nil=>
  intro _ x;cases (show _=[] from x);exact ⟨λd h=>(by injection h),λzz=>rfl⟩
 |cons hd r ih=>
  intro _ cO;obtain ⟨k',d⟩:=hd;refine e23 cO ?_;clear cO;intro v aD e hv y;subst e;have ih:=ih y;erw[dW];unfold AR;erw[zT];by_cases q:k=k'
  ·subst q;simp only[beq_self_eq_true,decide_true];exact ⟨λd' h'=>by (injection h' with aC;subst aC);exact ⟨v,rfl,hv⟩,λh'=>by cases h'⟩
  ·have q':¬ ao k'=ao k:=λe=>q (m5 e).symm;erw[beq_eq_false_iff_ne.mpr q];simp only[decide_eq_false q'];exact ih
theorem DReps.any{h:Heap}{k:Cps}:∀{es:List (Cps × AV)} {aQ:List (Str × Value)},DReps ρ h es aQ->(AR aQ (ao k)).isSome=es.any (·.1==k):=λ{es aQ} y=>by
 have h1:=DReps.at (k:=k) y;cases e:es.lookup k with
 |none=>
  erw[h1.2 e];have:es.any (·.1==k)=false:=by
   erw[Ma];intro x hx hk;rw[Mb] at e;have:=e x hx;simp at hk this;exact this hk.symm
  erw[this];rfl
 |some d=>
  refine e12 (h1.1 d e) λv e1 _=>?_;erw[e1];have:es.any (·.1==k)=true:=by
   erw[re];refine e22 (List.lookup_eq_some_iff.mp e) ?_;clear h1;intro l1 l2 h1 h2;exact aB (k,d) (by erw[h1];simp) (by simp)
  erw[this];rfl
theorem DReps.length{h:Heap}{es:List (Cps × AV)}{aQ:List (Str × Value)}(x:DReps ρ h es aQ):aQ.length=es.length:=by
 have:=congrArg b9 x.keys;simpa using this
theorem TY{A:Around}{s:Shared}{es:List (Cps × AV)}{kb:List (Str × Value)}(S:SimH Γ ρ H s)(hu:A.units+4<fO)(hb:DReps ρ s.heap es kb):∀(ds:List (Cps × AV)) (ka:List (Str × Value)) (r:Bool),oy H es ds=some r->DReps ρ s.heap ds ka->KeqHits A s kb ka r:=λds=>by
 induction ds with
 |nil=>
  intro ka r e x;cases (show ka=[] from x);(injection e with aI;subst aI);exact .nil
 |cons hd ds ih=>
  intro _ r e g8;obtain ⟨k,d⟩:=hd;refine e23 g8 ?_;clear g8;intro v ka e1 hv y;subst e1;have e:(es.lookup k).elim (some false) (λu=>(aeq H 4 d u).bind λa=>(oy H es ds).map (a&&·))=some r:=e;cases hl:es.lookup k with
  |none=>rw[hl] at e;(injection e with aS;subst aS);exact .miss ((DReps.at (k:=k) hb).2 hl)
  |some u=>
   rw[hl] at e;refine e12 (ey e) ?_;clear e;intro a h1 e;refine e12 (fN.mp e) ?_;clear e;intro b h2 e;subst e;refine e12 ((DReps.at (k:=k) hb).1 u hl) λw hw rw=>?_;exact .hit hw (sB 4 d u a v w A s h1 S hv rw hu).1 (ih ka b h2 y)
theorem HRep.mods{h:Heap}(P:HRep Γ ρ h H){i:Nat}{a:Addr}(e:ρ[i]?=some a):(a==sysModules)=false:=beq_eq_false_iff_ne.mpr (P.nm a (lZ e))
theorem HRep.dict{h:Heap}(x:HRep Γ ρ h H){n:Nat}{es:List (Cps × AV)}{dv:Option Nat}(e:H[n]?=some (.dict es dv)){a:Addr}(ha:ρ[n]?=some a):∃aQ ep,h.DictAt (mM Γ.prog Γ.w) a aQ ep/\DReps ρ h es aQ:=let ⟨aQ,ep,a,b,_⟩:=x.obj n _ a e ha;⟨aQ,ep,a,b⟩
noncomputable def EqA(Γ:Gam)(A:Around)(s:Shared)(y x:Value)(b:Bool):Prop :=
 ∀(E:Value->Shared->Prop) (Q:Bool->Shared->Prop),Q b s->aj (av Γ.prog Γ.w) A (AT y x) Q E s
theorem TZ{a b:AV}{r:Bool}{v u:Value}{A:Around}{s:Shared}(e:mw H a b=some r)(S:SimH Γ ρ H s)(x:VRep ρ s.heap a v)(y:VRep ρ s.heap b u)(hu:A.units+20<fO):EqA Γ A s v u r:=by
 refine (EI.mp e).elim (λh=>?_) λq=>?_
 ·exact λE Q hq=>(sB 7 a b r v u A s h S x y (ah (cr (fH (bL rfl) _)) hu)).1 _ _ E Q hq
 refine e12 (ey q.2) ?_;clear e;intro i e1 e;refine e12 (ey e) ?_;clear e;intro j e2 e;cases x0 e1;cases x0 e2;by_cases dh:i=j
 ·rw[if_pos dh] at e;exact nomatch e
 rw[if_neg dh] at e;refine e12 (ey e) ?_;clear e;intro d hi e;refine e12 (ey e) ?_;clear e;intro es hj e;refine e11 (HE hi) ?_;clear hi;intro _ hi;refine e11 (HE hj) ?_;clear hj;intro _ hj;refine e12 x ?_;clear x e1;intro p e1 hp;refine e12 y ?_;clear y q e2;intro q e2 hq;subst e1 e2;refine e22 (S.hp.dict hi hp) λka ep da ra=>?_;refine e22 (S.hp.dict hj hq) λkb pU db rb=>?_;have la:=ra.length;have lb:=rb.length;intro E Q hQ;unfold AT;refine cu ?_;have body:∀r',(ka.length==kb.length&&r')=r->(ka.length=kb.length->KeqHits A.in1 s kb ka r')->aj (av Γ.prog Γ.w) A (pk .Eq (.ref p) (.ref q)) (λv s'=>aj (av Γ.prog Γ.w) A (truthOfDropped v) Q E s') E s:=λr' h1 h2=>
  keq_eq (S.hp.mods hp) (S.hp.mods hq) da.dictOf db.dictOf (ah (cr (bK _ _)) hu) h2 (by erw[h1];exact AQ hQ)
 refine wpAny_ite_split (λkB=>?_) (λzz=>ag ?_)
 ·have:p=q:=by have:=eq_of_beq kB;injection this
  exact absurd (sj S.hp.nd hp (this▸hq)) dh
 ·by_cases hl:d.length=es.length
  ·rw[if_pos hl] at e;refine body r ?_ λzz=>TY S (by simp;exact ah (cr (fH (bL rfl) _)) hu) rb _ _ r e ra;erw[la,lb,hl,beq_self_eq_true];rfl
  ·rw[if_neg hl] at e
   (injection e with be;subst be)
   exact body false (qY _) λh=>absurd h (λq=>hl (la.symm.trans (q.trans lb)))
theorem T1{A:Around}{s:Shared}(S:SimH Γ ρ H s)(hu:A.units+20<fO):∀(l r:List AV) (vs us:List Value) (b:Bool),x3 H l r=some b->VReps ρ s.heap l vs->VReps ρ s.heap r us ->
  ∃e:Nat->Bool,(∀j (h1:j<vs.length) (h2:j<us.length),EqA Γ A s vs[j] us[j] (e j))/\(bn vs.length).all e=b:=λl=>by
 induction l with
 |nil=>
  intro r vs us b h x y;induction r using bI with
  |cons c r=>exact nomatch h
  |nil=>cases (show vs=[] from x);(injection h with bw;subst bw);exact aB (λ_=>true) (λj h1=>absurd h1 (qX _)) rfl
 |cons d l ih=>
  intro r vs us b h x y;induction r using bI with
  |nil=>exact nomatch h
  |cons c r=>
   refine e23 x ?_;clear x;intro v vs e1 x1 x2;refine e23 y ?_;clear y;intro u us e2 y1 y2;subst e1 e2;refine e12 (ey h) ?_;clear h;intro p hp h;refine e12 (fN.mp h) ?_;clear h;intro q hq h;subst h;refine e12 (ih r vs us q hq x2 y2) λe he ha=>?_;refine aB (λi=>if i=0 then p else e (i-1)) (λj h1 h2=>?_) ?_
   ·induction j using jv with
    |zero=>exact TZ hp S x1 y1 hu
    |succ j=>exact he j (tq h1) (tq h2)
   ·erw[bC,wz,zO,L4];erw[<- ha];rfl
theorem T2{l:List AV}:∀{r:List AV} {b:Bool},x3 H l r=some b->l.length=r.length:=by
 induction l with
 |nil=>
  intro r b h;induction r using bI with
  |nil=>rfl
  |cons c r=>exact nomatch h
 |cons d l ih=>
  intro r b h;induction r using bI with
  |nil=>exact nomatch h
  |cons c r=>
   refine e12 (ey h) ?_;clear h;intro p hp h;refine e12 (fN.mp h) ?_;clear h;intro q hq h;exact congrArg nG (ih hq)
theorem T3{A:Around}{s:Shared}{E:Value->Shared->Prop}{Q:Value->Shared->Prop}{l b:Addr}{vs us:List Value}{n n2:Nat}{e:Nat->Bool}(hl:s.heap.get? l=some (m6 vs n))(hb:s.heap.get? b=some (m6 us n2))(bz:vs.length=us.length)
  (he:∀j (h1:j<vs.length) (h2:j<us.length),EqA Γ A.in1 s vs[j] us[j] (e j)) (hu:A.units<fO) (h:Q (.bool ((bn vs.length).all e)) s):aj (av Γ.prog Γ.w) A (wV .Eq (.ref l) (.ref b)) Q E s:=by
 have hT:s.TypeIs (.ref l) "tuple":=⟨_,hl,rfl⟩;have hU:s.TypeIs (.ref b) "tuple":=⟨_,hb,rfl⟩;refine wpAny_richCompare_same_room (op:=.Eq) hT hU Mc (mh Mc hT PySem.F.entry_tuple_eq ?_ (PySem.F.args_tuple_eq_2 _ _)) hu;clear hT;obtain ⟨hp,g,d,tk,os⟩:=s;have f2:=AutoSeq1.sub_tuple_tuple;have hZ:(vs.zip us).length=vs.length:=by simp[bz]
 wp_walk using EJ hl,EJ hb,wpAny_forIn_list _ (λrest b s'=>b.1=none/\s'=⟨hp,g,d,tk,os⟩/\∃i,rest=(vs.zip us).drop i/\Q (.bool (((bn vs.length).drop i).all e)) ⟨hp,g,d,tk,os⟩) _
 case turn=>
  rintro ⟨y,x⟩ rest b s' ⟨iM,rfl,i,hz,hR⟩;have aM:i<(vs.zip us).length:=by
   refine cT (Md i (vs.zip us).length) (λh'=>?_) λh'=>?_
   ·exact h'
   ·rw[jA h'] at hz;injection hz
  have h1:i<vs.length:=hZ▸aM;have h2:i<us.length:=bz▸h1;rw[jB aM] at hz;injection hz with iI P8
  have hy:y=vs[i]:=by have:=congrArg EK iI;simpa using this
  have hx:x=us[i]:=by have:=congrArg EL iI;simpa using this
  subst hy hx;have hd:(bn vs.length).drop i=i::(bn vs.length).drop (i+1):=by simp[jB,h1]
  rw[hd,zO] at hR;refine ag (he i h1 h2 _ _ ?_);cases hy:e i with
  |true=>
   rw[hy] at hR
   wp_walk
   exact ⟨rfl,rfl,i+1,P8,by simpa using hR⟩
  |false=>
   rw[hy] at hR
   wp_walk
   exact cH _ rfl (λe=>nomatch e) (by simpa using hR)
 case fin=>
  rintro ⟨b1,b2⟩ s' ⟨iM,rfl,i,hz,hR⟩;simp only at iM;subst iM;have gI:vs.length<=i:=by
   refine cT (Md i (vs.zip us).length) (λh'=>?_) λh'=>?_
   ·rw[jB h'] at hz;injection hz
   ·exact hZ▸h'
  rw[jA (by simpa using gI)] at hR
  wp_walk
  exact cH _ rfl (λe=>nomatch e) (by simpa[Ad4,bz] using hR)
 case h=>
  exact ⟨rfl,rfl,0,rfl,by simpa using h⟩
end
section
variable{Γ:Gam}{ρ:List Addr}{H:List AO}
theorem mA{s:Shared}{b:Bool}:SLe s s/\VRep ρ s.heap (.bool b) (.bool b):=⟨.refl _,rfl⟩
theorem HR{s:Shared}{b:Bool}:SLe s {s with toks:=s.toks+1}/\VRep ρ s.heap (.bool b) (.bool b):=⟨.tok _ _,rfl⟩
theorem HS{h:Heap}{a:AV}{b:Bool}{v:Value}(e:isNone a=some b)(x:VRep ρ h a v):(v==.none)=b:=by
 induction a using AV.casesOn
 case none=>cases (show v=_ from x);cases (e);rfl
 case bool=>cases (show v=_ from x);cases (e);rfl
 case int=>refine e11 x ?_;clear x;intro t aC;subst aC;cases (e);rfl
 case str=>refine e11 x ?_;clear x;intro t aI;subst aI;cases (e);rfl
 case fn=>injection e
 case typ=>injection e
 case bi=>injection e
 all_goals refine e11 x ?_;clear x;intro a x
 case tup=>refine e22 x ?_;clear x;intro _ _ aS _;subst aS;cases (e);rfl
 case loc=>refine e02 x ?_;clear x;intro be _;subst be;cases (e);rfl
 case rng=>refine e32 x ?_;clear x;intro _ _ _ bw _;subst bw;cases (e);rfl
 case nxt=>refine e12 x ?_;clear x;intro _ bA _;subst bA;cases (e);rfl
 case vw=>refine e12 x ?_;clear x;intro _ bN _;subst bN;cases (e);rfl
theorem T4{a b:AV}{r:Bool}{v u:Value}{A:Around}{s:Shared}(e:eqF H a b=some r)(S:SimH Γ ρ H s)(x:VRep ρ s.heap a v)(y:VRep ρ s.heap b u)(R:Room 0 A){E:Value->Shared->Prop}{Q:Value->Shared->Prop}(h:Q (.bool r) s) :
  aj (av Γ.prog Γ.w) A (wV .Eq v u) Q E s:=by
 refine (EI.mp e).elim (λhe=>(sB 8 a b r v u A s he S x y (R.u0 (by decide))).2 _ _ E Q h) λq=>?_;refine e12 (ey q.2) ?_;clear e;intro l e1 e;refine e12 (ey e) ?_;clear e;intro m e2 e;rw[Cu e1] at x;rw[Cu e2] at y;refine e33 x ?_;clear x e1;intro p vs k e1 g rx;refine e33 y ?_;clear y q e2;intro q us k' e2 g' ry;refine e12 (T1 (A:=A.in1) S (by have:=R.u0 (n:=21) (by decide);simp;omega) _ _ vs us r e rx ry) λf hf ha=>?_;rw[e1,e2];exact T3 g g' (by erw[rx.length,ry.length,T2 e]) hf R.u (by erw[ha];exact h)
theorem HRep.setA{h:Heap}(x:HRep Γ ρ h H){n:Nat}{l:List Cps}(e:H[n]?=some (.set l)){a:Addr}(ha:ρ[n]?=some a):∃S,h.SetOf (mM Γ.prog Γ.w) a S l.length/\∀x,S x=decide (x∈l.map ao):=x.obj n _ a e ha
theorem HT{c:Cps}{l:List Cps}:decide (ao c∈l.map ao)=l.contains c:=by
 erw[i4];simp only[decide_eq_true_eq,bo,zU];constructor
 ·rintro ⟨x,hx,e⟩;erw[<- m5 e];exact hx
 ·intro hx;exact aB c hx rfl
theorem HU{A:Around}(R:Room 0 A):A.in1.units+8<fO:=by have:=R.u0 (n:=9) (by decide);simp;omega
theorem MemP.of{a:AV}{n:Nat}{Q:Bool->Prop}(h:inW a H H[n]? Q):∃r,CmpP Γ .In a (.loc n) H r/\Q r:=by
 cases hn:H[n]? with
 |none=>rw[hn] at h;exact h.elim
 |some o=>
  rw[hn] at h;induction o using AO.casesOn
  case list l=>
   refine e12 (c7 h) λr h1 h2=>?_;refine aB r (λA s ρ v u R S x q7=>e12 q7 λp y hp=>?_) h2;clear q7;subst y;refine e22 (S.hp.list hn hp) λvs k g rx=>?_;refine e12 (HP (A:=A.in1) S (HU R) x h1 rx) λe he ha=>?_;exact Pr.sle S (SeqAt.in_listAt e (dk g) he (by erw[ha];exact mA))
  case set l=>
   refine e12 (jW h) λc ch h2=>?_;subst ch;refine aB _ (λA s ρ v u R S q7 q8=>e11 q7 λt x=>e12 q8 λp y hp=>?_) h2;clear q7;subst x y;refine e12 (S.hp.setA hn hp) λF hF hm=>?_;exact Pr.sle S (wpAny_inSet_of (pp _ _ _ _) rfl hF (by erw[hm,HT];exact HR))
  case dict l e=>
   refine e12 (jW h) λc cg h2=>?_;subst cg;refine aB _ (λA s ρ v u R S q7 q8=>e11 q7 λt x=>e12 q8 λp y hp=>?_) h2;clear q7;subst x y;refine e22 (S.hp.dict hn hp) λaQ ep d rd=>?_;exact Pr.sle S (wpAny_in_of (pp _ _ _ _) (S.hp.mods hp) d.dictOf.mapOf (by erw[rd.any];exact HR))
  all_goals exact h.elim
theorem CmpP.of{op:CmpOp}{a b:AV}{Q:Bool->Prop}(h:fW op a b H Q):∃r,CmpP Γ op a b H r/\Q r:=by
 induction op using Ad5
 case Eq=>
  refine e12 (c7 h) λr h1 h2=>?_;exact aB r (λA s ρ v u R S x y=>Pr.sle S (T4 h1 S x y R mA)) h2
 case NotEq=>
  refine e12 (c7 h) λr h1 h2=>?_;exact aB _ (λA s ρ v u R S x y=>Pr.sle S (TX h1 S x y (R.u0 (by decide)) _ _ _ _ mA)) h2
 case Lt=>
  refine e12 (fV h) ?_;clear h;intro x cm h;subst cm;refine e12 (fV h) ?_;clear h;intro y cW h;subst cW;exact aB _ (λA s ρ v u R S q7 q8=>e11 q7 λzz x=>e11 q8 λzz y=>by clear q7;subst x y;exact Pr.sle S (Me mA)) h
 case LtE=>
  refine e12 (fV h) ?_;clear h;intro x d0 h;subst d0;refine e12 (fV h) ?_;clear h;intro y d5 h;subst d5;exact aB _ (λA s ρ v u R S q7 q8=>e11 q7 λzz x=>e11 q8 λzz y=>by clear q7;subst x y;exact Pr.sle S (Ad6 mA)) h
 case Gt=>
  refine e12 (fV h) ?_;clear h;intro x dJ h;subst dJ;refine e12 (fV h) ?_;clear h;intro y dY h;subst dY;exact aB _ (λA s ρ v u R S q7 q8=>e11 q7 λzz x=>e11 q8 λzz y=>by clear q7;subst x y;exact Pr.sle S (Mf mA)) h
 case GtE=>
  refine e12 (fV h) ?_;clear h;intro x eT h;subst eT;refine e12 (fV h) ?_;clear h;intro y eS h;subst eS;exact aB _ (λA s ρ v u R S q7 q8=>e11 q7 λzz x=>e11 q8 λzz y=>by clear q7;subst x y;exact Pr.sle S (Ad7 mA)) h
 case Is=>
  refine e02 h ?_;clear h;intro hG h;subst hG;refine e12 (c7 h) λr h1 h2=>?_;exact aB r (λA s ρ v u R S x y=>by cases (show u=_ from y);exact Pr.sle S (Ad8 (by erw[HS h1 x];exact mA))) h2
 case IsNot=>
  refine e02 h ?_;clear h;intro fw h;subst fw;refine e12 (c7 h) λr h1 h2=>?_;exact aB _ (λA s ρ v u R S x y=>by cases (show u=_ from y);exact Pr.sle S (PySem.isNot_none (by erw[HS h1 x];exact mA))) h2
 case In=>
  refine e12 (jX h) ?_;clear h;intro n fA h;subst fA;exact MemP.of h
 case NotIn=>
  refine e12 (jX h) ?_;clear h;intro n iH h;subst iH;refine e12 (iS h) ?_;clear h;intro l hn h;refine e12 (c7 h) λr h1 h2=>?_;refine aB _ (λA s ρ v u R S x q7=>e12 q7 λp y hp=>?_) h2;clear q7;subst y;refine e22 (S.hp.list hn hp) λvs k g rx=>?_;refine e12 (HP (A:=A.in1) S (HU R) x h1 rx) λe he ha=>?_;exact Pr.sle S (SeqAt.notIn_listAt e (dk g) he (by erw[ha];exact mA))
end
theorem HV{α:Type}(l:List α):∀(n a:Nat),((bn n).map (λk=>a+k)).filterMap (l[·]?)=(l.drop a).take n:=λn=>by
 induction n with
 |zero=>
  intro a;simp
 |succ n ih=>
  intro a;erw[wz,bX,ca];have e:((λk=>a+k)∘nG)=λk=>(a+1)+k:=by funext k;simp;exact jy (gC _ _ _)
  erw[e];by_cases h:a<l.length
  ·erw[EM (b:=l[a]) (by simp[h]),ih (a+1)];erw[jB h,zV]
  ·erw[EN (by simp;exact (d8 h)),ih (a+1)];erw[jA (bk (wC h)),jA (d8 h)];simp
theorem T5(a b:Nat):AN (a:Int) (b:Int) 1=(bn (b-a)).map λk=>a+k:=by
 unfold AN;have h1:(1:Int) > 0:=by decide
 simp only[h1,if_true];have e:(if (a:Int)<(b:Int) then ((b:Int)-a+1-1) / 1 else 0).toNat=b-a:=by
  split
  ·erw[zW,EO];exact Mg b a
  ·rename_i h;exact (EP (uL (iN h))).symm
 erw[e];refine eq λk zz=>?_;exact congrArg (λz=>zX (_+z)) (EQ _)
theorem HW(v:Option Int)(n:Nat):eH v n=v.elim 0 (jh n):=by induction v using dF<;>rfl
theorem HX(v:Option Int)(n:Nat):jF v n=v.elim n (jh n):=by induction v using dF<;>rfl
theorem HY(n:Nat)(x:Int):jh n x<=n:=by
 unfold jh;split
 ·exact gb _ _
 ·exact rf _ _
theorem yf{α:Type}(l:List α)(lo hi:Option Int):bh l lo hi=(l.drop (eH lo l.length)).take (jF hi l.length-eH lo l.length):=by
 erw[HW,HX];rfl
theorem HZ(v:Option Int)(n:Nat):eH v n<=n:=by
 erw[HW];induction v using dF with
 |none=>exact bW _
 |some x=>exact HY n x
theorem H0(v:Option Int)(n:Nat):jF v n<=n:=by
 erw[HX];induction v using dF with
 |none=>exact aq _
 |some x=>exact HY n x
theorem T6(s:Cps)(lo hi:Option Int):ER (ao s) lo hi=ao (bh s lo hi):=by
 have e:Ad9 lo hi 1 (ao s).length=AN (w6 lo hi none (ao s).length).1 (w6 lo hi none (ao s).length).2.1 1:=by
  induction lo using dF<;>induction hi using dF<;>rfl
 rw[dO,kms_bounds] at e;unfold ER;erw[dO,e,T5];have pick:=HV s (jF hi s.length-eH lo s.length) (eH lo s.length);split
 ·rename_i h;simp only[beq_self_eq_true,Ey,aK,iy,beq_iff_eq] at h;have h1:=H0 hi s.length;have h2:=HZ lo s.length;erw[yf];by_cases h0:s.length=0
  ·have:s=[]:=l6.mp h0;clear h1 e h2 pick h h0;subst this;simp
  ·have:eH lo s.length=0:=by lia
   rw[this] at h ⊢;erw[h];simp
 ·erw[yf,<- pick];congr 1;simp[ao]
section
variable{Γ:Gam}{ρ:List Addr}{H:List AO}
theorem VReps.cut{h:Heap}{ds:List AV}{vs:List Value}(r:VReps ρ h ds vs)(lo hi:Option Int):VReps ρ h (bh ds lo hi) (bh vs lo hi):=by
 unfold bh;erw[r.length];exact (r.drop _).take _
theorem qo{h:Heap}{d:AV}{o:Option Int}{v:Value}(e:eA d=some o)(x:VRep ρ h d v):AU v o:=by
 unfold eA at e;split at e
 ·(injection e with aC;subst aC);cases (show v=_ from x);exact .none
 ·split at e
  ·(injection e with aI;subst aI);refine e11 x ?_;clear x;intro t aS;subst aS;exact .int _ _
  ·injection e
 ·injection e
theorem VReps.pick{h:Heap}{ds:List AV}{vs:List Value}(r:VReps ρ h ds vs):∀is:List Nat,VReps ρ h (is.filterMap (ds[·]?)) (is.filterMap (vs[·]?)):=λis=>by
 induction is with
 |nil=>
  exact rfl
 |cons i is ih=>
  cases hd:ds[i]? with
  |none=>
   have hv:vs[i]?=none:=qV (r.length.symm▸Mh.mp hd);erw[EN hd,EN hv];exact ih
  |some d=>
   refine e12 (r.get hd) λv hv x=>?_;erw[EM hd,EM hv];exact fk v _ rfl x ih
theorem T7{n:Nat}{i:Int}{j:Nat}(h:cZ n i=some j):seqIndex? i n=some j/\j<n:=by
 unfold cZ at h;unfold seqIndex?;split at h
 ·rename_i h0;split at h
  ·rename_i h1
   (injection h with be;subst be)
   have:¬ i<0:=λq=>Mi h0 q;simp only[this,if_false];have h2:(decide (0<=i)&&decide (i<(n:Int)))=true:=by simp[h0,h1]
   erw[if_pos h2];exact ⟨rfl,by exact (Mj h0).mpr h1⟩
  ·injection h
 ·rename_i h0;split at h
  ·rename_i h1
   (injection h with bw;subst bw)
   have:i<0:=Mk h0;simp only[this,if_true];have h2:(decide (0<=i+n)&&decide (i+n<(n:Int)))=true:=by simp[h1];lia
   erw[if_pos h2];exact ⟨rfl,by lia⟩
  ·injection h
noncomputable def oB:aY->Option (Option aY × Option aY × Option aY)
 |.Slice lo hi st _=>some (lo,hi,st)
 |_=>none
theorem CH{slice:aY}(h:oB slice=none)(o i:Value):subscripted slice false o i=operate [o,i] (tP o i):=by
 induction slice using fL<;>first|rfl|injection h
theorem SubP.list{value slice:aY}(hs:oB slice=none){n:Nat}{l:List AV}{i:Int}{r:AV}(hn:H[n]?=some (.list l))(hb:inB i=true)(h:((cZ l.length i).bind λj=>l[j]?)=some r):SubP Γ value slice (.loc n) (.int i) H r H:=λA s ρ v u R S q7 q8=>e12 q7 λa x ha=>e11 q8 λt y=>by
 clear q7;subst x y;refine Pr.sle S ?_;have b:=HQ hb;refine e22 (S.hp.list hn ha) λvs k g rx=>?_;refine e12 (tm.mp h) λj hj hr=>?_;refine e12 (rx.get hr) λw e1 e2=>?_;have hl:=dk g;refine FM hl.typeIs slot_list_getitem.lookup ?_ (CH hs _ _);unfold cZ at hj;by_cases h0:0<=i
 ·rw[if_pos h0] at hj;by_cases h1:i<l.length
  ·rw[if_pos h1] at hj
   (injection hj with bA;subst bA)
   exact wpAny_getItem_list hl h0 (bH b.2 ngI) ((pa ..).trans e1) ⟨.refl _,e2⟩
  ·rw[if_neg h1] at hj;injection hj
 ·rw[if_neg h0] at hj;by_cases h1:0<=i+l.length
  ·rw[if_pos h1] at hj
   (injection hj with bN;subst bN)
   exact wpAny_getItem_list_neg hl (Mk h0) (by erw[dE,rx.length];lia) (by lia) (by erw[dE,rx.length];exact (pa ..).trans e1) ⟨.refl _,e2⟩
  ·rw[if_neg h1] at hj;injection hj
theorem SubP.of{value slice:aY}{d i:AV}{P:AV->Prop}(hs:oB slice=none)(h:vp d i H P):∃r,SubP Γ value slice d i H r H/\P r:=by
 induction d using AV.casesOn
 case tup l=>
  refine e13 (fV h) ?_;clear h;intro z ch hb h;subst ch;refine e12 (c7 h) ?_;clear h;intro r h hP;refine aB r (λA s ρ v u R S q7 q8=>e33 q7 λa vs k x g rx=>e11 q8 λt y=>?_) hP;clear q7;subst x y;refine e12 (tm.mp h) λj hj hr=>?_;refine e02 (T7 hj) λh1 h2=>?_;refine e12 (rx.get hr) λw e1 e2=>?_;have b:=HQ hb;exact Pr.sle S (item_tupleT (l:=vs) ⟨_,g,rfl,k,rfl⟩ (bH ngI b.1) (bH b.2 ngI) (by erw[rx.length];exact h1) e1 ⟨.refl _,e2⟩ (CH hs _ _))
 case loc n=>
  induction i using AV.casesOn
  case int z=>
   refine e02 h ?_;clear h;intro hb h;refine e12 (iS h) ?_;clear h;intro l hn h;refine e12 (c7 h) ?_;clear h;intro r h hP;exact aB r (SubP.list hs hn hb h) hP
  case str c=>
   refine e22 (sx h) ?_;clear h;intro es e hn h;refine e12 (c7 h) ?_;clear h;intro r h hP;refine aB r (λA s ρ v u R S q7 q8=>e12 q7 λa x ha=>e11 q8 λt y=>?_) hP;clear q7;subst x y;refine e22 (S.hp.dict hn ha) λaQ ep d rd=>?_;refine e12 ((DReps.at rd).1 _ h) λw e1 e2=>?_;exact Pr.sle S (FM d.dictOf.typeIs PySem.F.slot_dict_getitem.lookup (wpAny_getItem_of (pp _ _ _ _) d.dictOf.mapOf e1 ⟨.tok _ _,e2⟩) (CH hs _ _))
  all_goals exact h.elim
 all_goals exact h.elim
noncomputable def SliP(Γ:Gam)(d l h k:AV)(H:List AO)(r:AV)(H':List AO):Prop :=
 ∀A s ρ v vl vu vs,Room 0 A->SimH Γ ρ H s->VRep ρ s.heap d v->VRep ρ s.heap l vl->VRep ρ s.heap h vu->VRep ρ s.heap k vs ->
  aj (av Γ.prog Γ.w) A (tP v (.ref s.heap.objs.size)) (λu s'=>∃ae,Step (frs A) [] ρ ae s.heap s'.heap/\SimH Γ ae H' s'/\VRep ae s'.heap r u) (λzz zz=>False) {s with heap:=s.heap.push {cls:=.type "slice",data:=.fields #[vl,vu,vs]}}
theorem H1{x:Int}{n:Nat}(h:x<0):max (x+n) 0=((n-(-x).toNat:Nat):Int):=by lia
theorem H3{x:Int}{n:Nat}(h:¬ x<0):min x n=((min x.toNat n:Nat):Int):=by lia
theorem T8{A:Around}{s:Shared}{E:Value->Shared->Prop}{t sl:Addr}{items:Array Value}{vl vu:Value}{lo hi:Option Int}{Q:Value->Shared->Prop}(ht:IsTup s.heap t items)(hs:s.heap.IsSliceOf sl vl vu .none)(pl:AU vl lo)(pu:AU vu hi)
  (h1:bh items.toList lo hi=items.toList->Q (.ref t) s) (h2:Q (.ref s.heap.objs.size) {s with heap:=s.heap.push {cls:=.type "tuple",data:=.seq (bh items.toList lo hi).toArray}})
  (bz:items.size<=g5):aj (av Γ.prog Γ.w) A (tP (.ref t) (.ref sl)) Q E s:=by
 refine e13 (id hs) λos pM Bt fS=>?_;have Pf:s.TypeIs (.ref sl) "slice":=⟨os,pM,Bt⟩;have part:∀{v:Value} {o:Option Int} {Q:Option Int->Shared->Prop},AU v o->Q o s->aj (av Γ.prog Γ.w) A.in1 (Aea v) Q E s:=λp hq=>by
  cases p with
  |none=>exact Oc hq
  |int i t=>exact slicePart_int hq
 have OE:Ml lo hi 1 (items.size:Int)=(((eH lo items.size:Nat):Int),((jF hi items.size:Nat):Int)):=by
  unfold Ml;have h1:¬ ((1:Int)<0):=λq=>wB (uL q) (bL rfl);simp only[h1,if_false];refine Prod.ext ?_ ?_
  ·induction lo using dF with
   |none=>rfl
   |some x=>
    simp only[eH];split<;>first|exact H1 (by assumption)|exact H3 (by assumption)
  ·induction hi using dF with
   |none=>rfl
   |some x=>
    simp only[jF];split<;>first|exact H1 (by assumption)|exact H3 (by assumption)
 have mS:ES ((eH lo items.size:Nat):Int) ((jF hi items.size:Nat):Int) 1=jF hi items.size-eH lo items.size:=by
  unfold ES;have h1:(1:Int) > 0:=dw _;simp only[h1,if_true,zW];split
  ·erw[Int.sub_add_cancel];exact Mg ..
  ·rename_i h;exact (EP (uL (iN h))).symm
 have B6:bh items.toList lo hi=(items.toList.drop (eH lo items.size)).take (jF hi items.size-eH lo items.size):=by erw[yf,ET]
 have uM:=HZ lo items.size;have hhi:=H0 hi items.size;have PZ:sizeOk (.seq (bh items.toList lo hi).toArray):=by
  show (bh items.toList lo hi).toArray.size<=g5;erw[dE,B6,i5,tv,ET];exact ah (rf _ _) (ah (gb _ _) bz)
 unfold tP
 try exists cu
 first|refine ag (am ?_)|skip
 refine ag (Od ht.typeIs (by decide) ?_);refine ag (tQ (name:=l8 "__getitem__") ht.typeIs FN
  (mh FN ht.typeIs entry_tuple_getitem ?_ (args_tuple_getitem _ _)))
 show aj _ _ (Aeb (.ref t) >>= _) _ _ s;refine ag (tupleItemsOf_ ht ?_);refine ag (tR Pf ?_);erw[if_pos (by decide)];refine ag ?_;delta Aec Aed;refine ag (ag (mi pM fS (x:=vl) rfl (ag (mi pM fS (x:=vu) rfl (ag (mi pM fS (x:=.none) rfl (am ?_)))))));refine ag (Oc ?_);erw[if_neg (by decide)];refine ag (part pl (ag (part pu (ag (am ?_)))));erw[OE];show aj _ _ (pure (_,(1:Int),ES ((eH lo items.size:Nat):Int) ((jF hi items.size:Nat):Int) 1)) _ _ s;erw[mS];refine am ?_;have Ri:((bn (jF hi items.size-eH lo items.size)).filterMap λ(k:Nat)=>items[(((eH lo items.size:Nat):Int)+(k:Int)*1).toNat]?).toArray=(bh items.toList lo hi).toArray:=by
  erw[B6,<- HV,List.filterMap_map];congr 2;funext k;have:(((eH lo items.size:Nat):Int)+(k:Int)*1).toNat=eH lo items.size+k:=congrArg (λz=>zX (_+z)) (Int.mul_one _);erw[this];simp
 have made:aj (av Γ.prog Γ.w) A.in1 (do
   let t <- zY ((bn (jF hi items.size-eH lo items.size)).filterMap λ(k:Nat)=>items[(((eH lo items.size:Nat):Int)+(k:Int)*1).toNat]?).toArray
   ret t) (λfin s'=>∃v,fin=EU (EW v)/\Q v s') E s:=by
  erw[Ri];exact ag (m:=zY _) (gG (am ⟨_,rfl,h2⟩) PZ)
 have Qz:∀{t:Sem Fin},aj (av Γ.prog Γ.w) A.in1 t (λfin s'=>∃v,fin=EU (EW v)/\Q v s') E s->aj (av Γ.prog Γ.w) A.in1 t (λfin s'=>∃v,fin=EU (EW v)/\aj (av Γ.prog Γ.w) A (pure v) Q E s') E s:=λh=>
  ba h (λzz zz q7=>e12 q7 λv e q=>⟨v,e,am q⟩) λzz zz x=>x
 refine Qz ?_;show aj _ _ (if (((eH lo items.size:Nat):Int)==0&&(1:Int)==1&&(jF hi items.size-eH lo items.size)==items.size)=true then _ else _) _ _ s
 by_cases hc:(((eH lo items.size:Nat):Int)==0&&(1:Int)==1&&(jF hi items.size-eH lo items.size)==items.size)=true
 ·erw[if_pos hc];simp only[ie,beq_iff_eq] at hc;refine ag (ag (tR ht.typeIs (am ?_)));erw[if_pos (by decide)];refine ag (mf (am ⟨_,rfl,h1 ?_⟩));erw[B6,hc.2];have:eH lo items.size=0:=Mm hc.1.1;erw[this,nJ,l9 (aq _)]
 ·erw[if_neg hc];exact made
end
section
variable{Γ:Gam}{ρ:List Addr}{H:List AO}
theorem SliP.sle{A:Around}{s:Shared}{r:AV}{t:Sem Value}(ai:Shared)(S:SimH Γ ρ H s)(h:aj (av Γ.prog Γ.w) A t (λu s'=>SLe s s'/\VRep ρ s'.heap r u) (λzz zz=>False) ai) :
  aj (av Γ.prog Γ.w) A t (λu s'=>∃ae,Step (frs A) [] ρ ae s.heap s'.heap/\SimH Γ ae H s'/\VRep ae s'.heap r u) (λzz zz=>False) ai :=
 ba h (λzz zz q7=>e02 q7 λl q=>⟨ρ,l.step,l.h S,q⟩) λzz zz x=>x
theorem yg{M:me}{A:Around}{E:Value->Shared->Prop}{o i:Value}{Q:Value->Shared->Prop}{s:Shared}(h:ItemOn M A E o i Q s):aj M A (tP o i) Q E s:=let ⟨_,_,_,_,q⟩:=h;q
theorem yh(h₀:Heap):KeptH λh=>Le h₀ h/\h₀.objs.size<=h.objs.size:=λh ob q7=>e02 q7 λa b=>⟨a.trans (Le.push _ _),by simp;exact gE b⟩
theorem CI{α:Type}(l:List α)(lo hi:Option Int):(bh l lo hi).length<=l.length:=by
 unfold bh;erw[i5,tv];exact ah (rf _ _) (gb _ _)
theorem HRep.pin{h:Heap}(x:HRep Γ ρ h H){n:Nat}{l:List AV}(e:H[n]?=some (.pin l)){a:Addr}(ha:ρ[n]?=some a):∃o vs k,h.get? a=some o/\o.cls=.type "list"/\o.data=.seq vs k/\VReps ρ h l vs.toList:=by
 refine e34 (x.obj n _ a e ha) λo vs n q c d aC=>?_;refine e02 aC λr _=>?_;exact Hk o vs n q c d r
def GetT(Γ:Gam)(H:List AO)(d:AV):Prop:=∀ρ s v ob,SimH Γ ρ H s->VRep ρ s.heap d v->∃T id,Mn {s with heap:=s.heap.push ob} v T/\Slot T (l8 "__getitem__") id
theorem GetT.str{c:Cps}:GetT Γ H (.str c):=λρ s v ob S q7=>e11 q7 λt e=>by clear q7;subst e;exact bZ _ _ (AW _ _ _) PySem.F.slot_str_getitem
theorem GetT.tup{l:List AV}:GetT Γ H (.tup l):=λρ s v ob S q7=>e33 q7 λa ws n e g rx=>by clear q7;subst e;exact bZ _ _ ⟨_,du _ g,rfl⟩ FN
theorem GetT.list{n:Nat}{l:List AV}(hn:H[n]?=some (.list l)):GetT Γ H (.loc n):=λρ s v ob S q7=>e12 q7 λa e ha=>by
 clear q7;subst e;refine e22 (S.hp.list hn ha) λws j g rx=>?_;exact bZ _ _ ⟨_,du _ g,rfl⟩ slot_list_getitem
theorem GetT.pin{n:Nat}{l:List AV}(hn:H[n]?=some (.pin l)):GetT Γ H (.loc n):=λρ s v ob S q7=>e12 q7 λa e ha=>by
 clear q7;subst e;refine e34 (S.hp.pin hn ha) λo ws j g hc hd rx=>?_;exact bZ _ _ ⟨_,du _ g,hc⟩ slot_list_getitem
theorem yi{n:Nat}{lo hi:AV}{P:Option Int->Option Int->Prop}(h:vq n lo hi P):n<=100000/\∃l u,eA lo=some l/\eA hi=some u/\P l u:=by
 refine e02 h ?_;clear h;intro hz h;refine e12 (c7 h) ?_;clear h;intro l h1 h;refine e12 (c7 h) ?_;clear h;intro u h2 h;exact ⟨dm hz,l,u,h1,h2,h⟩
theorem sl_le{s:Shared}{o:Obj}:SLe s {s with heap:=s.heap.push o}:=.push s _ s.toks
theorem SliP.str{c:Cps}{l u:AV}{lo hi:Option Int}(hz:c.length<=100000)(el:eA l=some lo)(eu:eA u=some hi):SliP Γ (.str c) l u .none H (.str (bh c lo hi)) H:=λA s ρ v vl vu vs R S q7 xl xh xk=>e11 q7 λt x=>by
 cases (show vs=_ from xk);clear q7;subst x;have bz:(ao c).length<=g5:=by erw[dO];exact jk hz
 have P0:(λh=>Le s.heap h/\s.heap.objs.size<=h.objs.size) s.heap:=⟨.refl _,aq _⟩;have fin:∀h' t' k,(Le s.heap h'/\s.heap.objs.size<=h'.objs.size)->SLe s {s with heap:=h',toks:=k}/\VRep ρ h' (.str (bh c lo hi)) (.str (ER (ao c) lo hi) t'):=λh' t' k p=>⟨⟨p.1,p.2,rfl,rfl⟩,t',by erw[T6]⟩
 refine SliP.sle _ S ?_;cases qo el xl<;>cases qo eu xh
 ·exact yg (SBH.sliceItem_nn (yh _) P0 fin bz)
 ·exact yg (SBH.sliceItem_ns (yh _) P0 fin bz)
 ·exact yg (SBH.sliceItem_sn (yh _) P0 fin bz)
 ·exact yg (SBH.sliceItem_ss (yh _) P0 fin bz)
theorem SliP.tup{t:List AV}{l u:AV}{lo hi:Option Int}(hz:t.length<=100000)(el:eA l=some lo)(eu:eA u=some hi):SliP Γ (.tup t) l u .none H (.tup (bh t lo hi)) H:=λA s ρ v vl vu vs R S q7 xl xh xk=>e33 q7 λa ws n x g rx=>by
 cases (show vs=_ from xk);clear q7;subst x;refine SliP.sle _ S ?_;have g1:(s.heap.push {cls:=.type "slice",data:=.fields #[vl,vu,.none]}).get? a=some (m6 ws n):=du _ g;refine T8 (Γ:=Γ) (items:=ws.toArray) ⟨_,g1,rfl,n,rfl⟩ (EX ..) (qo el xl) (qo eu xh) (λhq=>⟨sl_le,a,ws,n,rfl,g1,?_⟩) ⟨sl_le.trans (.push _ _ _),_,bh ws lo hi,0,rfl,co _ rfl,?_⟩ (by erw[dE,rx.length];exact jk hz)
 ·have:=rx.cut lo hi;rw[show bh ws lo hi=ws from hq] at this;exact VReps.mono (.refl _) (Le.imm (Le.push _ _)) _ _ this
 ·exact VReps.mono (.refl _) ((Le.push _ _).imm.trans (Le.push _ _).imm) _ _ (rx.cut lo hi)
theorem H4{A:Around}{s:Shared}{ob:Obj}{ws:List Value}{t:List AV}(S:SimH Γ ρ H s)(rx:VReps ρ s.heap t ws) :
  ∃ae,Step (frs A) [] ρ ae s.heap ((s.heap.push ob).push {cls:=.type "list",data:=.seq ws.toArray})/\SimH Γ ae (H++[.list t]) {s with heap:=(s.heap.push ob).push {cls:=.type "list",data:=.seq ws.toArray}}/\VRep ae ((s.heap.push ob).push {cls:=.type "list",data:=.seq ws.toArray}) (.loc H.length) (.ref (s.heap.push ob).objs.size):=by
 have lI:SLe s {s with heap:=s.heap.push ob}:=sl_le
 refine e13 (CG (A:=A) (tk:=s.toks) (lI.h S) (VReps.mono (.refl _) lI.le.imm _ _ rx)) λae st S' rv=>?_;exact cH ae ((Step.of_le lI.le lI.size).trans st) S' rv
theorem SliP.seq{n:Nat}{t:List AV}{l u:AV}{lo hi:Option Int}(hz:t.length<=100000)(el:eA l=some lo)(eu:eA u=some hi)
  (get:∀{ρ s a},SimH Γ ρ H s->ρ[n]?=some a->∃o ws k,s.heap.get? a=some o/\o.cls=.type "list"/\o.data=.seq ws k/\VReps ρ s.heap t ws.toList):SliP Γ (.loc n) l u .none H (.loc H.length) (H++[.list (bh t lo hi)]):=λA s ρ v vl vu vs R S q7 xl xh xk=>e12 q7 λa x ha=>by
 cases (show vs=_ from xk);clear q7;subst x;refine e34 (get S ha) λob wa j g hc hd rx=>?_;have g1:(s.heap.push {cls:=.type "slice",data:=.fields #[vl,vu,.none]}).get? a=some ob:=du _ g;refine Oe ⟨ob,g1,hc,j,hd⟩ (EX ..) (qo el xl) (qo eu xh) .none (by decide) ?_ (by erw[<- ET,rx.length];exact jk hz);erw[kms_pick_eq,show kms_pick wa.toList lo hi=bh wa.toList lo hi from (yf ..).symm];exact H4 S (rx.cut lo hi)
theorem SliP.step{n:Nat}{t:List AV}{l:AV}{lo:Option Int}{k:Int}(hn:H[n]?=some (.list t))(hz:t.length<=100000)(hk:0<k/\k<=100)(el:eA l=some lo):SliP Γ (.loc n) l .none (.int k) H (.loc H.length) (H++[.list (ow t lo k)]):=λA s ρ v vl vu vs R S q7 xl xh q8=>e12 q7 λa x ha=>e11 q8 λtk xk=>by
 cases (show vu=_ from xh);clear q7;subst x xk;refine e22 (S.hp.list hn ha) λws j g rx=>?_;have g1:(s.heap.push {cls:=.type "slice",data:=.fields #[vl,.none,.int k tk]}).get? a=some (dj ws j):=du _ g;refine Oe (dk g1) (EX ..) (qo el xl) .none (.int k tk) (λq=>by (injection q with aI;subst aI);exact absurd hk.1 (by decide)) ?_ (by erw[dE,rx.length];exact jk hz)
 have g:(λ(x:Nat)=>ws.toArray[x]?)=λx=>ws[x]?:=funext λx=>pa ..;unfold slicePick;erw[g,dE,rx.length];exact H4 S (rx.pick _)
theorem SliP.of{d l h k:AV}{P:AV->List AO->Prop}(e:lP d l h k H P):GetT Γ H d/\∃r H',SliP Γ d l h k H r H'/\P r H':=by
 induction d using AV.casesOn
 case str=>
  refine e02 e ?_;clear e;intro aS e;subst aS;refine e02 (yi e) λhz be=>?_;refine e23 be ?_;clear e;intro _ _ e1 e2 e;exact ⟨.str,_,_,.str hz e1 e2,e⟩
 case tup=>
  refine e02 e ?_;clear e;intro bw e;subst bw;refine e02 (yi e) λhz bA=>?_;refine e23 bA ?_;clear e;intro _ _ e1 e2 e;exact ⟨.tup,_,_,.tup hz e1 e2,e⟩
 case loc n=>
  unfold lP at e;dsimp only at e;cases hn:H[n]? with
  |none=>rw[hn] at e;exact e.elim
  |some o=>
   rw[hn] at e;induction o using AO.casesOn
   case list t=>
    refine ⟨.list hn,?_⟩;induction k using AV.casesOn
    case none=>
     refine e02 (yi e) λhz bN=>?_;refine e23 bN ?_;clear e;intro _ _ e1 e2 e;exact bZ _ _ (.seq hz e1 e2 λS ha=>let ⟨_,_,g,rx⟩:=S.hp.list hn ha;⟨_,_,_,g,rfl,rfl,rx⟩) e
    case int k=>
     refine e03 e ?_;clear e;intro hz ch e;subst ch;refine e13 (c7 e) ?_;clear e;intro _ e1 hk e;exact bZ _ _ (.step hn (dm hz) hk e1) e
    all_goals exact e.elim
   case pin t=>
    refine e02 e ?_;clear e;intro cg e;subst cg;refine e02 (yi e) λhz cm=>?_;refine e23 cm ?_;clear e;intro _ _ e1 e2 e;exact ⟨.pin hn,_,_,.seq hz e1 e2 λS ha=>S.hp.pin hn ha,e⟩
   all_goals exact e.elim
 all_goals exact e.elim
variable{k:Nat}{cx:Cx}{σ σ₁ aw cJ mR:St}
def EvO(Γ:Gam)(k:Nat)(cx:Cx)(σ:St)(e:Option aY)(d:AV)(bE:St):Prop:=match e with
 |none=>d=.none/\bE=σ
 |some e=>Ev Γ k cx σ e d bE
theorem EvO.run{A:Around}{env:Env}{s:Shared}{e:Option aY}{d:AV}(h:EvO Γ k cx σ e d σ₁)(R:Room k A)(x:Sim Γ A.frames cx ρ σ env s):Rn Γ A (ownOf cx env) ρ s (valueOrNone (evalOpt e env)) λv ae s'=>Sim Γ A.frames cx ae σ₁ env s'/\VRep ae s'.heap d v:=by
 induction e using dF with
 |none=>refine e02 h ?_;clear h;intro cW d0;subst cW;subst d0;exact Rn.pure ⟨x,rfl⟩
 |some e=>exact h A env s ρ R x
theorem T9{value:aY}{lo hi st:Option aY}{pos p:Pos}{d l h t r:AV}{H':List AO}(h1:Ev Γ k cx σ value d σ₁)(h2:EvO Γ k cx σ₁ lo l aw)(h3:EvO Γ k cx aw hi h cJ)(h4:EvO Γ k cx cJ st t mR)
  (hT:GetT Γ mR.heap d) (hp:SliP Γ d l h t mR.heap r H'):Ev Γ k cx σ (.Subscript value (.Slice lo hi st p) pos) r ⟨mR.vars,H'⟩:=λA env s ρ R x=>by
 erw[N5];refine Rn.bind (h1 A env s ρ R x) λv az ai aV q7=>e02 q7 λap aU=>?_;erw[arm_eval_Slice];refine ag (cu ?_);refine ag (Rn.to (h2.run R ap) λvl aP ay aX q7=>e02 q7 λaH b6=>ag (cu (Rn.to (h3.run R aH) λvu dz bS cK q7=>e02 q7 λcD fR=>ag (cu (Rn.to (h4.run R cD) λvs ui cj lq q7=>e02 q7 λgk Bo=>?_)))));refine gG ?_ (by size_fits);have rv:=lq.vrep (cK.vrep (aX.vrep aU));have rl:=lq.vrep (cK.vrep b6);have rh:=lq.vrep fR;have Ph:=(aX.trans cK).trans lq;have main:=hp A cj ui v vl vu vs (R.le (bW _)) gk.h rv rl rh Bo;refine ag (gZ ?_);show aj _ _ (subscriptTail value (.Slice lo hi st p) v (.ref cj.heap.objs.size)) _ _ _;have hs:∀o i,∃gm,subscripted (.Slice lo hi st p) false o i=operate gm (tP o i):=λo i=>by
  induction st using dF
  ·exact ⟨_,rfl⟩
  ·exact ⟨_,rfl⟩
 refine e11 (hs v (.ref cj.heap.objs.size)) ?_;clear hs;intro gm hs;have Pp:=ba main (λu s' q7=>e13 q7 λae st S' rr=>(⟨ae,Ph.trans st.widen,gk.step (X:=[]) st (by simp) S',rr⟩:∃ae,Step (frs A) (ownOf cx env) az ae ai.heap s'.heap/\Sim Γ A.frames cx ae ⟨mR.vars,H'⟩ env s'/\VRep ae s'.heap r u)) λzz zz q=>q;obtain ⟨T,id,h1,h2⟩:=hT _ _ _ _ gk.h rv;exact FM h1 h2.lookup Pp hs
end
end Mine
open PySem.Builtin.Str (subAt strSub)
namespace Mine
theorem yj(sep:Cps):∀l:List Cps,Str.join (ao sep) (l.map ao)=ao (bq sep l)
 |[]=>rfl
 |[x]=>rfl
 |x::y::r=>by
  have ih:=yj sep (y::r);show ao x++ao sep++Str.join (ao sep) ((y::r).map ao)=_;rw[ih,ye,ye];rfl
theorem z64(c:Nat):∀s:Cps,bF c s≠[]:=λs=>by
 induction s with
 |nil=>
  simp[bF]
 |cons x r ih=>
  unfold bF;split
  ·simp
  ·split<;>simp
theorem Ua(c:Nat):∀(p:Cps) (r:Cps),c∉p->bF c (p++c::r)=p::bF c r:=λp=>by
 induction p with
 |nil=>
  intro r _;simp[bF]
 |cons x p ih=>
  intro r h;have hx:¬ x=c:=λe=>h (by simp[e]);have ih:=ih r (λq=>h (by simp[q]));show bF c (x::(p++c::r))=_;erw[bF,if_neg hx,ih]
theorem Ub(c:Nat):∀(p:Cps),c∉p->bF c p=[p]:=λp=>by
 induction p with
 |nil=>exact λ_=>rfl
 |cons x p ih=>
  intro h;have hx:¬ x=c:=λe=>h (by simp[e]);erw[bF,if_neg hx,ih (λq=>h (by simp[q]))]
theorem H5(c:Nat):∀(l:List Cps),l≠[]->(∀p∈l,c∉p)->bF c (bq [c] l)=l
 |[],h,_=>absurd rfl h
 |[x],_,h=>Ub c x (h x (by simp))
 |x::y::r,_,h=>by
  show bF c (x++[c]++bq [c] (y::r))=_;erw[bD,List.singleton_append,Ua c x _ (h x (by simp)),H5 c (y::r) (by simp) (λp hp=>h p (by simp at hp ⊢;exact .inr hp))]
theorem H6(s:Str):ao s.cps.toList=s:=by simp[ao]
theorem mB(s:Cps):(ao s).cps.toList=s:=rfl
theorem Uc(s:Cps)(c:Nat):zZ (ao s) (ao [c])=(bF c s).map ao:=by
 have h1:=StrLaws.join_split (ao s) (ao [c]);have h2:=StrLaws.split_free (ao s) c;have bB:zZ (ao s) (ao [c])≠[]:=by
  have:=split_pos (ao s) (ao [c]);intro e;rw[e] at this;simp at this
 generalize e:zZ (ao s) (ao [c])=ps at *;have e0:(⟨#[c]⟩:Str)=ao [c]:=rfl;rw[e0,e] at h2;have jM:ps=(ps.map λp=>p.cps.toList).map ao:=by
  erw[ca];conv=>lhs;erw[<- EY ps]
  exact eq λp _=>(H6 p).symm
 rw[jM,yj] at h1;erw[<- m5 h1,H5 c _ (by simpa using bB) (λp hp=>by
  refine e12 (bo.mp hp) λq hq aC=>?_;subst aC;exact h2 q hq)]
 exact jM
theorem H8(s p:Cps):EZ (ao s) (ao p)=eg p s:=by
 unfold EZ;erw[z6,dO,dO,mB,mB];simp only[nJ,i0];induction p generalizing s with
 |nil=>simp[eg]
 |cons a p ih=>
  induction s using bI with
  |nil=>simp[eg]
  |cons b s=>
   have:=ih s;simp only[bC,zV,eg];by_cases kB:a=b
   ·subst kB;erw[<- this];simp
   ·have h1:(b==a)=false:=beq_eq_false_iff_ne.mpr (λe=>kB e.symm);have h2:(a==b)=false:=beq_eq_false_iff_ne.mpr kB;simp[h1,h2]
theorem Ud(s p:Cps):Mo (ao s) (ao p)=eg p.reverse s.reverse:=by
 erw[<- H8];unfold EZ Mo;erw[z6,z6,dO,dO,dO,dO,mB,mB,mB,mB];simp only[z7,i0,nJ];by_cases h:p.length<=s.length
 ·simp only[h,decide_true,Ey];erw[l9 (by simp;exact Nat.sub_le_iff_le_add'.mp (aq _))];erw[List.take_reverse,i4];simp[List.reverse_inj]
 ·simp[h]
theorem Ue(s:Cps)(c:Nat):Mp (ao s) (ao [c])=ao (qk c s):=by
 unfold Mp;erw[Aee];have uM:stripLo (ao [c]).cps.contains false (ao s)=0:=rfl;erw[uM];unfold qk;have hg:(ao [c]).cps.contains=λx=>x==c:=by funext x;simp[ao];rfl
 erw[hg];unfold stripHi;simp only[if_true,mB,nJ,dO];show strSub _ _ _=_;have:(strSub (ao s) 0 (s.length-(s.reverse.takeWhile (·==c)).length)).cps.toList=(s.reverse.dropWhile (·==c)).reverse:=by
  erw[StrLaws.strSub_toList,mB];simp only[nJ,z8];have h:=List.takeWhile_append_dropWhile (p:=(·==c)) (l:=s.reverse);have h2:s=(s.reverse.dropWhile (·==c)).reverse++(s.reverse.takeWhile (·==c)).reverse:=by
   erw[<- Mq,h,Mr]
  have h3:s.length=(s.reverse.dropWhile (·==c)).length+(s.reverse.takeWhile (·==c)).length:=by
   have:=congrArg b9 h2;simpa using this
  erw[h3,E0]
  conv=>lhs;erw[h2]
  erw[Ms (by simp),l9 (by simp)]
 erw[<- this,H6]
theorem CJ(s:Cps)(c i:Nat):Mt (ao s) (ao [c]) (ao s).length i↔s[i]?=some c:=by
 unfold Mt;erw[z6,dO,dO,mB,mB];simp only[eR,beq_iff_eq];constructor
 ·rintro ⟨h1,h2⟩;have:i<s.length:=h1;rw[jB this,zV,E1] at h2;erw[eE this];injection h2 with h2 _;erw[h2]
 ·intro h;refine e11 (ei.mp h) λh1 h2=>?_;refine ⟨h1,?_⟩;erw[jB h1,h2];simp
theorem Uf(s:Cps)(c:Nat):Txt.rfind (ao s) (ao [c])=iq c s:=by
 unfold iq;rcases rfind_whole (ao s) (ao [c]) with ⟨e,h⟩|⟨i,e,h,hn⟩
 ·erw[e];have:c∉s:=λhc=>by
   refine e11 (List.getElem?_of_mem hc) λi hi=>?_;exact h i ((CJ s c i).mpr hi)
  have h2:s.reverse.findIdx (·==c)=s.reverse.length:=by
   erw[List.findIdx_eq_length];intro x hx;exact beq_eq_false_iff_ne.mpr λe=>this (by clear this h;subst e;simpa using hx)
  erw[h2,z7,Ep,El,<- Ep,Int.sub_self];rfl
 ·erw[e];have hi:=(CJ s c i).mp h;refine e11 (ei.mp hi) λh1 h2=>?_;have hl:∀j,s.length-1-j<s.length:=λj=>zJ (gb _ _) (E2 (gF (Mu h1)));have h3:s.reverse.findIdx (·==c)=s.length-1-i:=by
   erw[List.findIdx_eq (by erw[z7];exact hl i)];refine ⟨?_,λj hj=>?_⟩
   ·erw[Mv];have:s.length-1-(s.length-1-i)=i:=Mw (Mx h1);simp only[this,h2,beq_self_eq_true]
   ·erw[Mv];refine beq_eq_false_iff_ne.mpr λe=>hn (s.length-1-j) (Nat.lt_sub_of_add_lt (nF j i▸Nat.add_lt_of_lt_sub hj)) ((CJ s c _).mpr ?_);erw[eE (hl j),e]
  erw[h3,rg (Mx h1),rg (Nat.succ_le_of_lt (Mu h1))];exact (Int.sub_sub_self _ _).symm
section
variable{Γ:Gam}{ρ:List Addr}{H:List AO}
theorem Pr.keeps{A:Around}{s:Shared}{t:Sem Value}{d:AV}(x:SimH Γ ρ H s)(h:aj (av Γ.prog Γ.w) A t (λv s'=>(Le s.heap s'.heap/\s'.gens=s.gens/\s'.os=s.os)/\VRep ρ s'.heap d v) (λzz zz=>False) s):Pr Γ A ρ s t H d:=by
 refine Pr.sle x (ba (jT h) (λv s' q7=>e03 q7 λhs l r=>⟨⟨l.1,hs,l.2.1,l.2.2⟩,r⟩) λzz zz q=>q.2)
theorem m9{F:List Addr}{s s':Shared}(S:SimH Γ ρ H s){n:Nat}{a:Addr}{o':AO}(ha:ρ[n]?=some a)(oh:∀l,H[n]?≠some (.pin l))(aW:fK a s.heap s'.heap)(hg:s'.gens=s.gens)(ho:s'.os=s.os)(hn:∀o,s.heap.get? a=some o->¬ cz o)(r:ORep Γ ρ s'.heap o' a) :
  Step F [] ρ ρ s.heap s'.heap/\SimH Γ ρ (H.set n o') s':=by
 refine ⟨.obj aW hn (lZ ha),⟨λb o e=>?_,hg.trans S.gens,ho.trans S.os,S.hp.set ha (S.hp.off n a ha oh) (gr aW hn) (λb hb o e=>(aW.2 b hb).trans e) r⟩⟩;have:b≠a:=by
  rintro rfl;rw[S.hp.off n b ha oh] at e;injection e
 exact (aW.2 b this).trans (S.base b o e)
theorem CL{F:List Addr}{s:Shared}{h':Heap}{tk:Nat}(S:SimH Γ ρ H s){n:Nat}{a:Addr}{vs ws:List Value}{k k':Nat}{l':List AV}(ha:ρ[n]?=some a)(oh:∀l,H[n]?≠some (.pin l))(g:s.heap.get? a=some (dj vs k))(aW:fK a s.heap h')(g':h'.get? a=some (dj ws k'))(r:VReps ρ s.heap l' ws) :
  ∃ae,Step F [] ρ ae s.heap h'/\SimH Γ ae (H.set n (.list l')) {s with heap:=h',toks:=tk}:=by
 have hn:∀o,s.heap.get? a=some o->¬ cz o:=λo e=>by
  rw[g] at e;(injection e with aC;subst aC);intro i;exact absurd (show (nH "list")=.type "tuple" from i) (by decide)
 obtain ⟨st,S'⟩:=m9 (s':={s with heap:=h',toks:=tk}) (o':=.list l') S ha oh aW rfl rfl hn ⟨ws,k',g',VReps.mono (.refl _) (gr aW hn) _ _ r⟩
 exact aB ρ st S'
theorem Ug(vs:List Value)(n:Nat)(f:Array Value->Array Value):∃m,ma f (dj vs n)=dj (f vs.toArray).toList m:=by
 unfold ma;simp only[Array.toArray_toList];exact ⟨_,rfl⟩
theorem CM{h:Heap}{a:Addr}{vs:List Value}{n:Nat}(g:h.get? a=some (dj vs n))(f:Array Value->Array Value):fK a h (h.update a (ma f))/\∃m,(h.update a (ma f)).get? a=some (dj (f vs.toArray).toList m):=by
 refine e11 (Ug vs n f) λm e=>?_;exact ⟨mc ..,m,(gY _ g (by erw[e];rfl)).trans (by erw[e])⟩
theorem CN{h:Heap}:∀{l:List AV} {xs:List Cps} {vs:List Value},gM l=some xs->VReps ρ h l vs->∃ps:List (Str × Tok),vs=cG ps/\ps.map (·.1)=xs.map ao:=λ{l}=>by
 induction l with
 |nil=>
  intro xs vs e x
  (injection e with aI;subst aI);cases (show vs=[] from x);exact aB ([]) rfl rfl
 |cons d l ih=>
  intro xs _ e g8;refine e23 g8 ?_;clear g8;intro v vs e1 x y;subst e1;refine e12 (ey e) ?_;clear e;intro c e1 e;refine e12 (fN.mp e) ?_;clear e;intro ys e2 e;cases Ct e1;refine e11 x ?_;clear x e1;intro t e1;refine e12 (ih e2 y) λps e3 hp=>?_;subst e e1 e3;exact aB ((_,t)::ps) rfl (by erw[bX,bX,hp];rfl)
theorem H9{h:Heap}:∀{l:List AV} {xs:List Int} {vs:List Value},jU l=some xs->VReps ρ h l vs->∃ps:List (Int × Tok),vs=ps.map (λp=>.int p.1 p.2)/\ps.map (·.1)=xs:=λ{l}=>by
 induction l with
 |nil=>
  intro xs vs e x
  (injection e with aS;subst aS);cases (show vs=[] from x);exact aB ([]) rfl rfl
 |cons d l ih=>
  intro xs _ e g8;refine e23 g8 ?_;clear g8;intro v vs e1 x y;subst e1;refine e12 (ey e) ?_;clear e;intro c e1 e;refine e12 (fN.mp e) ?_;clear e;intro ys e2 e;cases HD e1;refine e11 x ?_;clear x e1;intro t e1;refine e12 (ih e2 y) λps e3 hp=>?_;subst e e1 e3;exact aB ((_,t)::ps) rfl (by erw[bX,hp])
theorem Uh:∀l:List Int,l.sum=jV l:=λl=>by
 induction l with
 |nil=>exact  rfl
 |cons x r ih=>
  simp[jV,ih]
theorem Ia{sep:Cps}{xs:List Cps}(h:(xs.map b9).sum+xs.length*sep.length<=100000):JoinOk (ao sep) (xs.map ao)=true:=by
 unfold JoinOk;erw[StrLaws.joinTotal,mP];refine decide_eq_false ?_;erw[ca,aK,dO];have e:(xs.map (L6∘ao)).sum=(xs.map b9).sum:=by
  exact congrArg _ (eq λx zz=>dO x)
 erw[e];exact bQ.mpr (ah h (by decide))
theorem CP{k:Nat}{A:Around}(R:Room k A):Room 0 A:=R.le (bW _)
theorem CallP.keeps{k:Nat}{f:Value}{args:List AV}{d:AV}(h:∀A s ρ vs,Room 0 A->SimH Γ ρ H s->VReps ρ s.heap args vs->aj (av Γ.prog Γ.w) A (call f vs) (λv s'=>(Le s.heap s'.heap/\s'.gens=s.gens/\s'.os=s.os)/\VRep ρ s'.heap d v) (λzz zz=>False) s):CallP Γ k f args H d H :=
 λA s ρ vs R S r zz=>Pr.keeps S (h A s ρ vs (CP R) S r)
theorem CallP.keeps1{k:Nat}[NeZero k]{f:Value}{args:List AV}{d:AV}(h:∀A s ρ vs,Room 1 A->SimH Γ ρ H s->VReps ρ s.heap args vs->aj (av Γ.prog Γ.w) A (call f vs) (λv s'=>(Le s.heap s'.heap/\s'.gens=s.gens/\s'.os=s.os)/\VRep ρ s'.heap d v) (λzz zz=>False) s):CallP Γ k f args H d H :=
 λA s ρ vs R S r zz=>Pr.keeps S (h A s ρ vs R.one S r)
theorem na{s:Shared}{t:Nat}:Le s.heap ({s with toks:=t}:Shared).heap/\({s with toks:=t}:Shared).gens=s.gens/\({s with toks:=t}:Shared).os=s.os:=⟨.refl _,rfl,rfl⟩
theorem sD{s:Shared}{o:Obj}{t:Nat}:Le s.heap ({s with heap:=s.heap.push o,toks:=t}:Shared).heap/\({s with heap:=s.heap.push o,toks:=t}:Shared).gens=s.gens/\({s with heap:=s.heap.push o,toks:=t}:Shared).os=s.os:=⟨Le.push _ _,rfl,rfl⟩
variable{k:Nat}
theorem gN{h:Heap}{a:AV}{vs:List Value}(r:VReps ρ h [a] vs):∃v,vs=[v]/\VRep ρ h a v:=by
 refine e23 r ?_;clear r;intro v us be x y;subst be;cases (show us=[] from y);exact aB v rfl x
theorem gO{h:Heap}{a b:AV}{vs:List Value}(r:VReps ρ h [a,b] vs):∃v u,vs=[v,u]/\VRep ρ h a v/\VRep ρ h b u:=by
 refine e23 r ?_;clear r;intro v us bw x y;subst bw;refine e12 (gN y) λu bA z=>?_;subst bA;exact fk v u rfl x z
theorem Ui{h:Heap}{a b c:AV}{vs:List Value}(r:VReps ρ h [a,b,c] vs):∃v u w,vs=[v,u,w]/\VRep ρ h a v/\VRep ρ h b u/\VRep ρ h c w:=by
 refine e23 r ?_;clear r;intro v us bN x y;subst bN;refine e23 (gO y) ?_;clear y;intro u w ch y z;subst ch;exact Hk v u w rfl x y z
theorem Uj{s:Cps}(h:okL s.length=true):CallP Γ k (.builtin "len") [.str s] H (.int s.length) H:=.keeps λA s' ρ vs R S r=>by
 refine e12 (gN r) λv cg cm=>?_;subst cg;refine e11 cm λt cW=>?_;subst cW;have:=dm h;exact Aef (by erw[dO];exact λq=>ri (wD this) (uL q)) ⟨na,_,by erw[dO]⟩
theorem Uk{l:List AV}(h:okL l.length=true):CallP Γ k (.builtin "len") [.tup l] H (.int l.length) H:=.keeps λA s' ρ vs R S r=>by
 refine e12 (gN r) λv d0 d5=>?_;subst d0;refine e33 d5 λa ws n dJ g rx=>?_;subst dJ;have:=dm h;have hl:=rx.length;exact Aeg (items:=ws.toArray) ⟨_,g,rfl,n,rfl⟩ (by simp[hl];exact iL (le2 (aF this (aq _)) rfl)) ⟨na,_,by erw[dE,hl]⟩
theorem Ul{n:Nat}{l:List AV}(hn:H[n]?=some (.list l))(h:okL l.length=true):CallP Γ k (.builtin "len") [.loc n] H (.int l.length) H:=.keeps λA s' ρ vs R S r=>by
 refine e12 (gN r) λv dY eT=>?_;subst dY;refine e12 eT λa eS ha=>?_;subst eS;refine e22 (S.hp.list hn ha) λws j g rx=>?_;have:=dm h;have hl:=rx.length;exact Aeh (dk g) (by simp[hl];exact iL (le2 (aF this (aq _)) rfl)) ⟨na,_,by erw[dE,hl]⟩
theorem Um[NeZero k]{n:Nat}{l:List AV}{xs:List Int}(hn:H[n]?=some (.list l))(hi:jU l=some xs):CallP Γ k (.builtin "sum") [.loc n] H (.int (jV xs)) H:=.keeps1 λA s' ρ vs R S r=>by
 refine e12 (gN r) λv hG fw=>?_;subst hG;refine e12 fw λa fA ha=>?_;subst fA;refine e22 (S.hp.list hn ha) λws j g rx=>?_;refine e12 (H9 hi rx) λps iH hp=>?_;subst iH;refine sum_intListG (xs:=ps.toArray) R.handled (by have:=dk g;simpa[intItems] using this) λh' tk t' hk=>⟨⟨hk,rfl,rfl⟩,t',?_⟩
 erw[preSum_eq,l9 (by simp)];simp only[List.toList_toArray] at hp ⊢;erw[hp,Uh]
theorem Un{x y:Int}(hy:0<y/\y<=1000000):CallP Γ k (.builtin "divmod") [.int x,.int y] H (.tup [.int (j6 x y),.int (j7 x y)]) H:=.keeps λA s' ρ vs R S r=>by
 refine e23 (gO r) λv u jR jJ jI=>?_;subst jR;refine e11 jJ λt jP=>?_;subst jP;refine e11 jI λt' lJ=>?_;subst lJ;refine divmod_int (λq=>Mi (lg q) hy.1) ⟨sD,_,[.int (x.fdiv y) s'.toks,.int (x.fmod y) (s'.toks+1)],0,rfl,co _ rfl,?_⟩ (.inl (EG (by lia)));exact .cons ⟨_,rfl⟩ (.one ⟨_,rfl⟩)
theorem Uo{s:Cps}:CallP Γ k (.builtin "isinstance") [.str s,.typ "bytes"] H (.bool false) H:=.keeps λA s' ρ vs R S r=>by
 refine e23 (gO r) λv u mV u8 e=>?_;subst mV;refine e11 u8 λt Bg=>?_;subst Bg;cases (show u=_ from e);exact Aei ⟨na,rfl⟩
theorem Up{s p:Cps}:CallP Γ k (.builtin "str.startswith") [.str s,.str p] H (.bool (eg p s)) H:=.keeps λA s' ρ vs R S r=>by
 refine e23 (gO r) λv u uO pS pX=>?_;subst uO;refine e11 pS λt pJ=>?_;subst pJ;refine e11 pX λt' pK=>?_;subst pK;exact SC.startswith ⟨⟨.refl _,rfl,rfl⟩,by erw[H8];rfl⟩
theorem Uq{s p:Cps}:CallP Γ k (.builtin "str.endswith") [.str s,.str p] H (.bool (eg p.reverse s.reverse)) H:=.keeps λA s' ρ vs R S r=>by
 refine e23 (gO r) λv u pE ur B7=>?_;subst pE;refine e11 ur λt BO=>?_;subst BO;refine e11 B7 λt' Qt=>?_;subst Qt;exact SC.endswith ⟨⟨.refl _,rfl,rfl⟩,by erw[Ud];rfl⟩
theorem Ur{s:Cps}{c:Nat}:CallP Γ k (.builtin "str.rfind") [.str s,.str [c]] H (.int (iq c s)) H:=.keeps λA s' ρ vs R S r=>by
 refine e23 (gO r) λv u BD BR Bj=>?_;subst BD;refine e11 BR λt BZ=>?_;subst BZ;refine e11 Bj λt' B0=>?_;subst B0;exact SC.rfind ⟨na,_,by erw[Uf]⟩
theorem Us{s:Cps}{c:Nat}(h:okL s.length=true):CallP Γ k (.builtin "str.rstrip") [.str s,.str [c]] H (.str (qk c s)) H:=.keeps λA s' ρ vs R S r=>by
 refine e23 (gO r) λv u Q4 QN Pu=>?_;subst Q4;refine e11 QN λt Q5=>?_;subst Q5;refine e11 Pu λt' PT=>?_;subst PT;exact SC.rstripChars (λt' k=>⟨na,t',by erw[Ue]⟩) (by erw[dO];exact jk (dm h))
theorem Ut{sep:Cps}{n:Nat}{l:List AV}{xs:List Cps}(hn:H[n]?=some (.list l))(hx:gM l=some xs)(hz:(xs.map b9).sum+xs.length*sep.length<=100000):CallP Γ k (.builtin "str.join") [.str sep,.loc n] H (.str (bq sep xs)) H:=.keeps λA s' ρ vs R S r=>by
 refine e23 (gO r) λv u OA Rm QF=>?_;subst OA;refine e11 Rm λt PN=>?_;subst PN;refine e12 QF λa Qs ha=>?_;subst Qs;refine e22 (S.hp.list hn ha) λws j g rx=>?_;refine e12 (CN hx rx) λps Rs hp=>?_;subst Rs;exact SC.join (dk g) hp (Ia hz) λt' k=>⟨na,t',by erw[show Txt.join (ao sep) (xs.map ao)=ao (bq sep xs) from (My _ _).trans (yj _ _)]⟩
theorem Uu{sep:Cps}{l:List AV}{xs:List Cps}(hx:gM l=some xs)(hz:(xs.map b9).sum+xs.length*sep.length<=100000):CallP Γ k (.builtin "str.join") [.str sep,.tup l] H (.str (bq sep xs)) H:=.keeps λA s' ρ vs R S r=>by
 refine e23 (gO r) λv u OL Pi PL=>?_;subst OL;refine e11 Pi λt PW=>?_;subst PW;refine e33 PL λa ws n QW g rx=>?_;subst QW;refine e12 (CN hx rx) λps QX hp=>?_;subst QX;have cN:=Ia (sep:=sep) (xs:=xs) hz;rw[<- hp] at cN;unfold JoinOk at cN;rw[mP] at cN;refine tS Mz (AW _ _ _) PySem.F.entry_str_join (PySem.F.args_str_join_2 _ _) (meets_str_join_tuple (ao sep) t a ps cN) ⟨⟨_,n,g,rfl,rfl⟩,post_join ps ⟨joinFit_length cN,λt' k=>⟨na,t',?_⟩⟩⟩;erw[hp,show Txt.join (ao sep) (xs.map ao)=ao (bq sep xs) from (My _ _).trans (yj _ _)]
theorem Uv(x y:Str):(z9 x (Aa x y 0 x.length (x.length+1)) y.length).length<=x.length+2:=by
 unfold z9;have:=StrLaws.occ_length_le x y 0 x.length (x.length+1);simp only[aK,List.length_zip,bC,bx,fu];exact lG (MA _ _) this
theorem Ib{h:Heap}:∀(ps:List (Str × Tok)) (xs:List Cps),ps.map (·.1)=xs.map ao->VReps ρ h (xs.map .str) (cG ps)
 |[],[],_=>rfl
 |[],_::_,e=>by simp at e
 |_::_,[],e=>by simp at e
 |(x,t)::ps,y::xs,e=>by
  simp only[bX,List.cons.injEq] at e;exact fk _ _ rfl ⟨t,by erw[<- e.1]⟩ (Ib ps xs e.2)
theorem Uw{F:List Addr}{s s':Shared}(S:SimH Γ ρ H s){D:Addr}{ds:List AV}{vs:List Value}{n:Nat}(hl:Le s.heap s'.heap)(hg:s'.gens=s.gens)(ho:s'.os=s.os)(bz:s.heap.objs.size<=s'.heap.objs.size)(hD:s.heap.objs.size<=D)(g:s'.heap.get? D=some (dj vs n))(r:VReps ρ s'.heap ds vs) :
  ∃ae,Step F [] ρ ae s.heap s'.heap/\SimH Γ ae (H++[.list ds]) s'/\VRep ae s'.heap (.loc H.length) (.ref D):=by
 refine ⟨ρ++[D],⟨⟨[D],rfl,by simpa using hD⟩,λb o zz zz e=>.inl (hl _ _ e),hl.imm,bz⟩,⟨S.base.trans hl,hg.trans S.gens,ho.trans S.os,?_⟩,D,rfl,?_⟩
 ·exact S.hp.push S.base hD hl.imm (λb zz o e=>hl _ _ e) ⟨vs,n,g,VReps.mono ⟨_,rfl⟩ (.refl _) _ _ r⟩
 ·erw[<- S.hp.len];simp
theorem Ux{s:Cps}{c:Nat}(h:okL s.length=true):CallP Γ k (.builtin "str.split") [.str s,.str [c]] H (.loc H.length) (H++[.list ((bF c s).map .str)]):=λA s' ρ vs R S r zz=>by
 obtain ⟨v,⟨u,⟨rfl,⟨⟨t,rfl⟩,t',rfl⟩⟩⟩⟩:=gO r;have hz:=dm h;have h0:g5>=1000000:=by decide
 have eU:(ao s).length<=g5:=by erw[dO];exact ah hz (dL h0)
 have hc:=ah (Uv (ao s) (ao [c])) (show (ao s).length+2<=g5 by erw[dO];exact lC hz (dL h0));have fin:∀(l:List (Str × Tok)) (tk:Nat),l.map (·.1)=zZ (ao s) (ao [c]) ->
   ∃ae,Step (frs A) [] ρ ae s'.heap (s'.heap.push {cls:=.type "list",data:=.seq (cG l).toArray})/\SimH Γ ae (H++[.list ((bF c s).map .str)]) {s' with heap:=s'.heap.push {cls:=.type "list",data:=.seq (cG l).toArray},toks:=tk} /\
    VRep ae (s'.heap.push {cls:=.type "list",data:=.seq (cG l).toArray}) (.loc H.length) (.ref s'.heap.objs.size):=λl tk e=>by
  rw[Uc] at e;exact CG (A:=A) S (Ib l _ e)
 have hy:((ao [c]).length==0)=false:=rfl;have hT:s'.TypeIs (.str (ao s) t) "str":=AW _ _ _;cases h1:(decide ((ao s).length<(ao [c]).length)||decide (MD (ao s)<MD (ao [c])))
 ·cases hf:(Aa (ao s) (ao [c]) 0 (ao s).length ((ao s).length+1)).isEmpty
  ·refine tS Ab hT E3 (E4 _ _) (meets_str_split_sep (ao s) (ao [c]) t t' h1 hy hf eU hc) ?_;have:=fin (numbered s'.toks (z9 (ao s) (Aa (ao s) (ao [c]) 0 (ao s).length ((ao s).length+1)) (ao [c]).length)) (s'.toks+(z9 (ao s) (Aa (ao s) (ao [c]) 0 (ao s).length ((ao s).length+1)) (ao [c]).length).length) ((numbered_texts _ _).trans ((if_neg (by erw[h1];decide)).trans (if_neg (by erw[hf];decide))).symm);rw[<- strsFrom_eq] at this;exact this
  ·exact tS Ab hT E3 (E4 _ _) (meets_str_split_not_found (ao s) (ao [c]) t t' h1 hy hf)
    (fin [(ao s,t)] s'.toks ((if_neg (by erw[h1];decide)).trans (if_pos hf)).symm)
 ·exact tS Ab hT E3 (E4 _ _) (meets_str_split_cannot_occur (ao s) (ao [c]) t t' h1)
   (fin [(ao s,t)] s'.toks (if_pos h1).symm)
theorem VReps.mono'{h h':Heap}{a:Addr}(aW:fK a h h')(hn:∀o,h.get? a=some o->¬ cz o){l:List AV}{vs:List Value}(r:VReps ρ h l vs):VReps ρ h' l vs:=VReps.mono (.refl _) (gr aW hn) _ _ r
theorem Uy{n:Nat}{l:List AV}{d:AV}(hn:H[n]?=some (.list l))(h:okL l.length=true):CallP Γ k (.builtin "list.append") [.loc n,d] H .none (H.set n (.list (l++[d]))):=λA s' ρ vs R S r zz=>by
 refine e23 (gO r) λv u Qf Qu ru=>?_;subst Qf;refine e12 Qu λa O1 ha=>?_;subst O1;refine e22 (S.hp.list hn ha) λws j g rx=>?_;refine append_at (n:=j) g (λh' aW g'=>?_) (by erw[dE,rx.length];exact jk (dm h));obtain ⟨ae,st,S'⟩:=CL (ws:=ws++[u]) (k':=j+1) (tk:=s'.toks) S ha (λl q=>by rw[hn] at q;(injection q with PQ;injection PQ)) g aW (by simpa using g') (rx.append (.one ru))
 exact cH ae st S' rfl
theorem Ic{n:Nat}{l:List AV}{d:AV}(hn:H[n]?=some (.list l))(h:okL l.length=true)(hd:l.getLast?=some d):CallP Γ k (.builtin "list.pop") [.loc n] H d (H.set n (.list l.dropLast)):=λA s' ρ vs R S r zz=>by
 refine e12 (gN r) λv Qv ON=>?_;subst Qv;refine e12 ON λa Qj ha=>?_;subst Qj;refine e22 (S.hp.list hn ha) λws j g rx=>?_;have hl:=rx.length;rw[MG] at hd;refine e12 (rx.get hd) λy e1 e2=>?_;refine Aej (n:=j) g (y:=y) (by erw[dE,hl];simpa using e1) (λh' aW g'=>?_) (by erw[dE,hl];exact jk (dm h))
 have rd:VReps ρ s'.heap l.dropLast ws.dropLast:=by
  erw[Ac,Ac,hl];exact rx.take _
 have uI:∀o,s'.heap.get? a=some o->¬ cz o:=λo e=>by
  rw[g] at e;(injection e with PX;subst PX);intro i;exact absurd (show (nH "list")=.type "tuple" from i) (by decide)
 obtain ⟨dy,S0⟩:=m9 (s':={s' with heap:=h'}) (o':=.list l.dropLast) S ha (λl q=>by rw[hn] at q;(injection q with Rt;injection Rt)) aW rfl rfl uI ⟨ws.dropLast,j+1,by erw[g'];simp,VReps.mono' aW uI rd⟩
 exact cH ρ dy S0 (VRep.mono (.refl _) (gr aW uI) _ _ e2)
theorem Uz{n:Nat}{l:List AV}(hn:H[n]?=some (.list l))(h:okL l.length=true):CallP Γ k (.builtin "list.clear") [.loc n] H .none (H.set n (.list [])):=λA s' ρ vs R S r zz=>by
 refine e12 (gN r) λv PH Qd=>?_;subst PH;refine e12 Qd λa QB ha=>?_;subst QB;refine e22 (S.hp.list hn ha) λws j g rx=>?_;refine e02 (CM g λzz=>#[]) λaW Po=>?_;refine e11 Po λm g'=>?_;obtain ⟨ae,st,S'⟩:=CL (l':=[]) (ws:=[]) (k':=m) (tk:=s'.toks) S ha (λl q=>by rw[hn] at q;(injection q with RA;injection RA)) g aW g' VReps.nil
 exact tS MH ⟨_,g,rfl⟩ PySem.F.entry_list_clear (PySem.F.args_list_clear_1 _) (Aek a ws.toArray j (by erw[dE,rx.length];exact jk (dm h))) ⟨g,ae,st,S',rfl⟩
theorem UA{n m:Nat}{l r:List AV}(hn:H[n]?=some (.list l))(hm:H[m]?=some (.list r))(h:okL (l.length+r.length)=true):CallP Γ k (.builtin "list.extend") [.loc n,.loc m] H .none (H.set n (.list (l++r))):=λA s' ρ vs R S rr zz=>by
 refine e23 (gO rr) λv u Ot OY QM=>?_;subst Ot;refine e12 OY λa Qe ha=>?_;subst Qe;refine e12 QM λb P9 hb=>?_;subst P9;refine e22 (S.hp.list hn ha) λws j g rx=>?_;refine e22 (S.hp.list hm hb) λus j' g2 ry=>?_;have hz:=dm h;have l1:=rx.length;have l2:=ry.length;have h0:g5>=1000000:=by decide
 refine e02 (CM g λxs=>xs++us.toArray) λaW OT=>?_;refine e11 OT λi g'=>?_;obtain ⟨ae,st,S'⟩:=CL (l':=l++r) (ws:=ws++us) (k':=i) (tk:=s'.toks) S ha (λl q=>by rw[hn] at q;(injection q with Os;injection Os)) g aW (by simpa using g') (rx.append ry)
 have:=@Ael a ws.toArray j b us.toArray j' (extend_door (by simp;lia)) (by simp;lia) (by simp;lia);exact tS MI ⟨_,g,rfl⟩ PySem.F.entry_list_extend (PySem.F.args_list_extend_2 _ _) this ⟨g,g2,ae,st,S',rfl⟩
theorem UB{n:Nat}{es:List (Cps × AV)}{c:Cps}{dv:Option Nat}(hn:H[n]?=some (.dict es dv)):CallP Γ k (.builtin "dict.get") [.loc n,.str c] H ((es.lookup c).getD .none) H:=.keeps λA s' ρ vs R S r=>by
 refine e23 (gO r) λv u PU Q7 OU=>?_;subst PU;refine e12 Q7 λa Qg ha=>?_;subst Qg;refine e11 OU λt RB=>?_;subst RB;refine e22 (S.hp.dict hn ha) λaQ ep d rd=>?_;refine FO MJ d.dictOf.typeIs PySem.F.entry_dict_get (PySem.F.args_dict_get_2 _ _) (meets_dict_get _ a (pp _ _ _ t) (S.hp.mods ha)) ⟨_,d.dictOf.mapOf,na,?_⟩;have q:=DReps.at (k:=c) rd;cases e:es.lookup c with
 |none=>erw[q.2 e];rfl
 |some w=>refine e12 (q.1 w e) λx e1 e2=>?_;erw[e1];exact e2
theorem UC{n:Nat}{l:List Cps}{c:Cps}(hn:H[n]?=some (.set l))(hz:l.length<=1000):CallP Γ k (.builtin "set.add") [.loc n,.str c] H .none (if l.contains c then H else H.set n (.set (l++[c]))):=λA s' ρ vs R S r zz=>by
 refine e23 (gO r) λv u Pw PA Qk=>?_;subst Pw;refine e12 PA λa QY ha=>?_;subst QY;refine e11 Qk λt Ql=>?_;subst Ql;refine e12 (S.hp.setA hn ha) λF hF hm=>?_;have e0:F (ao c)=l.contains c:=by erw[hm,HT]
 refine call_set_add (pp _ _ _ t) rfl hF (zJ (mL hz 1) (by decide)) λh' aW rS=>?_;have uI:∀o,s'.heap.get? a=some o->¬ cz o:=λo e=>by
  refine e11 hF ?_;clear hF;intro o' QO;refine e34 QO λes ep t' q _ hd _=>?_;rw[e] at q;(injection q with PD;subst PD);unfold cz;erw[hd];exact id
 have key:∀l',l'.length=(if F (ao c) then l.length else l.length+1)->(∀x,(F x||decide (x=ao c))=decide (x∈l'.map ao))->∃ae,Step (frs A) [] ρ ae s'.heap h'/\SimH Γ ae (H.set n (.set l')) {s' with heap:=h',toks:=s'.toks+1}:=λl' h1 h2=>by
  obtain ⟨st,S'⟩:=m9 (s':={s' with heap:=h',toks:=s'.toks+1}) (o':=.set l') S ha (λl q=>by rw[hn] at q;(injection q with Rf;injection Rf)) aW rfl rfl uI ⟨_,h1▸rS,h2⟩
  exact aB ρ st S'
 cases hc:l.contains c with
 |true=>
  have n8:c∈l:=by simpa using hc
  obtain ⟨ae,st,S'⟩:=key l (by erw[e0,hc];rfl) λx=>by
   erw[hm];by_cases q:x=ao c
   ·subst q;simp;exact aB c n8 rfl
   ·simp[q]
  have e1:H.set n (.set l)=H:=by
   rw[ei] at hn;refine e11 hn ?_;clear hn;intro h1 h2;erw[<- h2,MK]
  rw[e1] at S';exact cH ae st S' rfl
 |false=>
  obtain ⟨ae,st,S'⟩:=key (l++[c]) (by erw[e0,hc];simp) λx=>by
   erw[hm,i4];simp
  exact cH ae st S' rfl
end
section
variable{Γ:Gam}{ρ:List Addr}{H:List AO}{k:Nat}
theorem UD{n:Nat}{es:List (Cps × AV)}{dv:Option Nat}(hn:H[n]?=some (.dict es dv)):CallP Γ k (.builtin "dict.values") [.loc n] H (.vw n) H:=.keeps λA s' ρ vs R S r=>by
 refine e12 (gN r) λv aC aI=>?_;subst aC;refine e12 aI λa aS ha=>?_;subst aS;refine e22 (S.hp.dict hn ha) λaQ ep d rd=>?_;exact FO ML d.dictOf.typeIs PySem.F.entry_dict_values (PySem.F.args_dict_values_1 _) (meets_dict_values _ a (S.hp.mods ha)) ⟨⟨aQ,d.dictOf⟩,sD (t:=s'.toks),_,a,rfl,ha,_,co _ rfl,rfl,rfl⟩
theorem CQ{F:List Addr}{s:Shared}(S:SimH Γ ρ H s){o:Obj}{tk:Nat}{o':AO}(r:ORep Γ (ρ++[s.heap.objs.size]) (s.heap.push o) o' s.heap.objs.size) :
  ∃ae,Step F [] ρ ae s.heap (s.heap.push o)/\SimH Γ ae (H++[o']) {s with heap:=s.heap.push o,toks:=tk}/\VRep ae (s.heap.push o) (.loc H.length) (.ref s.heap.objs.size):=by
 refine ⟨ρ++[s.heap.objs.size],⟨⟨[s.heap.objs.size],rfl,by simp⟩,λb o zz zz e=>.inl (du _ e),Le.imm (Le.push _ _),by simp⟩,⟨S.base.trans (Le.push _ _),S.gens,S.os,?_⟩,s.heap.objs.size,rfl,?_⟩
 ·exact S.hp.push S.base (aq _) (Le.imm (Le.push _ _)) (λb zz o e=>du _ e) r
 ·erw[<- S.hp.len];simp
theorem UE{n:Nat}{l:List AV}(hn:H[n]?=some (.list l)):CallP Γ k (.builtin "iter") [.loc n] H (.loc H.length) (H++[.iter n 0]):=λA s' ρ vs R S r zz=>by
 refine e12 (gN r) λv be bw=>?_;subst be;refine e12 bw λa bA ha=>?_;subst bA;refine e22 (S.hp.list hn ha) λws j g rx=>?_;refine Aem (by decide +kernel) (by decide +kernel) kdk_entry_iter (kdk_args_iter _) ?_;unfold Builtin.«iter»;refine ag (m:=someArgs "iter" 1 2 _) (lm (a:=[rm a]) (by first|rfl|kernel_rfl!) ?_)
 show aj _ _ (rH (.ref a) >>= _) _ _ _;refine ag (wY (dk g) ?_);refine am ⟨_,rfl,CQ (tk:=s'.toks) S ⟨a,?_,co _ rfl⟩⟩;exact Pre.get ⟨_,rfl⟩ ha
theorem UF{b:Int}:CallP Γ k (.type "range") [.int b] H (.rng 0 b 1) H:=.keeps λA s' ρ vs R S r=>by
 refine e12 (gN r) λv bN ch=>?_;subst bN;refine e11 ch λt cg=>?_;subst cg;exact call_range_1 ⟨sD,_,_,_,_,rfl,co _ rfl⟩
theorem UG{a b:Int}:CallP Γ k (.type "range") [.int a,.int b] H (.rng a b 1) H:=.keeps λA s' ρ vs R S r=>by
 refine e23 (gO r) λv u cm cW d5=>?_;subst cm;refine e11 cW λt d0=>?_;subst d0;refine e11 d5 λt' dJ=>?_;subst dJ;exact call_range_2 ⟨sD,_,_,_,_,rfl,co _ rfl⟩
theorem UH{a b c:Int}(hc:c=1\/c=-1):CallP Γ k (.type "range") [.int a,.int b,.int c] H (.rng a b c) H:=.keeps λA s' ρ vs R S r=>by
 refine e34 (Ui r) λv u w dY eT hG fA=>?_;subst dY;refine e11 eT λt eS=>?_;subst eS;refine e11 hG λt' fw=>?_;subst fw;refine e11 fA λt'' iH=>?_;subst iH;exact call_range_3 (by exact λq=>by clear r;subst q;exact absurd hc (by decide)) ⟨sD,_,_,_,_,rfl,co _ rfl⟩ (.inl (EG (by omega)))
theorem UI{n:Nat}{l:List AV}(hn:H[n]?=some (.list l))(h:okL l.length=true):CallP Γ k (.type "tuple") [.loc n] H (.tup l) H:=.keeps λA s' ρ vs R S r=>by
 refine e12 (gN r) λv jR jJ=>?_;subst jR;refine e12 jJ λa jP ha=>?_;subst jP;refine e22 (S.hp.list hn ha) λws j g rx=>?_;refine call_tuple_list (dk g) (λh' hk=>⟨⟨λb o e=>du _ (hk b o e),rfl,rfl⟩,_,ws,0,rfl,co _ rfl,?_⟩) (by erw[dE,rx.length];exact jk (dm h));exact VReps.mono (.refl _) (λb o zz e=>du _ (hk b o e)) _ _ rx
theorem UJ{l:List AV}(h:okL l.length=true):CallP Γ k (.type "list") [.tup l] H (.loc H.length) (H++[.list l]):=λA s' ρ vs R S r zz=>by
 refine e12 (gN r) λv jI lJ=>?_;subst jI;refine e33 lJ λa ws n mV g rx=>?_;subst mV;refine ba (jT (Q:=λv ay=>v=.ref s'.heap.objs.size/\Le s'.heap ay.heap/\ay.gens=s'.gens/\ay.os=s'.os/\∃c,ay.heap.get? s'.heap.objs.size=some (dj ws c)) (E:=λzz zz=>False)
  (call_list_seq a (.inr rfl) g rfl rfl (λh' c' hk hg=>⟨rfl,hk,rfl,rfl,c',hg⟩) (by erw[dE,rx.length];exact jk (dm h)))) (λv ay qq=>?_) λzz zz q=>q.2.elim
 obtain ⟨hs,⟨e,⟨le,g1,⟨g2,c,hd⟩⟩⟩⟩:=qq;subst e;exact Uw S le g1 g2 hs (aq _) hd (VReps.mono (.refl _) le.imm _ _ rx)
theorem UK{a:Addr}{ws:List Value}(hz:ws.length<=1000000):Meets (Builtin.«bool.__new__» ⟨[.type "bool",.ref a],[]⟩) (λA R s=>s.heap.IsList a ws.toArray/\R (.ok (.ret (.bool (!ws.toArray.isEmpty)))) {s with toks:=s.toks+1+1}):=
 Meets.of_wp λprog w A R s q7=>e02 q7 λhl hs=>by
  clear q7;obtain ⟨hp,g,d,tk,os⟩:=s;have f1:=F.conv_sub_bool;have tr:∀{B:Around} {Q:Bool->Shared->Prop} {E:Value->Shared->Prop},Q (!ws.toArray.isEmpty) ⟨hp,g,d,tk+1+1,os⟩->aj (av prog w) B (nN (.ref a)) Q E ⟨hp,g,d,tk,os⟩:=λ{B Q E} q=>Ob hl (by erw[dE];exact iL (le2 (aF hz (aq _)) rfl)) q
  repeat (any_goals (first|assumption|with_reducible apply tr|wp_step))
  all_goals first|exact aB _ rfl hs|skip
theorem UL{n:Nat}{l:List AV}(hn:H[n]?=some (.list l))(h:okL l.length=true):CallP Γ k (.type "bool") [.loc n] H (.bool (!l.isEmpty)) H:=.keeps λA s' ρ vs R S r=>by
 refine e12 (gN r) λv pS pJ=>?_;subst pS;refine e12 pJ λa pX ha=>?_;subst pX;refine e22 (S.hp.list hn ha) λws j g rx=>?_;have hl:=rx.length;have hz:=dm h;refine call_bool_1 (UK (a:=a) (ws:=ws) (le2 (ah (aE hl) hz) rfl)) ⟨dk g,rfl,⟨.refl _,rfl,rfl⟩,?_⟩;induction l using bI<;>induction ws using bI<;>first|rfl|injection hl
theorem UM:CallP Γ k (.type "set") [] H (.loc H.length) (H++[.set []]):=λA s' ρ vs R S r zz=>by
 cases (show vs=[] from r);refine call_set_0 λled=>CQ (tk:=s'.toks) S ⟨λzz=>false,?_,λx=>by simp⟩;refine e02 (setObjOf_fresh (knd:=mM Γ.prog Γ.w) led) λh1 pK=>?_;refine e34 pK λes ep t h2 h3 h4 pE=>?_;refine e02 pE λh5 h6=>?_;exact ⟨_,es,ep,t,co _ rfl,h1,h2,h3,h4,by erw[h5];decide,h6,h5⟩
end
end Mine
open PySem.Calls
namespace Mine
section
variable{prog:gf}{w:gh}{A:Around}{E:Value->Shared->Prop}{s:Shared}
theorem UN:typeOf (.type "str")=pure (.type "type"):=by kernel_rfl
theorem UO:nO (.type "str") (.type "str")=pure true:=by erw[iD];kernel_rfl
theorem UP:nO (.type "tuple") (.type "tuple")=pure true:=by erw[iD];kernel_rfl
theorem UQ:nO (.type "type") (.type "type")=pure true:=by erw[iD];kernel_rfl
theorem CR:plainId "issubclass.nested"=true:=by decide +kernel
theorem Ie:nP nQ "issubclass.nested"=some Builtin.«issubclass.nested»:=rN (by kernel_rfl)
theorem UR:plainId "issubclass"=true:=by decide +kernel
theorem US:nP nQ "issubclass"=some Builtin.«issubclass»:=rN (by kernel_rfl)
theorem UT(a b:Value):w8 "issubclass" ⟨[a,b],[]⟩=pure ():=by unfold w8;kernel_rfl
theorem UU(a b c:Value):w8 "issubclass.nested" ⟨[a,b,c],[]⟩=pure ():=by unfold w8;kernel_rfl
theorem UV{R:gH->Shared->Prop}{k:Tok}(hq:R (.ok (.ret (.bool true))) s):cM (av prog w) A (.call (.builtin "issubclass.nested") ⟨[.type "str",.type "str",.int 1 k],[]⟩) R s:=by
 refine tT CR Ie ?_;erw[UU];refine am ?_;have f1:=UN;have f2:=UO;have f3:=UQ
 repeat (any_goals (first|assumption|wp_step))
theorem UW{t:Addr}{n:Nat}{Q:Fin->Shared->Prop}{k:Tok}(ht:s.heap.get? t=some {cls:=.type "tuple",data:=.seq #[.type "str",.type "bytes"] n}) (hq:Q (.done (.ret (.bool true))) s) :
  aj (av prog w) A (Builtin.«issubclass.nested» ⟨[.type "str",.ref t,.int 0 k],[]⟩) Q E s:=by
 obtain ⟨hp,g,d,tk,os⟩:=s;dsimp only at ht;have hT:(⟨hp,g,d,tk,os⟩:Shared).TypeIs (.ref t) "tuple":=⟨_,ht,rfl⟩;have f2:=UP;unfold Builtin.«issubclass.nested» Aen;refine ag (tR hT ?_);erw[if_neg (by decide)];refine ag (ag (tR hT ?_));erw[if_neg (by decide)];refine am ?_;refine ag (FP hT f2 ?_);erw[if_pos rfl,if_neg (by decide +kernel)];refine ag (ln ht rfl ?_);simp only[Ew,E5,zP];refine ag ?_
 repeat (any_goals (first|assumption|wp_step))
 refine UV (k:=0) ?_
 repeat (any_goals (first|assumption|wp_step))
theorem UX{t:Addr}{n:Nat}{Q:Value->Shared->Prop}(ht:s.heap.get? t=some {cls:=.type "tuple",data:=.seq #[.type "str",.type "bytes"] n}) (hq:Q (.bool true) s) :
  aj (av prog w) A (call (.builtin "issubclass") [.type "str",.ref t]) Q E s:=by
 refine tM (tT UR US ?_);erw[UT];refine am ?_;unfold Builtin.«issubclass»
 repeat (any_goals (first|assumption|wp_step))
 refine ⟨ii CR _,ij Ie ?_⟩;erw[iz CR];refine ba (UW (E:=E) (Q:=λf s'=>f=.done (.ret (.bool true))/\s'=s) ht ⟨rfl,rfl⟩) (λf s' q7=>e02 q7 λe1 e2=>?_) λ_ _ q=>q;subst e1 e2;exact hq
end
section
variable{Γ:Gam}{ρ:List Addr}{H:List AO}{k:Nat}
theorem UY:CallP Γ k (.builtin "issubclass") [.typ "str",.tup [.typ "str",.typ "bytes"]] H (.bool true) H:=.keeps λA s' ρ vs R S r=>by
 refine e23 (gO r) λv u aC e aI=>?_;subst aC;refine e33 aI λa ws n aS g rx=>?_;subst aS;cases (show v=_ from e);refine e23 (gO rx) λx y be e1 e2=>?_;subst be;cases (show x=_ from e1);cases (show y=_ from e2);exact UX g ⟨⟨.refl _,rfl,rfl⟩,rfl⟩
theorem UZ{c:Cps}:CallP Γ k (.type "type") [.str c] H (.typ "str") H:=.keeps λA s' ρ vs R S r=>by
 refine e12 (gN r) λv bw bA=>?_;subst bw;refine e11 bA λt bN=>?_;subst bN;exact call_type_of (Tx:="str") rfl (by decide) ⟨⟨.refl _,rfl,rfl⟩,rfl⟩
end
end Mine
open PySem.MeetsSeq3 PySem.AutoSeq1
namespace Mine
theorem Ig(l:List Cps):ltR l []=false:=by induction l using bI<;>rfl
theorem Ih(a b:Cps)(l r:List Cps):ltR (a::l) (b::r)=if a=b then ltR l r else ltC a b:=rfl
section
variable{prog:gf}{w:gh}
theorem U0(l b:Addr)(ps qs:List (Str × Tok))(xs ys:List Cps)(hx:ps.map (·.1)=xs.map ao)(hy:qs.map (·.1)=ys.map ao)(n n2:Nat)(k:Nat) :
  ∀i:Nat,xs.length-i=k->i<=xs.length->i<=ys.length->Meets (Builtin.«list.__eq__.loop» ⟨[.ref l,.ref b,kg i,kg 0],[]⟩)
   (λA R s=>s.heap.get? l=some (dj (cG ps) n)/\s.heap.get? b=some (dj (cG qs) n2)/\R (.ok (.ret (.bool (ltR (xs.drop i) (ys.drop i))))) s):=by
 have lx:(cG ps).toArray.size=xs.length:=by
  have:=congrArg b9 hx;simpa[cG] using this
 have ly:(cG qs).toArray.size=ys.length:=by
  have:=congrArg b9 hy;simpa[cG] using this
 have gx:∀i (h:i<xs.length),∃t,(cG ps).toArray[((i:Nat):Int).toNat]?=some (.str (ao xs[i]) t):=λi h=>by
  have h1:i<ps.length:=by have:=congrArg b9 hx;simp at this;exact ah h (aE this.symm)
  have:(ps.map (·.1))[i]?=(xs.map ao)[i]?:=by erw[hx]
  simp[h,h1] at this;exact ⟨ps[i].2,by simp[cG,h1,this]⟩
 have gy:∀i (h:i<ys.length),∃t,(cG qs).toArray[((i:Nat):Int).toNat]?=some (.str (ao ys[i]) t):=λi h=>by
  have h1:i<qs.length:=by have:=congrArg b9 hy;simp at this;exact ah h (aE this.symm)
  have:(qs.map (·.1))[i]?=(ys.map ao)[i]?:=by erw[hy]
  simp[h,h1] at this;exact ⟨qs[i].2,by simp[cG,h1,this]⟩
 have fin:∀(i:Nat),i=xs.length\/i=ys.length->i<=xs.length->i<=ys.length->ltR (xs.drop i) (ys.drop i)=decide ((cG ps).toArray.size<(cG qs).toArray.size):=λi h0 h1 h2=>by
  erw[lx,ly];rcases h0 with h0|h0
  ·erw[jA (l:=xs) (aE h0.symm)];by_cases h3:i<ys.length
   ·erw[jB h3];simp[ltR];exact ah (cr (aE h0.symm)) h3
   ·erw[jA (l:=ys) (d8 h3)];simp[ltR];exact ah (d8 h3) h1
  ·erw[jA (l:=ys) (aE h0.symm),Ig];simp;exact ah (aE h0.symm) h1
 induction k with
 |zero=>
  intro i hk h1 h2 prog w A R s h;obtain ⟨hp,g,d,tk,os⟩:=s;refine e03 h ?_;intro hl hb h;rw[fin i (.inl (fJ h1 (oY hk))) h1 h2] at h;have lL:(cG ps).toArray[((i:Nat):Int).toNat]?=none:=by erw[Ad];erw[lx];exact oY hk
  wp_walk using wpAny_loadPart' hl,wpAny_loadPart' hb
  erw[lL]
  wp_walk using wpAny_loadPart' hl,wpAny_loadPart' hb
  exact h
 |succ k ih=>
  intro i hk h1 h2 prog w A R s h;obtain ⟨hp,g,d,tk,os⟩:=s;refine e03 h ?_;intro hl hb h;have aM:i<xs.length:=nK hk;refine e11 (gx i aM) λt lL=>?_;by_cases hj:i<ys.length
  ·refine e11 (gy i hj) λu mY=>?_
   wp_walk using wpAny_loadPart' hl,wpAny_loadPart' hb
   have hc:((i:Int)+1)=((i+1:Nat):Int):=by push_cast;rfl
   rw[jB aM,jB hj,Ih] at h;erw[lL,mY];refine ag (ED _ _ _ _ prog w _ _ ?_);erw[ya];cases hq:(xs[i]==ys[i]) with
   |true=>
    rw[if_pos (eq_of_beq hq)] at h
    wp_walk
    erw[hc];exact ⟨ii plain_eq_loop _,ij entry_eq_loop (by
     erw[iz plain_eq_loop _];exact ih (i+1) (congrArg pb hk) aM hj prog w A R _ ⟨hl,hb,h⟩)⟩
   |false=>
    rw[if_neg (λe=>by rw[e] at hq;simp at hq)] at h
    wp_walk using wpAny_loadPart' hl,wpAny_loadPart' hb
    erw[lL,mY];refine ag (PySem.P.lt_str (prog:=prog) (w:=w) (am ?_));exact h
  ·have mY:(cG qs).toArray[((i:Nat):Int).toNat]?=none:=by erw[Ad];erw[ly];exact (d8 hj)
   rw[fin i (.inr (fJ h2 (d8 hj))) h1 h2] at h
   wp_walk using wpAny_loadPart' hl,wpAny_loadPart' hb
   erw[lL,mY]
   wp_walk using wpAny_loadPart' hl,wpAny_loadPart' hb
   exact h
theorem U1(l b:Addr)(ps qs:List (Str × Tok))(xs ys:List Cps)(hx:ps.map (·.1)=xs.map ao)(hy:qs.map (·.1)=ys.map ao)(n n2:Nat)(k:Nat) :
  ∀i:Nat,xs.length-i=k->i<=xs.length->i<=ys.length->Meets (Builtin.«list.__eq__.loop» ⟨[.ref l,.ref b,kg i,kg 4],[]⟩)
   (λA R s=>s.heap.get? l=some (dj (cG ps) n)/\s.heap.get? b=some (dj (cG qs) n2)/\R (.ok (.ret (.bool (ltR (ys.drop i) (xs.drop i))))) s):=by
 have lx:(cG ps).toArray.size=xs.length:=by
  have:=congrArg b9 hx;simpa[cG] using this
 have ly:(cG qs).toArray.size=ys.length:=by
  have:=congrArg b9 hy;simpa[cG] using this
 have gx:∀i (h:i<xs.length),∃t,(cG ps).toArray[((i:Nat):Int).toNat]?=some (.str (ao xs[i]) t):=λi h=>by
  have h1:i<ps.length:=by have:=congrArg b9 hx;simp at this;exact ah h (aE this.symm)
  have:(ps.map (·.1))[i]?=(xs.map ao)[i]?:=by erw[hx]
  simp[h,h1] at this;exact ⟨ps[i].2,by simp[cG,h1,this]⟩
 have gy:∀i (h:i<ys.length),∃t,(cG qs).toArray[((i:Nat):Int).toNat]?=some (.str (ao ys[i]) t):=λi h=>by
  have h1:i<qs.length:=by have:=congrArg b9 hy;simp at this;exact ah h (aE this.symm)
  have:(qs.map (·.1))[i]?=(ys.map ao)[i]?:=by erw[hy]
  simp[h,h1] at this;exact ⟨qs[i].2,by simp[cG,h1,this]⟩
 have fin:∀(i:Nat),i=xs.length\/i=ys.length->i<=xs.length->i<=ys.length->ltR (ys.drop i) (xs.drop i)=decide ((cG ps).toArray.size > (cG qs).toArray.size):=λi h0 h1 h2=>by
  erw[lx,ly];rcases h0 with h0|h0
  ·erw[jA (l:=xs) (aE h0.symm),Ig];simp;exact ah (aE h0.symm) h2
  ·erw[jA (l:=ys) (aE h0.symm)];by_cases h3:i<xs.length
   ·erw[jB h3];simp[ltR];exact ah (cr (aE h0.symm)) h3
   ·erw[jA (l:=xs) (d8 h3)];simp[ltR];exact ah (d8 h3) h2
 induction k with
 |zero=>
  intro i hk h1 h2 prog w A R s h;obtain ⟨hp,g,d,tk,os⟩:=s;refine e03 h ?_;intro hl hb h;rw[fin i (.inl (fJ h1 (oY hk))) h1 h2] at h;have lL:(cG ps).toArray[((i:Nat):Int).toNat]?=none:=by erw[Ad];erw[lx];exact oY hk
  wp_walk using wpAny_loadPart' hl,wpAny_loadPart' hb
  erw[lL]
  wp_walk using wpAny_loadPart' hl,wpAny_loadPart' hb
  exact h
 |succ k ih=>
  intro i hk h1 h2 prog w A R s h;obtain ⟨hp,g,d,tk,os⟩:=s;refine e03 h ?_;intro hl hb h;have aM:i<xs.length:=nK hk;refine e11 (gx i aM) λt lL=>?_;by_cases hj:i<ys.length
  ·refine e11 (gy i hj) λu mY=>?_
   wp_walk using wpAny_loadPart' hl,wpAny_loadPart' hb
   have hc:((i:Int)+1)=((i+1:Nat):Int):=by push_cast;rfl
   rw[jB aM,jB hj,Ih] at h;erw[lL,mY];refine ag (ED _ _ _ _ prog w _ _ ?_);erw[ya];cases hq:(xs[i]==ys[i]) with
   |true=>
    rw[if_pos ((eq_of_beq hq).symm)] at h
    wp_walk
    erw[hc];exact ⟨ii plain_eq_loop _,ij entry_eq_loop (by
     erw[iz plain_eq_loop _];exact ih (i+1) (congrArg pb hk) aM hj prog w A R _ ⟨hl,hb,h⟩)⟩
   |false=>
    rw[if_neg (λe=>by rw[<- e] at hq;simp at hq)] at h
    wp_walk using wpAny_loadPart' hl,wpAny_loadPart' hb
    erw[lL,mY];refine ag (PySem.P.gt_str (prog:=prog) (w:=w) (am ?_));exact h
  ·have mY:(cG qs).toArray[((i:Nat):Int).toNat]?=none:=by erw[Ad];erw[ly];exact (d8 hj)
   rw[fin i (.inr (fJ h2 (d8 hj))) h1 h2] at h
   wp_walk using wpAny_loadPart' hl,wpAny_loadPart' hb
   erw[lL,mY]
   wp_walk using wpAny_loadPart' hl,wpAny_loadPart' hb
   exact h
end
section
variable{prog:gf}{w:gh}{A:Around}{R:gH->Shared->Prop}
theorem U3{h₀:Heap}{I ax S:Addr}{items:Array Value}(hh:A.handled=none)(hI:h₀.objs.size<=I)(ux:ax<h₀.objs.size)(hS:h₀.objs.size<=S)(iQ:I≠S)(bt:Nat->Nat->Bool)
  (qd:∀(i j:Nat) (vi vj:Value) (s:Shared) (Q:Value->Shared->Prop) (E:Value->Shared->Prop),items[i]?=some vi->items[j]?=some vj->(∀b o,b<h₀.objs.size->h₀.get? b=some o->s.heap.get? b=some o)->Q (.bool (bt i j)) s->aj (av prog w) A.in1 (pk .Lt vi vj) Q E s) :
  ∀(k j:Nat) (s:Shared) (vb:Value) (c:Nat),items.size-(j+1)=k->j+1<=items.size->s.heap.IsListIter I ax (j+1)->s.heap.IsList ax items->(∀b o,b<h₀.objs.size->h₀.get? b=some o->s.heap.get? b=some o)->items[argBest bt j]?=some vb ->
  s.heap.get? S=some (dj [vb,vb] c) ->
  (∀v h' tk,items[argBest bt (items.size-1)]?=some v->(∀b o,b≠I->b≠S->s.heap.get? b=some o->h'.get? b=some o)->R (.ok (.ret v)) {s with heap:=h',toks:=tk}) ->
  cM (av prog w) A (.builtin "min.loop" ⟨[.ref I,.none,.ref S],[]⟩) R s:=by
 have W:=Ae (prog:=prog) (w:=w) (A:=A.in1) hh I ax (b5 (dT ux hI)) items;have pP:S≠ax:=(b5 (dT ux hS)).symm;have lM:(toString "min"++toString ".loop":String)="min.loop":=by decide
 intro k;induction k with
 |zero=>
  intro j s vb c hk hj hit hl si hb lN hR;have up:j+1=items.size:=fJ hj (oY hk);refine ij E6 ?_;erw[iz rn _];show aj _ A.in1 (nR (.ref S) >>= _) _ _ s;refine ag (ln lN rfl ?_);show aj _ A.in1 (tryCatch (fP (.ref I)) _ >>= _) _ _ s;refine ag (pq (W.done s _ _ (up▸⟨hit,hl⟩) λh' tk cC=>?_));have fT:=cC S _ (by simp;exact iQ.symm) lN;show aj _ A.in1 (tU S (λzz=>#[]) >>= _) _ _ _;refine ag ?_;refine nS fT rfl (ag (nT (am ?_)));exact hR vb _ tk (by erw[<- up];exact hb) λb o Bs jL e=>(jC _ _ (bV jL)).trans (cC b o (by simpa using Bs) e)
 |succ k ih=>
  intro j s vb c hk hj hit hl si hb lN hR;have aM:j+1<items.size:=nK hk;refine ij E6 ?_;erw[iz rn _];show aj _ A.in1 (nR (.ref S) >>= _) _ _ s;refine ag (ln lN rfl ?_);show aj _ A.in1 (tryCatch (fP (.ref I)) _ >>= _) _ _ s;refine ag (pq (W.item (j+1) s _ _ aM ⟨hit,hl⟩ λv h' tk hP iR cC=>?_));have fT:=cC S _ (by simp;exact iQ.symm) lN;have keep':∀b o,b<h₀.objs.size->h₀.get? b=some o->h'.get? b=some o:=λb o aM e=>cC b o (by simp;exact λq=>absurd aM (by erw[q];exact bQ.mpr hI)) (si b o aM e);show aj _ A.in1 (tryCatch (holding [v,v] (pk .Lt v vb >>= _)) _ >>= _) _ _ _;refine ag (pq (cu (ag (qd (j+1) (argBest bt j) v vb _ _ _ hP hb keep' ?_))));refine ag (cu (AQ ?_));refine ag (nT (am ?_));cases uk:bt (j+1) (argBest bt j) with
  |true=>
   simp only[if_true];refine ag ?_;refine nS fT rfl (ag (nT ?_));erw[lM];have hJ:∀b o,b≠S->h'.get? b=some o->(h'.update S (ma λzz=>#[v,v])).get? b=some o:=λb o hb e=>(jC _ _ (bV hb)).trans e;refine am ⟨ii rn _,ih (j+1) _ v _ (congrArg pb hk) aM (iR.1.at λo e=>hJ I o iQ e) (iR.2.at λo e=>hJ ax o pP.symm e)
    (λb o aM e=>hJ b o (λq=>absurd aM (by erw[q];exact bQ.mpr hS)) (keep' b o aM e)) (by simp only[argBest,uk,if_true];exact hP) (gY _ fT rfl) λv' iG lB lA lw=>?_⟩
   exact hR v' iG lB lA λb o lu jL e=>lw b o lu jL ((jC _ _ (bV jL)).trans (cC b o (by simpa using lu) e))
  |false=>
   simp only[eG,if_false];refine ag (nT ?_);erw[lM];refine am ⟨ii rn _,ih (j+1) _ vb c (congrArg pb hk) aM iR.1 iR.2 keep' (by simp only[argBest,uk,eG,if_false];exact hb) fT λv' iG lB lA lw=>?_⟩;exact hR v' iG lB lA λb o lu jL e=>lw b o lu jL (cC b o (by simpa using lu) e)
end
section
variable{prog:gf}{w:gh}{A:Around}{R:gH->Shared->Prop}
theorem U4{h₀:Heap}{I ax S:Addr}{items:Array Value}(hh:A.handled=none)(hI:h₀.objs.size<=I)(ux:ax<h₀.objs.size)(hS:h₀.objs.size<=S)(iQ:I≠S)(bt:Nat->Nat->Bool)
  (qd:∀(i j:Nat) (vi vj:Value) (s:Shared) (Q:Value->Shared->Prop) (E:Value->Shared->Prop),items[i]?=some vi->items[j]?=some vj->(∀b o,b<h₀.objs.size->h₀.get? b=some o->s.heap.get? b=some o)->Q (.bool (bt i j)) s->aj (av prog w) A.in1 (pk .Gt vi vj) Q E s) :
  ∀(k j:Nat) (s:Shared) (vb:Value) (c:Nat),items.size-(j+1)=k->j+1<=items.size->s.heap.IsListIter I ax (j+1)->s.heap.IsList ax items->(∀b o,b<h₀.objs.size->h₀.get? b=some o->s.heap.get? b=some o)->items[argBest bt j]?=some vb ->
  s.heap.get? S=some (dj [vb,vb] c) ->
  (∀v h' tk,items[argBest bt (items.size-1)]?=some v->(∀b o,b≠I->b≠S->s.heap.get? b=some o->h'.get? b=some o)->R (.ok (.ret v)) {s with heap:=h',toks:=tk}) ->
  cM (av prog w) A (.builtin "max.loop" ⟨[.ref I,.none,.ref S],[]⟩) R s:=by
 have W:=Ae (prog:=prog) (w:=w) (A:=A.in1) hh I ax (b5 (dT ux hI)) items;have pP:S≠ax:=(b5 (dT ux hS)).symm;have lM:(toString "max"++toString ".loop":String)="max.loop":=by decide
 intro k;induction k with
 |zero=>
  intro j s vb c hk hj hit hl si hb lN hR;have up:j+1=items.size:=fJ hj (oY hk);refine ij E7 ?_;erw[iz ro _];show aj _ A.in1 (nR (.ref S) >>= _) _ _ s;refine ag (ln lN rfl ?_);show aj _ A.in1 (tryCatch (fP (.ref I)) _ >>= _) _ _ s;refine ag (pq (W.done s _ _ (up▸⟨hit,hl⟩) λh' tk cC=>?_));have fT:=cC S _ (by simp;exact iQ.symm) lN;show aj _ A.in1 (tU S (λzz=>#[]) >>= _) _ _ _;refine ag ?_;refine nS fT rfl (ag (nT (am ?_)));exact hR vb _ tk (by erw[<- up];exact hb) λb o Bs jL e=>(jC _ _ (bV jL)).trans (cC b o (by simpa using Bs) e)
 |succ k ih=>
  intro j s vb c hk hj hit hl si hb lN hR;have aM:j+1<items.size:=nK hk;refine ij E7 ?_;erw[iz ro _];show aj _ A.in1 (nR (.ref S) >>= _) _ _ s;refine ag (ln lN rfl ?_);show aj _ A.in1 (tryCatch (fP (.ref I)) _ >>= _) _ _ s;refine ag (pq (W.item (j+1) s _ _ aM ⟨hit,hl⟩ λv h' tk hP iR cC=>?_));have fT:=cC S _ (by simp;exact iQ.symm) lN;have keep':∀b o,b<h₀.objs.size->h₀.get? b=some o->h'.get? b=some o:=λb o aM e=>cC b o (by simp;exact λq=>absurd aM (by erw[q];exact bQ.mpr hI)) (si b o aM e);show aj _ A.in1 (tryCatch (holding [v,v] (pk .Gt v vb >>= _)) _ >>= _) _ _ _;refine ag (pq (cu (ag (qd (j+1) (argBest bt j) v vb _ _ _ hP hb keep' ?_))));refine ag (cu (AQ ?_));refine ag (nT (am ?_));cases uk:bt (j+1) (argBest bt j) with
  |true=>
   simp only[if_true];refine ag ?_;refine nS fT rfl (ag (nT ?_));erw[lM];have hJ:∀b o,b≠S->h'.get? b=some o->(h'.update S (ma λzz=>#[v,v])).get? b=some o:=λb o hb e=>(jC _ _ (bV hb)).trans e;refine am ⟨ii ro _,ih (j+1) _ v _ (congrArg pb hk) aM (iR.1.at λo e=>hJ I o iQ e) (iR.2.at λo e=>hJ ax o pP.symm e)
    (λb o aM e=>hJ b o (λq=>absurd aM (by erw[q];exact bQ.mpr hS)) (keep' b o aM e)) (by simp only[argBest,uk,if_true];exact hP) (gY _ fT rfl) λv' iG lB lA lw=>?_⟩
   exact hR v' iG lB lA λb o lu jL e=>lw b o lu jL ((jC _ _ (bV jL)).trans (cC b o (by simpa using lu) e))
  |false=>
   simp only[eG,if_false];refine ag (nT ?_);erw[lM];refine am ⟨ii ro _,ih (j+1) _ vb c (congrArg pb hk) aM iR.1 iR.2 keep' (by simp only[argBest,uk,eG,if_false];exact hb) fT λv' iG lB lA lw=>?_⟩;exact hR v' iG lB lA λb o lu jL e=>lw b o lu jL (cC b o (by simpa using lu) e)
end
section
variable{prog:gf}{w:gh}{A:Around}{E:Value->Shared->Prop}{s:Shared}
theorem U5{l:Addr}{items:Array Value}{Q:Value->Shared->Prop}(hh:A.handled=none)(hl:s.heap.IsList l items)(hn:0<items.size)(bt:Nat->Nat->Bool)
  (qd:∀(i j:Nat) (vi vj:Value) (s':Shared) (Q:Value->Shared->Prop) (E:Value->Shared->Prop),items[i]?=some vi->items[j]?=some vj->(∀b o,b<s.heap.objs.size->s.heap.get? b=some o->s'.heap.get? b=some o)->Q (.bool (bt i j)) s'->aj (av prog w) A.in1 (pk .Lt vi vj) Q E s')
  (hQ:∀v h' tk,items[argBest bt (items.size-1)]?=some v->(∀b o,s.heap.get? b=some o->h'.get? b=some o)->Q v {s with heap:=h',toks:=tk}) :
  aj (av prog w) A (call (.builtin "min") [.ref l]) Q E s:=by
 have lM:(toString "min"++toString ".loop":String)="min.loop":=by decide
 have pB:l<s.heap.objs.size:=by refine e12 (id hl) λo ho _=>?_;exact cF ho
 refine Of F.kind_min F.plain_min F.entry_min (F.args_min1 _) ?_;show aj _ A.in1 (Af "min" ["key","default"] 0 ⟨[],[]⟩ >>= _) _ _ s;refine ag (lm (show Af "min" ["key","default"] 0 ⟨[],[]⟩=pure [none,none] from rfl) ?_);refine ag (am ?_);refine ag (wY hl ?_);refine ag (gG ?_ (by size_fits));erw[lM];refine am ⟨ii rn _,?_⟩;have Bh:(s.heap.push {cls:=.type "list_iterator",data:=.fields #[.ref l,.int 0 0]}).get? s.heap.objs.size=some _:=co _ rfl;generalize uf:({cls:=.type "list_iterator",data:=.fields #[.ref l,.int 0 0]}:Obj)=oI at *;have uD:((s.heap.push oI).push {cls:=.type "list",data:=.seq ([]:List Value).toArray}).get? (s.heap.push oI).objs.size=some (dj [] 0):=co _ rfl;have iQ:s.heap.objs.size≠(s.heap.push oI).objs.size:=by erw[dS];exact λq=>b5 (aq _) q
 have gI:s.heap.objs.size<=(s.heap.push oI).objs.size:=by erw[dS];exact bK _ _
 have qf:∀b o,s.heap.get? b=some o->((s.heap.push oI).push {cls:=.type "list",data:=.seq ([]:List Value).toArray}).get? b=some o:=λb o e=>du _ (du _ e);have hit:((s.heap.push oI).push {cls:=.type "list",data:=.seq ([]:List Value).toArray}).IsListIter s.heap.objs.size l 0:=⟨oI,du _ Bh,by erw[<- uf],by erw[<- uf];rfl⟩;have uH:((s.heap.push oI).push {cls:=.type "list",data:=.seq ([]:List Value).toArray}).IsList l items:=by refine e12 hl ?_;intro o ho r;exact aB o (qf _ _ ho) r
 generalize (s.heap.push oI).objs.size=S at *;generalize ((s.heap.push oI).push {cls:=.type "list",data:=.seq ([]:List Value).toArray})=hp at *;have W:=Ae (prog:=prog) (w:=w) (A:=A.in1) hh s.heap.objs.size l (b5 pB) items;refine ij E6 ?_;erw[iz rn _];show aj _ _ (nR (.ref S) >>= _) _ _ _;refine ag (ln uD rfl ?_);show aj _ _ (tryCatch (fP (.ref s.heap.objs.size)) _ >>= _) _ _ _;refine ag (pq (W.item 0 _ _ _ hn ⟨hit,uH⟩ λv h' tk hP iR cC=>?_));have fT:=cC S _ (by simp;exact iQ.symm) uD;show aj _ _ (tU S (λzz=>#[v,v]) >>= _) _ _ _;refine ag ?_;refine nS fT rfl ?_;erw[lM];have hJ:∀b o,b≠S->h'.get? b=some o->(h'.update S (ma λzz=>#[v,v])).get? b=some o:=λb o hb e=>(jC _ _ (bV hb)).trans e;have pP:l≠S:=b5 (dT pB gI);refine am ⟨ii rn _,U3 (h₀:=s.heap) hh (aq _) pB gI iQ bt qd _ 0 _ v _ rfl hn (iR.1.at λo e=>hJ _ o iQ e) (iR.2.at λo e=>hJ l o pP e) (λb o aM e=>hJ b o (b5 (dT aM gI)) (cC b o (by simpa using b5 aM) (qf b o e))) hP (gY _ fT rfl) λv' iG lB lA lw=>?_⟩
 refine hQ v' iG lB lA λb o e=>?_;have aM:=cF e;have ud:=b5 (dT aM gI);exact lw b o (b5 aM) ud (hJ b o ud (cC b o (by simpa using b5 aM) (qf b o e)))
end
section
variable{prog:gf}{w:gh}{A:Around}{E:Value->Shared->Prop}{s:Shared}
theorem U6{l:Addr}{items:Array Value}{Q:Value->Shared->Prop}(hh:A.handled=none)(hl:s.heap.IsList l items)(hn:0<items.size)(bt:Nat->Nat->Bool)
  (qd:∀(i j:Nat) (vi vj:Value) (s':Shared) (Q:Value->Shared->Prop) (E:Value->Shared->Prop),items[i]?=some vi->items[j]?=some vj->(∀b o,b<s.heap.objs.size->s.heap.get? b=some o->s'.heap.get? b=some o)->Q (.bool (bt i j)) s'->aj (av prog w) A.in1 (pk .Gt vi vj) Q E s')
  (hQ:∀v h' tk,items[argBest bt (items.size-1)]?=some v->(∀b o,s.heap.get? b=some o->h'.get? b=some o)->Q v {s with heap:=h',toks:=tk}) :
  aj (av prog w) A (call (.builtin "max") [.ref l]) Q E s:=by
 have lM:(toString "max"++toString ".loop":String)="max.loop":=by decide
 have pB:l<s.heap.objs.size:=by refine e12 (id hl) λo ho _=>?_;exact cF ho
 refine Of F.kind_max F.plain_max F.entry_max (F.args_max1 _) ?_;show aj _ A.in1 (Af "max" ["key","default"] 0 ⟨[],[]⟩ >>= _) _ _ s;refine ag (lm (show Af "max" ["key","default"] 0 ⟨[],[]⟩=pure [none,none] from rfl) ?_);refine ag (am ?_);refine ag (wY hl ?_);refine ag (gG ?_ (by size_fits));erw[lM];refine am ⟨ii ro _,?_⟩;have Bh:(s.heap.push {cls:=.type "list_iterator",data:=.fields #[.ref l,.int 0 0]}).get? s.heap.objs.size=some _:=co _ rfl;generalize uf:({cls:=.type "list_iterator",data:=.fields #[.ref l,.int 0 0]}:Obj)=oI at *;have uD:((s.heap.push oI).push {cls:=.type "list",data:=.seq ([]:List Value).toArray}).get? (s.heap.push oI).objs.size=some (dj [] 0):=co _ rfl;have iQ:s.heap.objs.size≠(s.heap.push oI).objs.size:=by erw[dS];exact λq=>b5 (aq _) q
 have gI:s.heap.objs.size<=(s.heap.push oI).objs.size:=by erw[dS];exact bK _ _
 have qf:∀b o,s.heap.get? b=some o->((s.heap.push oI).push {cls:=.type "list",data:=.seq ([]:List Value).toArray}).get? b=some o:=λb o e=>du _ (du _ e);have hit:((s.heap.push oI).push {cls:=.type "list",data:=.seq ([]:List Value).toArray}).IsListIter s.heap.objs.size l 0:=⟨oI,du _ Bh,by erw[<- uf],by erw[<- uf];rfl⟩;have uH:((s.heap.push oI).push {cls:=.type "list",data:=.seq ([]:List Value).toArray}).IsList l items:=by refine e12 hl ?_;intro o ho r;exact aB o (qf _ _ ho) r
 generalize (s.heap.push oI).objs.size=S at *;generalize ((s.heap.push oI).push {cls:=.type "list",data:=.seq ([]:List Value).toArray})=hp at *;have W:=Ae (prog:=prog) (w:=w) (A:=A.in1) hh s.heap.objs.size l (b5 pB) items;refine ij E7 ?_;erw[iz ro _];show aj _ _ (nR (.ref S) >>= _) _ _ _;refine ag (ln uD rfl ?_);show aj _ _ (tryCatch (fP (.ref s.heap.objs.size)) _ >>= _) _ _ _;refine ag (pq (W.item 0 _ _ _ hn ⟨hit,uH⟩ λv h' tk hP iR cC=>?_));have fT:=cC S _ (by simp;exact iQ.symm) uD;show aj _ _ (tU S (λzz=>#[v,v]) >>= _) _ _ _;refine ag ?_;refine nS fT rfl ?_;erw[lM];have hJ:∀b o,b≠S->h'.get? b=some o->(h'.update S (ma λzz=>#[v,v])).get? b=some o:=λb o hb e=>(jC _ _ (bV hb)).trans e;have pP:l≠S:=b5 (dT pB gI);refine am ⟨ii ro _,U4 (h₀:=s.heap) hh (aq _) pB gI iQ bt qd _ 0 _ v _ rfl hn (iR.1.at λo e=>hJ _ o iQ e) (iR.2.at λo e=>hJ l o pP e) (λb o aM e=>hJ b o (b5 (dT aM gI)) (cC b o (by simpa using b5 aM) (qf b o e))) hP (gY _ fT rfl) λv' iG lB lA lw=>?_⟩
 refine hQ v' iG lB lA λb o e=>?_;have aM:=cF e;have ud:=b5 (dT aM gI);exact lw b o (b5 aM) ud (hJ b o ud (cC b o (by simpa using b5 aM) (qf b o e)))
end
theorem U7(l b:Addr)(ps qs:List (Str × Tok))(xs ys:List Cps)(hx:ps.map (·.1)=xs.map ao)(hy:qs.map (·.1)=ys.map ao)(n n2:Nat) :
  Meets (Builtin.«list.__lt__» ⟨[.ref l,.ref b],[]⟩) (λA R s=>s.heap.get? l=some (dj (cG ps) n)/\s.heap.get? b=some (dj (cG qs) n2)/\R (.ok (.ret (.bool (ltR xs ys)))) s):=by
 intro prog w A R s h;obtain ⟨hp,g,d,tk,os⟩:=s;refine e03 h ?_;clear h;intro hl hb h;have f3:=MM
 wp_walk using wpAny_loadPart' hl,wpAny_loadPart' hb
 exact ⟨ii plain_eq_loop _,ij entry_eq_loop (by
  erw[iz plain_eq_loop _];exact U0 l b ps qs xs ys hx hy n n2 _ 0 rfl (bW _) (bW _) prog w A R _ ⟨hl,hb,by simpa using h⟩)⟩
theorem U8(l b:Addr)(ps qs:List (Str × Tok))(xs ys:List Cps)(hx:ps.map (·.1)=xs.map ao)(hy:qs.map (·.1)=ys.map ao)(n n2:Nat) :
  Meets (Builtin.«list.__gt__» ⟨[.ref l,.ref b],[]⟩) (λA R s=>s.heap.get? l=some (dj (cG ps) n)/\s.heap.get? b=some (dj (cG qs) n2)/\R (.ok (.ret (.bool (ltR ys xs)))) s):=by
 intro prog w A R s h;obtain ⟨hp,g,d,tk,os⟩:=s;refine e03 h ?_;clear h;intro hl hb h;have f3:=MM
 wp_walk using wpAny_loadPart' hl,wpAny_loadPart' hb
 exact ⟨ii plain_eq_loop _,ij entry_eq_loop (by
  erw[iz plain_eq_loop _];exact U1 l b ps qs xs ys hx hy n n2 _ 0 rfl (bW _) (bW _) prog w A R _ ⟨hl,hb,by simpa using h⟩)⟩
section
variable{Γ:Gam}{ρ:List Addr}{H:List AO}{k:Nat}
theorem yl{h:Heap}{l:List AV}{xs:List Int}{vs:List Value}(hi:jU l=some xs)(r:VReps ρ h l vs){i:Nat}{v:Value}(e:vs.toArray[i]?=some v):∃t,v=.int (xs.getD i 0) t:=by
 refine e12 (H9 hi r) λps aC hp=>?_;subst aC;simp at e;refine e22 e ?_;clear e;intro a b e1 aI;subst aI;refine ⟨b,?_⟩;erw[<- hp];simp[List.getD,e1]
theorem ym{h:Heap}{l:List AV}:∀{xs:List (List Cps)} {vs:List Value},HRep Γ ρ h H->mv H l=some xs->VReps ρ h l vs->∀{i:Nat} {v:Value},vs[i]?=some v->∃a ps n,v=.ref a/\h.get? a=some (dj (cG ps) n)/\ps.map (·.1)=(xs.getD i []).map ao:=by
 induction l with
 |nil=>
  intro xs vs P e x i v hv;cases (show vs=[] from x);injection hv
 |cons d l ih=>
  intro xs _ P e x i v hv;refine e23 x ?_;clear x;intro u vs e1 x y;subst e1;refine e12 (ey e) ?_;clear e;intro n e1 e;refine e12 (ey e) ?_;clear e;intro m hn e;refine e12 (ey e) ?_;clear e;intro p hp e;refine e12 (fN.mp e) ?_;clear e;intro q hq e;subst e;induction i using jv with
  |zero=>
   cases x0 e1;refine e12 x ?_;clear x;intro a e2 ha;refine e22 (P.list (Cv hn) ha) λws m g rx=>?_;refine e12 (CN hp rx) λps e3 h2=>?_;clear rx;subst e3;exact B9 a ps m ((l5 hv).symm.trans e2) g h2
  |succ i=>exact ih P hq y (i:=i) (v:=v) hv
theorem Ii{c:Int->Int->Bool}{e:List Cps->List Cps->Bool}{l:List AV}{d:AV}{C:(Nat->Nat->Bool)->Prop}(h:ql c e H l=some d)(h1:∀xs,jU l=some xs->C λi j=>c (xs.getD i 0) (xs.getD j 0))(h2:∀xs,mv H l=some xs->C λi j=>e (xs.getD i []) (xs.getD j [])):l≠[]/\∃bt,C bt/\l[argBest bt (l.length-1)]?=some d:=by
 induction l using bI with
 |nil=>exact nomatch h
 |cons v r=>
  refine e12 (ey h) ?_;clear h;intro bt hb h;refine ⟨nofun,bt,(EI.mp hb).elim (λq=>?_) λq=>?_,h⟩
  ·refine e12 (fN.mp q) λxs hx e=>?_;exact e▸h1 xs hx
  ·refine e12 (fN.mp q.2) λxs hx e=>?_;exact e▸h2 xs hx
theorem Ij{l:List AV}{ws:List Value}{d:AV}{s':Shared}{bt:Nat->Nat->Bool}(rx:VReps ρ s'.heap l ws)(hd:l[argBest bt (l.length-1)]?=some d)(v:Value)(h':Heap)(hv:ws.toArray[argBest bt (ws.toArray.size-1)]?=some v)(hk:∀b o,s'.heap.get? b=some o->h'.get? b=some o) :
  (Le s'.heap h'/\s'.gens=s'.gens/\s'.os=s'.os)/\VRep ρ h' d v:=by
 refine e12 (rx.get hd) λu e1 e2=>?_;have:u=v:=l5 (e1.symm.trans (by rw[<- rx.length];simpa using hv))
 exact ⟨⟨hk,rfl,rfl⟩,VRep.mono (.refl _) (λb o _ e=>hk b o e) _ _ (this▸e2)⟩
def Ik(Γ:Gam)(A:Around)(s:Shared)(items:Array Value)(op:CmpOp)(bt:Nat->Nat->Bool):Prop:=∀(i j:Nat) (vi vj:Value) (s':Shared) (Q:Value->Shared->Prop) (E:Value->Shared->Prop),items[i]?=some vi->items[j]?=some vj->(∀b o,b<s.heap.objs.size->s.heap.get? b=some o->s'.heap.get? b=some o)->Q (.bool (bt i j)) s'->aj (av Γ.prog Γ.w) A.in1 (pk op vi vj) Q E s'
theorem Il{h:Heap}{l:List AV}{ws:List Value}(h0:l≠[])(rx:VReps ρ h l ws):0<ws.toArray.size:=by
 induction l using bI with
 |nil=>exact absurd rfl h0
 |cons=>refine e22 rx ?_;clear rx;intro v us e _;subst e;exact Ag _
theorem U9[NeZero k]{n:Nat}{l:List AV}{d:AV}(hn:H[n]?=some (.list l))(hm:sv H l=some d):CallP Γ k (.builtin "min") [.loc n] H d H:=.keeps1 λA s' ρ vs R S r=>by
 refine e12 (gN r) ?_;clear r;intro v e r;refine e12 r ?_;clear r;intro a e2 ha;subst e e2;refine e22 (S.hp.list hn ha) λws j g rx=>?_;obtain ⟨h0,bt,h1,h2⟩:=Ii (C:=Ik Γ A s' ws.toArray .Lt) hm (λxs hx i j vi vj ay Q E hi hj _ hq=>by
  refine e11 (yl hx rx hi) λt e1=>?_;refine e11 (yl hx rx hj) λu e2=>?_;rw[e1,e2];exact Me hq) (λxs hx i j vi vj ay Q E hi hj hk hq=>by
  refine e33 (ym S.hp hx rx (i:=i) (pa.symm.trans hi)) λp ps n1 e1 g1 h1=>?_;refine e33 (ym S.hp hx rx (i:=j) (pa.symm.trans hj)) λq qs n2 e2 g2 h2=>?_;have pC:=hk _ _ (cF g1) g1;have p8:=hk _ _ (cF g2) g2;rw[e1,e2];exact Og (op:=.Lt) (T:="list") ⟨_,pC,rfl⟩ ⟨_,p8,rfl⟩ PySem.F.slot_list_lt PySem.F.entry_list_lt (PySem.F.args_list_lt_2 _ _) (U7 p q ps qs _ _ h1 h2 n1 n2) ⟨pC,p8,(λe=>nomatch e),hq⟩ (by have:=(CP R).u0 (n:=2) (by decide);simp;exact bk this))
 exact U5 R.handled (dk g) (Il h0 rx) bt h1 λv h' _=>Ij rx h2 v h'
theorem Va[NeZero k]{n:Nat}{l:List AV}{d:AV}(hn:H[n]?=some (.list l))(hm:vm H l=some d):CallP Γ k (.builtin "max") [.loc n] H d H:=.keeps1 λA s' ρ vs R S r=>by
 refine e12 (gN r) ?_;clear r;intro v e r;refine e12 r ?_;clear r;intro a e2 ha;subst e e2;refine e22 (S.hp.list hn ha) λws j g rx=>?_;obtain ⟨h0,bt,h1,h2⟩:=Ii (C:=Ik Γ A s' ws.toArray .Gt) hm (λxs hx i j vi vj ay Q E hi hj _ hq=>by
  refine e11 (yl hx rx hi) λt e1=>?_;refine e11 (yl hx rx hj) λu e2=>?_;rw[e1,e2];exact Mf hq) (λxs hx i j vi vj ay Q E hi hj hk hq=>by
  refine e33 (ym S.hp hx rx (i:=i) (pa.symm.trans hi)) λp ps n1 e1 g1 h1=>?_;refine e33 (ym S.hp hx rx (i:=j) (pa.symm.trans hj)) λq qs n2 e2 g2 h2=>?_;have pC:=hk _ _ (cF g1) g1;have p8:=hk _ _ (cF g2) g2;rw[e1,e2];exact Og (op:=.Gt) (T:="list") ⟨_,pC,rfl⟩ ⟨_,p8,rfl⟩ PySem.F.slot_list_gt PySem.F.entry_list_gt (PySem.F.args_list_gt_2 _ _) (U8 p q ps qs _ _ h1 h2 n1 n2) ⟨pC,p8,(λe=>nomatch e),hq⟩ (by have:=(CP R).u0 (n:=2) (by decide);simp;exact bk this))
 exact U6 R.handled (dk g) (Il h0 rx) bt h1 λv h' _=>Ij rx h2 v h'
end
structure eX(K:Frag)(T:eW):Prop where
 meth:∀c x a,T.meth c x=some a->tV K c x=true/\ki K (.ref c) x=some (some (.ref a))/\isFn K (.ref a)=true
 slot:∀c x i,T.slot c x=some i->∃p,tV K c x=true/\AX K c=true/\ki K (.ref c) x=some (some (.ref p))/\rO K (.ref p) "__get__"=some (some (.builtin "member_descriptor.__get__"))/\w9 K (.ref p)=some true/\slotIn K p c=some i /\
  ki K (.ref c) "__setattr__"=some (some (.builtin "object.__setattr__"))/\xa K c=true/\xb K c x=some (some (.ref p))/\AY K (.ref p)=some (.type "member_descriptor")/\i<1000
 own:∀c x,T.own c x=true->tV K c x=true/\xc K c=true/\ki K (.ref c) x=some none/\ki K (.ref c) "__setattr__"=some (some (.builtin "object.__setattr__"))/\xa K c=true/\xb K c x=some none
section
variable{Γ:Gam}{ρ:List Addr}{H:List AO}{T:eW}
theorem SimH.K{s:Shared}(S:SimH Γ ρ H s):Γ.K.In s.heap:=Γ.inK.keeps S.base
theorem NReps.find{h:Heap}{x:Str}:∀{fs:List (Str × AV)} {es:List DictEntry},NReps ρ h fs es->getL x es=match fs.lookup x with|some d=>(es.find? (·.key.isStr x)).map (λe=>some e.val)|none=>some none:=λ{fs}=>by
 induction fs with
 |nil=>
  intro _ e;cases (show _=[] from e);rfl
 |cons hd r ih=>
  intro _ cO;obtain ⟨y,d⟩:=hd;refine e23 cO ?_;clear cO;intro e es q aC aI;refine e11 aC λt hk=>?_;refine e02 aI λhv hr=>?_;subst q;have ih:=ih hr;erw[dW];have mu:e.key.isStr x=(x==y):=by
   erw[hk];show (_==_)=_;by_cases q:x=y
   ·clear hk;subst q;rw[beq_self_eq_true]
   ·rw[beq_eq_false_iff_ne.mpr q,beq_eq_false_iff_ne.mpr (bV q)]
  unfold getL at ih ⊢;erw[zT,mu];cases hb:x==y with
  |true=>rfl
  |false=>
   simp only;have rk:e.refKey=false:=by unfold DictEntry.refKey;erw[hk]
   erw[rp,rk,MN];exact ih
theorem NReps.get{h:Heap}{x:Str}:∀{fs:List (Str × AV)} {es:List DictEntry} {d:AV},NReps ρ h fs es->fs.lookup x=some d->∃e,es.find? (·.key.isStr x)=some e/\VRep ρ h d e.val
 |(y,d')::r,_,d,⟨e,es,q,⟨t,hk⟩,hv,hr⟩,hl=>by
  subst q;rw[dW] at hl;have mu:e.key.isStr x=(x==y):=by
   erw[hk];show (_==_)=_;by_cases q:x=y
   ·clear hk hl;subst q;rw[beq_self_eq_true]
   ·rw[beq_eq_false_iff_ne.mpr q,beq_eq_false_iff_ne.mpr (bV q)]
  erw[zT,mu];cases hb:x==y with
  |true=>rw[hb] at hl;(injection hl with aS;subst aS);exact aB e rfl hv
  |false=>rw[hb] at hl;exact NReps.get hr hl
theorem Im{h:Heap}{d:AV}{v:Value}(e:oz d=true)(r:VRep ρ h d v):handedIn v=true:=by
 induction d using AV.casesOn with
 |none=>cases (show v=_ from r);rfl
 |bool _=>cases (show v=_ from r);rfl
 |int _=>refine e11 r ?_;clear r;intro t be;subst be;rfl
 |str _=>refine e11 r ?_;clear r;intro t bw;subst bw;rfl
 |tup _=>refine e32 r ?_;clear r;intro a vs n bA _;subst bA;rfl
 |loc _=>refine e12 r ?_;clear r;intro a bN _;subst bN;rfl
 |fn _=>cases (show v=_ from r);rfl
 |typ _=>cases (show v=_ from r);rfl
 |bi _=>injection e
 |rng _ _ _=>refine e42 r ?_;clear r;intro a _ _ _ ch _;subst ch;rfl
 |nxt _=>refine e22 r ?_;clear r;intro a _ cg _;subst cg;rfl
 |vw _=>refine e22 r ?_;clear r;intro a _ cm _;subst cm;rfl
theorem HRep.inst{h:Heap}(P:HRep Γ ρ h H){n c d:Nat}{fs:List (Str × AV)}(hn:H[n]?=some (.inst c d))(hd:H[d]?=some (.ns fs)){a:Addr}(ha:ρ[n]?=some a) :
  ∃dx es m,h.get? a=some {cls:=.ref c,dict:=some dx}/\ρ[d]?=some dx/\h.get? dx=some (Hn es m)/\NReps ρ h fs es/\(fs.map (·.1)).Nodup/\InstAt h a {cls:=.ref c,dict:=some dx} c (some (dictOf es m)):=by
 refine e12 (P.obj n _ a hn ha) λdx e1 e2=>?_;refine e23 (P.obj d _ dx hd e2) λes m e3 e4 e5=>?_;exact ⟨dx,es,m,e1,e2,e3,e4,e5,⟨e1,rfl,rfl,e3⟩⟩
theorem HRep.slots{h:Heap}(P:HRep Γ ρ h H){n c d:Nat}{vs:List AV}{fs:List (Str × AV)}(hn:H[n]?=some (.slots c d vs))(hd:H[d]?=some (.ns fs)){a:Addr}(ha:ρ[n]?=some a) :
  ∃(dx:Addr) (ws:List Value) (es:List DictEntry) (m:Nat),h.get? a=some {cls:=.ref c,dict:=some dx,slots:=(ws.map some).toArray}/\ρ[d]?=some dx/\VReps ρ h vs ws/\InstAt h a {cls:=.ref c,dict:=some dx,slots:=(ws.map some).toArray} c (some (dictOf es m)):=by
 refine e23 (P.obj n _ a hn ha) λus dx e1 e2 cW=>?_;refine e12 cW λws d0 e3=>?_;subst d0;refine e22 (P.obj d _ dx hd e2) λes m e4 _=>?_;exact ⟨dx,ws,es,m,e1,e2,e3,⟨e1,rfl,rfl,e4⟩⟩
theorem AttrP.own(TO:eX Γ.K T){n c m:Nat}{x:Str}{fs:List (Str × AV)}{r:AV}(hn:H[n]?=some (.inst c m))(hm:H[m]?=some (.ns fs))(ho:T.own c x=true)(h0:fs.lookup x=some r)(n7:oz r=true):AttrP Γ x (.loc n) H r H:=λA s ρ o b R S q7=>e12 q7 λa y ha=>by
 clear q7;subst y;refine e04 (TO.own _ _ ho) λt1 t2 t3 _=>?_;refine e34 (S.hp.inst hn hm ha) λdx es k e1 e2 e3 d5=>?_;refine e03 d5 λe4 e5 I=>?_;refine e12 (e4.get h0) λe f1 f2=>?_;have g1:=NReps.find (x:=x) e4;rw[h0,f1] at g1;exact Pr.sle S (get_value S.K I (rP t1).1 (findObj_own t2 t3 rfl (by erw[AZ,g1];rfl)) (Im n7 f2) ⟨.tok _ _,f2⟩)
theorem AttrP.slot(TO:eX Γ.K T){n c m i:Nat}{x:Str}{fs:List (Str × AV)}{vs:List AV}{r:AV}(hn:H[n]?=some (.slots c m vs))(hm:H[m]?=some (.ns fs))(hi:T.slot c x=some i)(h1:vs[i]?=some r)(n7:oz r=true):AttrP Γ x (.loc n) H r H:=λA s ρ o b R S q7=>e12 q7 λa y ha=>by
 clear q7;subst y;refine e15 (TO.slot _ _ _ hi) λp t1 t2 t3 t4 dJ=>?_;refine e03 dJ λt5 t6 _=>?_;refine e43 (S.hp.slots hn hm ha) λdx ws es k e1 e2 dY=>?_;refine e02 dY λe3 I=>?_;refine e12 (e3.get h1) λw f1 f2=>?_;exact Pr.sle S (get_bind S.K I (rP t1).1 (findObj_data t2 t3 t4 t5) (rP t1).2 (tM (slot_get (s:={s with toks:=s.toks+1}) S.K I t6 (v:=w) (by
  show ((ws.map some).toArray[i]?).join=some w;erw[pa,ga,f1];rfl) (handed_on (Im n7 f2) ⟨.tok _ _,f2⟩))))
theorem AttrP.of(TO:eX Γ.K T){d:AV}{x:Str}{P:AV->Prop}(h:ji T d x H P):∃r,(AttrP Γ x d H r H\/∃n l i,d=.loc n/\H[n]?=some (.iter l i)/\x="__next__"/\r=.nxt n)/\P r:=by
 refine e12 (jX h) λn eT g=>?_;subst eT;clear h;cases hn:H[n]? with
 |none=>rw[hn] at g;exact g.elim
 |some o=>
  rw[hn] at g;induction o using AO.casesOn
  case inst c m=>
   refine e02 g ?_;clear g;intro ho h;refine e12 (vn h) ?_;clear h;intro fs hm h;refine e13 (c7 h) ?_;clear h;intro r h0 hb h;exact aB r (.inl (.own TO hn hm ho h0 hb)) h
  case slots c m vs=>
   refine e12 (c7 g) λi hi h=>?_;refine e12 (vn h) ?_;clear h;intro fs hm h;refine e13 (c7 h) ?_;clear h;intro r h0 hb h;exact aB r (.inl (.slot TO hn hm hi h0 hb)) h
  case iter l i=>exact aB _ (.inr ⟨n,l,i,rfl,hn,g.1,rfl⟩) g.2
  all_goals exact g.elim
def vz(T:String)(p:Str × String):Prop:=Slot T p.1 p.2/\typeOf (.builtin p.2)=pure (.type "method_descriptor")
theorem Vb:∀p∈strM,vz "str" p:=ct.mpr ⟨⟨Mz,PySem.F.type_str_join⟩,ct.mpr ⟨⟨PySem.F.slot_str_startswith,PySem.F.type_str_startswith⟩,ct.mpr ⟨⟨PySem.F.slot_str_endswith,PySem.F.type_str_endswith⟩,ct.mpr ⟨⟨Ab,PySem.F.type_str_split⟩,ct.mpr ⟨⟨PySem.F.slot_str_rfind,PySem.F.type_str_rfind⟩,ct.mpr ⟨⟨PySem.F.slot_str_rstrip,PySem.F.type_str_rstrip⟩,λzz h=>nomatch h⟩⟩⟩⟩⟩⟩
theorem Vc:∀p∈listM,vz "list" p:=ct.mpr ⟨⟨PySem.F.slot_list_append,PySem.F.type_list_append⟩,ct.mpr ⟨⟨MI,PySem.F.type_list_extend⟩,ct.mpr ⟨⟨PySem.F.slot_list_pop,PySem.F.type_list_pop⟩,ct.mpr ⟨⟨MH,PySem.F.type_list_clear⟩,λzz h=>nomatch h⟩⟩⟩⟩
theorem Vd:∀p∈dictM,vz "dict" p:=ct.mpr ⟨⟨MJ,PySem.F.type_dict_get⟩,ct.mpr ⟨⟨ML,PySem.F.type_dict_values⟩,λzz h=>nomatch h⟩⟩
theorem Ve:∀p∈setM,vz "set" p:=ct.mpr ⟨⟨PySem.F.slot_set_add,PySem.F.type_set_add⟩,λzz h=>nomatch h⟩
theorem MethP.bi{A:Around}{s:Shared}{v:Value}{T:String}{t:List (Str × String)}(ht:∀p∈t,vz T p){x:Str}{id:String}(hl:t.lookup x=some id)(hT:s.TypeIs v T)(hp:PlainAttrs T)(hd:∀a,v=.ref a->∃o,s.heap.get? a=some o/\o.dict=none)(pl:Sem Bool):aj (av Γ.prog Γ.w) A (getMethod v x pl) (λr s'=>r=(.builtin id,[v])/\SLe s s') (λzz zz=>False) s:=by
 refine e02 (ht _ (mem_of_lookup hl)) λq1 q2=>?_;exact getMethod_builtin hT hp q1 q2 hd ⟨rfl,.refl _⟩
noncomputable def yn:AV->Value
 |.bi id=>.builtin id
 |.typ t=>.type t
 |.fn a=>.ref a
 |_=>.none
theorem MethP.of(TO:eX Γ.K T){d:AV}{x:Str}{P:AV->Prop}(h:lQ T d x H P):∃f,(MethP Γ x d H (yn f)/\((∃id,f=.bi id)\/∃n c m fs a,f=.fn a/\isFn Γ.K (.ref a)=true/\d=.loc n/\H[n]?=some (.inst c m)/\H[m]?=some (.ns fs)/\fs.lookup x=none/\T.meth c x=some a))/\P f:=by
 induction d using AV.casesOn
 case str c=>
  refine e12 (c7 h) ?_;clear h;intro id hl h;exact aB _ (⟨λA s ρ v pl R S q7=>e11 q7 λt y=>by clear q7;subst y;exact MethP.bi Vb hl (AW _ _ _) PySem.F.plainAttrs_str (λa e=>by injection e) pl,.inl ⟨id,rfl⟩⟩) h
 case loc n=>
  unfold lQ at h;dsimp only at h;cases hn:H[n]? with
  |none=>rw[hn] at h;exact h.elim
  |some o=>
   rw[hn] at h;induction o using AO.casesOn
   case list l=>
    refine e12 (c7 h) ?_;clear h;intro id hl h;refine aB _ (⟨λA s ρ v pl R S q7=>e12 q7 λa y ha=>?_,.inl ⟨id,rfl⟩⟩) h;clear q7;subst y;refine e22 (S.hp.list hn ha) λws j g rx=>?_;exact MethP.bi (v:=.ref a) Vc hl ⟨_,g,rfl⟩ PySem.F.plainAttrs_list (λb e=>by (injection e with eS;subst eS);exact aB _ g rfl) pl
   case dict es v=>
    refine e12 (c7 h) ?_;clear h;intro id hl h;refine aB _ (⟨λA s ρ v pl R S q7=>e12 q7 λa y ha=>?_,.inl ⟨id,rfl⟩⟩) h;clear q7;subst y;refine e22 (S.hp.dict hn ha) λaQ ep g rx=>?_;exact MethP.bi Vd hl g.dictOf.typeIs PySem.F.plainAttrs_dict g.dictOf.mapOf.noDict pl
   case set l=>
    refine e12 (c7 h) ?_;clear h;intro id hl h;refine aB _ (⟨λA s ρ v pl R S q7=>e12 q7 λa y ha=>?_,.inl ⟨id,rfl⟩⟩) h;clear q7;subst y;obtain ⟨F,⟨o,es,ep,t,g,xs,hd,_⟩,hm⟩:=S.hp.setA hn ha;exact MethP.bi (v:=.ref a) Ve hl ⟨_,g,xs.1⟩ PySem.F.plainAttrs_set (λb e=>by (injection e with fw;subst fw);exact aB _ g xs.2.1) pl
   case inst c m=>
    refine e13 (vn h) ?_;clear h;intro fs hm hsh h;refine e12 (c7 h) ?_;clear h;intro a ha h;refine e03 (TO.meth _ _ _ ha) λt1 t2 t3=>?_;refine aB _ (⟨λA s ρ v pl R S q7=>e12 q7 λb y hb=>?_,.inr ⟨n,c,m,fs,a,rfl,t3,rfl,hn,hm,hsh,ha⟩⟩) h;clear q7;subst y;refine e34 (S.hp.inst hn hm hb) λdx es k e1 e2 e3 fA=>?_;refine e03 fA λe4 e5 I=>?_;have g1:=NReps.find (x:=x) e4;rw[hsh] at g1;exact method_fn S.K I (rP t1).1 (rP t1).2 t2 (beq_iff_eq.mp t3) (by
     show (A0 x (dictOf es k)).map _=_;erw[AZ,g1];rfl) ⟨rfl,.refl _⟩
   all_goals exact h.elim
 all_goals exact h.elim
end
section
variable{prog:gf}{w:gh}{A:Around}{s:Shared}{K:Frag}{x C:Addr}{R:gH->Shared->Prop}
theorem Vf{ox od uE:Obj}{dx:Addr}{name:Str}{tk:Tok}{v:Value}{es:List DictEntry}{n:Nat}(X:K.In s.heap)
  (I:InstAt s.heap x ox C (some od)) (hd:ox.dict=some dx) (hp:xa K C=true) (ht:xb K C name=some none) (hh:(clsIn K C).any (·.hasDict)=true)
  (hl:(A0 name od).isSome=true) (D:s.heap.get? dx=some od)
  (e:MP name (wq w.params name) (.str name s.toks) v od=uE) (e':uE.data=.dict es.toArray n) (hz:es.length<=1000)
  (h:∀h',fK dx s.heap h'->h'.get? dx=some uE->R (.ok (.ret .none)) {s with heap:=h',toks:=s.toks+1}) :
  cM (av prog w) A (.call (.builtin "object.__setattr__") ⟨[.ref x,.str name tk,v],[]⟩) R s:=by
 refine osa_open X I hp ht λb=>?_;refine e12 (any_some hh) λcd hc g7=>?_;have D':(s.heap.update dx (MP name (wq w.params name) (.str name s.toks) v)).get? dx=some uE :=
  (gY _ D (by erw[e];obtain ⟨_,_,dd,_⟩:=uE;clear h;subst e';rfl)).trans (by erw[e])
 obtain ⟨hx,pT,hn,-⟩:=I;obtain ⟨oc,odi,oda,mX⟩:=ox;dsimp only at pT hd;subst pT hd;refine ag (am (ag (ag (FQ hx (ag ((looks_clsIn X hc).here ?_))))));erw[g7];refine am (a:=some dx) (ag (am (ag ?_)));unfold nsSet;refine ag (ag (pr (am (ag (wpAny_mkText (ag (FQ D ?_)))))));unfold A0 at hl;split at hl
 ·rename_i Hh Ae4 q;erw[q];dsimp only;have c:(!Hh.any (·.key.isStr name)&&Hh.any (·.refKey))=false:=by
   erw[<- MQ,<- MQ];split at hl
   ·rename_i en he;erw[re.mpr ⟨en,MR he,MU he⟩];rfl
   ·split at hl
    ·injection hl
    ·rename_i z;rw[E8] at z;erw[z,qY]
  erw[aRefKeyMayBeTheName_at,c];refine Oh D ?_;refine ag (wpAny_lookBehind D' (by erw[e'];exact pastItsLine_dict (by erw[dE,sizeLine_eq];exact le2 hz rfl)) ?_);exact am (h _ (mc ..) D')
 ·injection hl
theorem Vg{ox ox':Obj}{od:Option Obj}{v:Value}{p i:Nat}(X:K.In s.heap)(I:InstAt s.heap x ox C od)
  (hp:slotIn K p C=some i) (hi:i<1000)
  (e:{ox with slots:=(ox.slots++wE (i+1-ox.slots.size) none).setIfInBounds i (some v)}=ox') (hf:ox'.isFreed=false)
  (h:∀h',fK x s.heap h'->h'.get? x=some ox'->R (.ok (.ret .none)) {s with heap:=h'}) :
  cM (av prog w) A (.call (.builtin "member_descriptor.__set__") ⟨[.ref p,.ref x,v],[]⟩) R s:=by
 refine e41 (slot_of X hp) λn tn owner BE aC=>?_;refine e41 aC λtb d sl cd aI=>?_;refine e05 aI λho hc hm hb aS=>?_;subst aS;obtain ⟨hh,g,dr,t,os⟩:=s;have L0:=I.type (M:=av prog w);have L1:=looks_mroIn (M:=av prog w) X hm;have L2:Looks (av prog w) hh (Aeo (.ref C)) cd.slotNames:=(looks_clsIn X hc).andThen .now;have hx:=I.at_;dsimp only at ho hx L0 L1;have U2:=(gY (λo=>{o with slots:=(o.slots++wE (cd.slotNames.length-1-BE.toNat+1-o.slots.size) none).setIfInBounds (cd.slotNames.length-1-BE.toNat) (some v)}) hx (by erw[e];exact hf)).trans (by erw[e])
 have f0:=A2 (M:=av prog w) ho 0 (v:=.str n tn) rfl;have f1:=A2 (M:=av prog w) ho 1 (v:=owner) rfl;have f3:=A2 (M:=av prog w) ho 3 (v:=.builtin "proto.slot#set") rfl;have f4:=A2 (M:=av prog w) ho 4 (v:=.int BE tb) rfl;refine tT E9.plain KF.entry_mset (E9.check _ _ _ _ _ _ _ _ ⟨_,ho,rfl⟩ (KF.args_mset _ _ _) ?_);unfold Builtin.«member_descriptor.__set__» Aep Aeq Aer Aes isInstance;have f5:Looks (av prog w) hh (Aet (.ref p)) [.ref p]:=((Looks.ld (part:=none) ho).andThen .now).andThen (Looks.of_pure (by kernel_rfl))
 repeat lk
 refine ⟨Code.quiet_builtin _ (by decide +kernel),ij KF.entry_slotset ?_⟩;unfold Builtin.«proto.slot#set» Aeu
 repeat lk
 erw[if_neg hb];refine am (ag ?_);unfold setSlotAt;dsimp only;erw[if_neg (by erw[sizeLine_eq];exact λq=>ri q (le2 hi rfl))];exact Oh hx (am (h _ (mc ..) U2))
end
section
variable{Γ:Gam}{ρ:List Addr}{H:List AO}{T:eW}
theorem Vh{e:DictEntry}{y x:Str}(hk:∃t,e.key=.str y t):e.key.isStr x=(y==x):=by
 refine e11 hk ?_;clear hk;intro t hk;erw[hk];rfl
theorem NReps.put{h:Heap}{x:Str}{d:AV}{v:Value}{hsh:Int}{tk:Tok}(hv:VRep ρ h d v):∀{fs:List (Str × AV)} {es:List DictEntry},NReps ρ h fs es->NReps ρ h (eV x d fs) (putL x hsh (.str x tk) v es):=λ{fs}=>by
 induction fs with
 |nil=>
  intro _ e;cases (show _=[] from e);exact hM _ ([]) rfl ⟨tk,rfl⟩ hv rfl
 |cons hd r ih=>
  intro _ cO;obtain ⟨y,c⟩:=hd;refine e23 cO ?_;clear cO;intro e es q hk be;refine e02 be λhc hr=>?_;subst q;unfold eV putL;erw[Vh hk];by_cases hy:y=x
  ·clear ih;subst hy;simp only[if_true,beq_self_eq_true];exact hM _ es rfl hk hv hr
  ·erw[if_neg hy,beq_eq_false_iff_ne.mpr hy];exact hM e _ rfl hk hc (ih hr)
theorem NReps.length{h:Heap}:∀{fs:List (Str × AV)} {es:List DictEntry},NReps ρ h fs es->es.length=fs.length:=λ{fs}=>by
 induction fs with
 |nil=>
  intro _ e;cases (show _=[] from e);rfl
 |cons _ _ ih=>
  intro _ cO;refine e23 cO ?_;clear cO;intro e es q _ bw;refine e02 bw λ_ hr=>?_;subst q;simp[(ih hr)]
theorem Vi(x:Str)(d:AV):∀fs:List (Str × AV),(eV x d fs).length<=fs.length+1:=λfs=>by
 induction fs with
 |nil=>
  simp[eV]
 |cons hd r ih=>
  obtain ⟨y,c⟩:=hd;unfold eV;split
  ·simp
  ·have:=ih;simp;exact this
theorem Vj(x:Str)(d:AV):∀(fs:List (Str × AV)) (z:Str),z∈(eV x d fs).map (·.1)↔z=x\/z∈fs.map (·.1):=λfs=>by
 induction fs with
 |nil=>
  intro z;simp[eV]
 |cons hd r ih=>
  intro z;obtain ⟨y,c⟩:=hd;unfold eV;split
  ·rename_i hy;clear ih;subst hy;simp
  ·have:=ih z;simp only[bX,bu,this];constructor
   ·rintro (h|h|h)<;>simp[h]
   ·rintro (h|h|h)<;>simp[h]
theorem Vk(x:Str)(d:AV):∀(fs:List (Str × AV)),(fs.map (·.1)).Nodup->((eV x d fs).map (·.1)).Nodup:=λfs=>by
 induction fs with
 |nil=>
  intro _;simp[eV]
 |cons hd r ih=>
  intro h;obtain ⟨y,c⟩:=hd;rw[bX,fM] at h;unfold eV;split
  ·erw[bX,fM];exact h
  ·rename_i hy;erw[bX,fM];refine ⟨λq=>?_,ih h.2⟩;rcases (Vj x d r y).mp q with e|e
   ·exact hy e
   ·exact h.1 e
theorem VReps.set{h:Heap}{d:AV}{v:Value}(hv:VRep ρ h d v){ds:List AV}{vs:List Value}(i:Nat)(x:VReps ρ h ds vs):VReps ρ h (ds.set i d) (vs.set i v):=by
 refine x.cases (C:=λds vs=>∀i,VReps ρ h (ds.set i d) (vs.set i v)) (λi=>rfl) (λc ds u vs x y ih i=>?_) i;induction i using jv with
 |zero=>exact fk v _ rfl hv y
 |succ i=>exact fk u _ rfl x (ih i)
theorem Vl{h:Heap}{x:Str}{fs:List (Str × AV)}{es:List DictEntry}(r:NReps ρ h fs es):(getL x es).isSome=true:=by
 erw[r.find];split
 ·rename_i d hd;refine e12 (r.get hd) λe e1 _=>?_;erw[e1];rfl
 ·rfl
theorem SetAP.own(TO:eX Γ.K T){n c m:Nat}{x:Str}{fs:List (Str × AV)}{d:AV}(hn:H[n]?=some (.inst c m))(hm:H[m]?=some (.ns fs))(ho:T.own c x=true)(hz:fs.length<=50):SetAP Γ x (.loc n) d H (H.set m (.ns (eV x d fs))):=λA s ρ v u R S q7 ru=>e12 q7 λa y ha=>by
 clear q7;subst y;refine e06 (TO.own _ _ ho) λt1 t2 t3 t4 t5 t6=>?_;refine e31 (S.hp.inst hn hm ha) λdx es k bA=>?_;refine e06 bA λe1 e2 e3 e4 e5 I=>?_;have h1:=(e4.put (x:=x) (hsh:=wq Γ.w.params x) (tk:=s.toks+1) ru).length;refine set_plain S.K I t4 (Vf (es:=putL x (wq Γ.w.params x) (.str x (s.toks+1)) u es) (n:=putN x es k) (s:={s with toks:=s.toks+1}) S.K I rfl t5 t6 t2 (by erw[AZ];exact Vl e4) e3 (putName_dict ..) rfl (by
  erw[h1];exact ah (Vi x d fs) (ah (cr hz) (by decide))) λh' aW g=>?_)
 have iK:∀o,s.heap.get? dx=some o->¬ cz o:=λo e=>by rw[e3] at e;(injection e with bN;subst bN);exact id
 obtain ⟨st,S'⟩:=m9 (s':={s with heap:=h',toks:=s.toks+1+1}) (o':=.ns (eV x d fs)) S e2 (λl q=>by rw[hm] at q;(injection q with ch;injection ch)) aW rfl rfl iK ⟨_,_,g,(e4.put ru).mono (.refl _) (gr aW iK),Vk x d fs e5⟩
 exact aB ρ st S'
theorem SetAP.slot(TO:eX Γ.K T){n c m i:Nat}{x:Str}{fs:List (Str × AV)}{vs jO:List AV}{d:AV}(hn:H[n]?=some (.slots c m vs))(hm:H[m]?=some (.ns fs))(hi:T.slot c x=some i)
  (hf:∀{h:Heap} {ρ:List Addr} {u:Value} {ws:List Value},VRep ρ h d u->VReps ρ h vs ws->∃lK,VReps ρ h jO lK/\((ws.map some).toArray++wE (i+1-(ws.map some).toArray.size) none).setIfInBounds i (some u)=(lK.map some).toArray):SetAP Γ x (.loc n) d H (H.set n (.slots c m jO)):=λA s ρ v u R S q7 ru=>e12 q7 λa y ha=>by
 clear q7;subst y;refine e15 (TO.slot _ _ _ hi) λp t1 t2 t3 t4 cg=>?_;refine e06 cg λt5 t6 t7 t8 t9 cm=>?_;refine e02 cm λOM Rb=>?_;refine e41 (S.hp.slots hn hm ha) λdx ws es k cW=>?_;refine e04 cW λe1 e2 e3 I=>?_;have iK:∀o,s.heap.get? a=some o->¬ cz o:=λo e=>by rw[e1] at e;(injection e with d0;subst d0);exact id
 refine e12 (hf ru e3) λlK rv ew=>?_;refine set_plain S.K I t7 (osa_descr (s:={s with toks:=s.toks+1}) E9 S.K I t8 t9 OM (Vg (ox':={cls:=.ref c,dict:=some dx,slots:=(lK.map some).toArray}) (s:={s with toks:=s.toks+1}) S.K I t6 Rb (by erw[ew]) rfl λh' aW g=>?_))
 obtain ⟨st,S'⟩:=m9 (s':={s with heap:=h',toks:=s.toks+1}) (o':=.slots c m jO) S ha (λl q=>by rw[hn] at q;(injection q with d5;injection d5)) aW rfl rfl iK ⟨_,dx,g,e2,lK,rfl,VReps.mono (.refl _) (gr aW iK) _ _ rv⟩
 exact aB ρ st S'
theorem Vm{h:Heap}{ρ:List Addr}{u:Value}{d:AV}{vs:List AV}{ws:List Value}{i:Nat}(hl:i<vs.length)(ru:VRep ρ h d u)(r:VReps ρ h vs ws):∃lK,VReps ρ h (vs.set i d) lK/\((ws.map some).toArray++wE (i+1-(ws.map some).toArray.size) none).setIfInBounds i (some u)=(lK.map some).toArray:=by
 have:=r.length;refine aB (ws.set i u) (VReps.set ru i r) ?_;erw[EP (by erw[dE,aK];exact ah hl (aE this.symm)),List.map_set];simp
theorem Vn{h:Heap}{ρ:List Addr}{u:Value}{d:AV}{vs:List AV}{ws:List Value}(ru:VRep ρ h d u)(r:VReps ρ h vs ws):∃lK,VReps ρ h (vs++[d]) lK/\((ws.map some).toArray++wE (vs.length+1-(ws.map some).toArray.size) none).setIfInBounds vs.length (some u)=(lK.map some).toArray:=by
 refine aB (ws++[u]) (r.append (.one ru)) ?_;erw[<- r.length,dE,aK,wF,cf];apply Array.ext';erw[Array.toList_setIfInBounds,Array.toList_append];show List.set (ws.map some++[none]) _ _=_;erw[Ah _ _ (by erw[aK];exact aq _),aK,tw];rfl
theorem SetAP.of(TO:eX Γ.K T){o d:AV}{x:Str}{P:List AO->Prop}(h:mx T o x d H P):∃H',SetAP Γ x o d H H'/\P H':=by
 refine e12 (jX h) λn dJ g=>?_;subst dJ;clear h;cases hn:H[n]? with
 |none=>rw[hn] at g;exact g.elim
 |some o=>
  rw[hn] at g;induction o using AO.casesOn
  case inst c m=>
   refine e02 g ?_;clear g;intro ho h;refine e13 (vn h) ?_;clear h;intro fs hm hz h;exact aB _ (.own TO hn hm ho hz) h
  case slots c m vs=>
   refine e12 (c7 g) λi hi h=>?_;refine e12 (vn h) ?_;clear h;intro fs hm h;by_cases hl:i<vs.length
   ·rw[if_pos hl] at h;exact aB _ (.slot TO hn hm hi (Vm hl)) h
   ·rw[if_neg hl] at h;refine e02 h ?_;clear h;intro q h2;clear hl;subst q;exact aB _ (.slot TO hn hm hi Vn) h2
  all_goals exact g.elim
end
theorem Io{A:Around}{C:Addr}{rest:List Value}{kw:List (Str × Value)}:(A.under (.builtin "type.__call__" ⟨.ref C::rest,kw⟩)).frames=A.frames:=by rfl
theorem Room.under{k:Nat}{A:Around}{C:Addr}{rest:List Value}{kw:List (Str × Value)}(R:Room (k+1) A):Room k (A.under (.builtin "type.__call__" ⟨.ref C::rest,kw⟩)):=by
 have hw:MV (.builtin "type.__call__" ⟨.ref C::rest,kw⟩)=1:=by rfl
 have hu:MW (.builtin "type.__call__" ⟨.ref C::rest,kw⟩)=1:=by rfl
 refine ⟨?_,?_,λzz=>R.none_ (λq=>tx _ q),by erw[Io];exact R.fr⟩
 ·show A.depth+MV _+k<_;erw[hw];have:=R.depth;exact ah (cr (aE (gC _ _ _))) this
 ·show A.units+MW _+200*k+200<_;erw[hu];have:=R.units;lia
section
variable{Γ:Gam}{ρ:List Addr}{H:List AO}{T:eW}
theorem FnSpec.cls{j:Nat}{c f:Addr}{args:List AV}{H H':List AO}{o0:AO}(hm:makesIn Γ.K c=true)(hi:ki Γ.K (.ref c) "__init__"=some (some (.ref f))) (hf:AY Γ.K (.ref f)=some (.type "function"))
  (ho:o0=.inst c H.length\/o0=.slots c H.length []) (h:FnSpec Γ j f (.loc (H.length+1)::args) (H++[.ns [],o0]) .none H') (si:True):FnSpec Γ (j+1) c args H (.loc (H.length+1)) H':=by
 intro A s ρ vs R S r tr;have X:=S.K;obtain ⟨hh,g,d,t,os⟩:=s;have eU:=S.hp.len;obtain ⟨hb,hg,pM,P⟩:=S;dsimp only at hb hg pM P X r
 let h1:=hh.push emptyDict
 let h2:=h1.push (instObj c hh.objs.size)
 have lI:Le hh h1:=Le.push _ _;have le2:Le h1 h2:=Le.push _ _;have P1:HRep Γ (ρ++[hh.objs.size]) h1 (H++[.ns []]):=P.push hb (aq _) lI.imm (λb zz o e=>lI _ _ e) ⟨[],0,co _ rfl,rfl,by simp⟩;have hD:(ρ++[hh.objs.size])[H.length]?=some hh.objs.size:=by erw[<- eU];simp
 have P2:HRep Γ ((ρ++[hh.objs.size])++[h1.objs.size]) h2 ((H++[.ns []])++[o0]):=by
  refine P1.push (hb.trans lI) (aq _) le2.imm (λb zz o e=>le2 _ _ e) ?_;have g2:h2.get? h1.objs.size=some (instObj c hh.objs.size):=co _ rfl;rcases ho with rfl|rfl
  ·exact ⟨hh.objs.size,g2,Pre.get ⟨_,rfl⟩ hD⟩
  ·exact ⟨[],hh.objs.size,g2,Pre.get ⟨_,rfl⟩ hD,[],rfl,rfl⟩
 have e1:(ρ++[hh.objs.size])++[h1.objs.size]=ρ++[hh.objs.size,h1.objs.size]:=by simp
 have e2:(H++[AO.ns []])++[o0]=H++[.ns [],o0]:=by simp
 rw[e1,e2] at P2;have bz:h1.objs.size=hh.objs.size+1:=dS _ _;have st:Step (frs A) [] ρ (ρ++[hh.objs.size,h1.objs.size]) hh h2:=⟨⟨_,rfl,λa ha=>by
  simp at ha;rcases ha with rfl|rfl
  ·exact aq _
  ·erw[bz];exact jD _⟩,λb o zz zz e=>.inl (le2 _ _ (lI _ _ e)),(lI.trans le2).imm,by show _<=(h1.push _).objs.size;erw[dS,bz];exact bk (bK _ _)⟩
 refine make_core (makes_of X hm) (looks_findIn X hi) (λself=>bind_fn X self hf) (.inl rfl) ?_;have S2:SimH Γ (ρ++[hh.objs.size,h1.objs.size]) (H++[.ns [],o0]) ⟨h2,g,d,t,os⟩:=⟨hb.trans (lI.trans le2),hg,pM,P2⟩;have sC:(ρ++[hh.objs.size,h1.objs.size])[H.length+1]?=some h1.objs.size:=by erw[<- eU];simp
 have run:=h (A.under (.builtin "type.__call__" ⟨.ref c::vs,[]⟩)) ⟨h2,g,d,t,os⟩ _ (.ref h1.objs.size::vs) R.under S2 (.cons ⟨_,rfl,sC⟩ (st.vreps r)) (by erw[Io];exact tr.step st (by simp));rw[show frs (A.under (.builtin "type.__call__" ⟨.ref c::vs,[]⟩))=frs A from rfl] at run;rw[bz] at run st sC;refine tN run λr' s' q7=>e24 q7 λv ae er ee S' rv=>?_;subst er;cases (show v=.none from rv);exact ⟨rfl,.ref (hh.objs.size+1),ae,rfl,st.trans ee,S',hh.objs.size+1,rfl,ee.pre.get sC⟩
theorem Callee.cls{c:Addr}{oc:Value}{od:Option Addr}{cd:ClassData}{sl:Array (Option Value)}(hK:Γ.K.lookup c=some ⟨oc,od,.cls cd,sl⟩)(hs:rO Γ.K (.ref c) "__call__"=some (some (.builtin "type.__call__"))):Callee Γ (.ref c):=λA s Q E hb h1 h2=>by
 unfold tL;refine ag (pi (hb _ _ (Γ.inK _ _ hK)) ?_);dsimp only;refine ag ((looks_specialIn (Γ.inK.keeps hb) hs).here ?_);exact am h1
end
section
variable{prog:gf}{w:gh}{K:Type}[DecidableEq K]{knd:KeyKind prog w K}{A:Around}{E:Value->Shared->Prop}{s:Shared}
theorem Ip{d:Addr}{aQ:List (K × Value)}{ep:Nat}{k:K}{key v:Value}{Q:Unit->Shared->Prop}(uC:knd.is k key=true)(hm:s.heap.DictAt knd d aQ ep)
  (hQ:∀h',h'.DictAt knd d (rQ aQ k v) (if aQ.any (λkv=>kv.1=k) then ep else ep+1)->fK d s.heap h'->Q () {s with heap:=h',toks:=s.toks+1})
  (bz:aQ.length<=g5):aj (av prog w) A (A3 d key v) Q E s:=by
 refine e25 hm ?_;clear hm;intro o es ho hc hd hk aC;refine e02 aC λhp hn=>?_;have jG:es.size<=g5:=by
  have e1:=hp.length;have e2:es.toList.length=es.size:=rfl;exact ah (ah (aE e2.symm) (aE e1)) bz
 unfold A3
 try exists cu
 refine ag (knd.pyHash uC ?_);unfold dictSetHashed
 try exists cu
 refine ag (wpAny_dictFind_of (s:={s with toks:=s.toks+1}) uC ho hd hk ?_)
 have rY:(es.findIdx? λe=>knd.is k e.key)=aQ.findIdx? λkv=>decide (kv.1=k):=by
  erw[<- hp.findIdx k];clear hd hp hk jG;obtain ⟨l⟩:=es;simp
 cases hi:es.findIdx? λe=>knd.is k e.key with
 |some i=>
  have og:(aQ.any λkv=>decide (kv.1=k))=true:=any_of_findIdx_some (rY▸hi);rw[if_pos og] at hQ;refine ag (mf (ag (wpAny_updateDict (s:={s with toks:=s.toks+1}) ho hd (AB (hQ _ ⟨_,_,gY _ ho (MX (MY hd _)),
   hc.mapDict _,MY hd _,hk.modify _ _,?_,?_⟩ (mc ..))))))
  ·erw[rQ,if_pos og];have hl:(es.toList.findIdx? λe=>knd.is k e.key)=some i:=by erw[<- hi];clear hd rY hi hk jG hp;obtain ⟨l⟩:=es;simp
   have:=hp.modify hn hl v;clear hd rY hi hk hl jG hp;obtain ⟨l⟩:=es;simpa using this
  ·erw[rQ,if_pos og,keys_map_store];exact hn
 |none=>
  have G7:k∉aQ.map (·.1):=not_mem_of_findIdx_none (rY▸hi);have og:¬ (aQ.any λkv=>decide (kv.1=k))=true:=by
   erw[re];rintro ⟨kv,Pz,he⟩;exact G7 (bo.mpr ⟨kv,Pz,of_decide_eq_true he⟩)
  rw[if_neg og] at hQ;refine ag (mf (wpAny_updateDictKeys (hz:=jG) (s:={s with toks:=s.toks+1}) ho hd (hQ _ ⟨_,_,gY _ ho (MX (MZ hd _)),
   hc.mapDictKeys _,MZ hd _,hk.push uC _,?_,?_⟩ (mc ..))))
  ·erw[rQ,if_neg og];have:=hp.append uC (knd.hash k) v;clear hd rY hi hk jG hp;obtain ⟨l⟩:=es;simpa using this
  ·erw[rQ,if_neg og,cf,jw];refine ⟨hn,by simp,?_⟩;intro a ha b hb;simp only[bX,List.map_nil,bM] at hb;clear hQ og rY hi uC;subst hb;exact λe=>G7 (e▸ha)
end
section
variable{Γ:Gam}{ρ:List Addr}{H:List AO}
theorem HRep.dictE{h:Heap}(x:HRep Γ ρ h H){n:Nat}{es:List (Cps × AV)}{v:Option Nat}(e:H[n]?=some (.dict es v)){a:Addr}(ha:ρ[n]?=some a):∃aQ ep,h.DictAt (mM Γ.prog Γ.w) a aQ ep/\DReps ρ h es aQ/\∀e,v=some e->e=ep:=x.obj n _ a e ha
theorem DReps.anyk{h:Heap}{k:Cps}:∀{es:List (Cps × AV)} {aQ:List (Str × Value)},DReps ρ h es aQ->(aQ.any λkv=>decide (kv.1=ao k))=es.any (·.1==k):=λ{es}=>by
 induction es with
 |nil=>
  intro _ x;cases (show _=[] from x);rfl
 |cons hd r ih=>
  intro _ cO;obtain ⟨k',d⟩:=hd;refine e23 cO ?_;clear cO;intro v aD e hv y;subst e;erw[rp,rp,ih y];congr 1;by_cases q:k'=k
  ·clear ih;subst q;simp
  ·have:¬ ao k'=ao k:=λe=>q (m5 e);erw[decide_eq_false this,beq_eq_false_iff_ne.mpr q]
theorem Vo(k:Cps)(d:AV):∀(es:List (Cps × AV)),(es.map (·.1)).Nodup->b7 k d es=if es.any (·.1==k) then es.map (λe=>if e.1=k then (e.1,d) else e) else es++[(k,d)]:=λes=>by
 induction es with
 |nil=>
  intro _;exact rfl
 |cons hd r ih=>
  intro hn;obtain ⟨k',c⟩:=hd;rw[bX,fM] at hn;unfold b7;by_cases q:k'=k
  ·clear ih;subst q;erw[if_pos rfl];simp only[rp,beq_self_eq_true,Bool.true_or,if_true,bX];congr 1;have:∀e∈r,(if e.1=k' then (e.1,d) else e)=e:=λe he=>if_neg λh=>hn.1 (bo.mpr ⟨e,he,h⟩)
   conv=>lhs;erw[<- EY r]
   exact eq λe he=>(this e he).symm
  ·erw[if_neg q,ih hn.2];simp only[rp,beq_eq_false_iff_ne.mpr q,MN,bX,if_neg q];split<;>rfl
theorem DReps.map{h:Heap}{k:Cps}{d:AV}{v:Value}(hv:VRep ρ h d v):∀{es:List (Cps × AV)} {aQ:List (Str × Value)},DReps ρ h es aQ->DReps ρ h (es.map λe=>if e.1=k then (e.1,d) else e) (aQ.map λkv=>if kv.1=ao k then (kv.1,v) else kv):=λ{es}=>by
 induction es with
 |nil=>
  intro _ x;cases (show _=[] from x);rfl
 |cons hd r ih=>
  intro _ cO;obtain ⟨k',c⟩:=hd;refine e23 cO ?_;clear cO;intro u aD e hu y;subst e;erw[bX,bX];by_cases q:k'=k
  ·subst q;simp only[if_true];exact fk v _ rfl hv (ih y)
  ·have:¬ ao k'=ao k:=λe=>q (m5 e);simp only[if_neg q,if_neg this];exact fk u _ rfl hu (ih y)
theorem DReps.append{h:Heap}:∀{es fs:List (Cps × AV)} {aQ Gp:List (Str × Value)},DReps ρ h es aQ->DReps ρ h fs Gp->DReps ρ h (es++fs) (aQ++Gp):=λ{es}=>by
 induction es with
 |nil=>
  intro _ _ _ x y;cases (show _=[] from x);exact y
 |cons hd r ih=>
  intro _ _ _ g8 z;obtain ⟨k',c⟩:=hd;refine e23 g8 ?_;clear g8;intro u aD e hu y;subst e;exact fk u _ rfl hu (ih y z)
theorem DReps.nodup{h:Heap}{es:List (Cps × AV)}{aQ:List (Str × Value)}(x:DReps ρ h es aQ)(hn:(aQ.map (·.1)).Nodup):(es.map (·.1)).Nodup:=by
 rw[x.keys] at hn;have:(es.map λe=>ao e.1)=(es.map (·.1)).map ao:=by erw[ca];rfl
 rw[this] at hn;exact Aev ao (λa b kB e=>kB (by erw[e])) hn
theorem DReps.put{h:Heap}{k:Cps}{d:AV}{v:Value}(hv:VRep ρ h d v){es:List (Cps × AV)}{aQ:List (Str × Value)}(x:DReps ρ h es aQ)(hn:(aQ.map (·.1)).Nodup):DReps ρ h (b7 k d es) (rQ aQ (ao k) v):=by
 erw[Vo k d es (x.nodup hn)];unfold rQ;erw[x.anyk];split
 ·exact x.map hv
 ·exact x.append ⟨v,[],rfl,hv,rfl⟩
theorem DReps.without{h:Heap}{k:Cps}:∀{es:List (Cps × AV)} {aQ:List (Str × Value)},DReps ρ h es aQ->DReps ρ h (es.filter λe=>!(e.1==k)) (without aQ (ao k)):=λ{es}=>by
 induction es with
 |nil=>
  intro _ x;cases (show _=[] from x);rfl
 |cons hd r ih=>
  intro _ cO;obtain ⟨k',c⟩:=hd;refine e23 cO ?_;clear cO;intro u aD e hu y;subst e;have ih:=ih y;by_cases q:k'=k
  ·subst q;unfold M0 at ih ⊢;simpa using ih
  ·have:¬ ao k'=ao k:=λe=>q (m5 e);unfold M0 at ih ⊢;erw[pe,pe];simp only[beq_eq_false_iff_ne.mpr q,LX,if_true,ne_eq,this,not_false_eq_true,decide_true];exact fk u _ rfl hu ih
theorem CS{h:Heap}{a:Addr}{aQ:List (Str × Value)}{ep:Nat}(d:h.DictAt (mM Γ.prog Γ.w) a aQ ep):∀o,h.get? a=some o->¬ cz o:=λo e=>by
 refine e24 d ?_;clear d;intro o' es ho hc hd _;rw[e] at ho;(injection ho with aI;subst aI);unfold cz;erw[hd];exact id
theorem SetIP.put{n:Nat}{c:Cps}{d:AV}{es:List (Cps × AV)}{dv:Option Nat}(hn:H[n]?=some (.dict es dv))(hz:es.length<=1000):SetIP Γ (.loc n) (.str c) d H (H.set n (.dict (b7 c d es) (if es.any (·.1==c) then dv else dv.map (·+1)))):=λA s ρ v j u R S q7 q8 ru=>e12 q7 λa y ha=>e11 q8 λt rj=>by
 clear q7;subst y rj;refine e23 (S.hp.dictE hn ha) λaQ ep da rd hv=>?_;have iK:=CS da;have hT:=da.dictOf.typeIs (s:=s);refine Rn.of ?_;unfold setItem
 try exists cu
 refine ag (Od hT (by decide) ?_);refine ag (tQ (name:=l8 "__setitem__") hT M1
  (mh M1 hT PySem.F.entry_dict_setitem ?_ (PySem.F.args_dict_setitem_3 _ _ _)))
 refine ag (wpAny_notOrdered_dict hT ?_);show aj _ _ (A3 a (.str (ao c) t) u >>= _) _ _ s;refine ag (Ip (pp _ _ _ t) da (λh' BX aW=>am ⟨.none,rfl,am ?_⟩) (by erw[rd.length];exact ah hz (by decide)));obtain ⟨st,S'⟩:=m9 (s':={s with heap:=h',toks:=s.toks+1}) (o':=.dict (b7 c d es) (if es.any (·.1==c) then dv else dv.map (·+1))) S ha (λl q=>by rw[hn] at q;(injection q with aS;injection aS)) aW rfl rfl iK
  ⟨_,_,BX,(rd.put ru da.nodup).mono (.refl _) (gr aW iK),λe he=>by
   erw[rd.anyk];cases hq:es.any (·.1==c) with
   |true=>rw[hq] at he;exact hv e he
   |false=>
    rw[hq] at he;refine e12 (fN.mp he) λe0 h1 h2=>?_;erw[<- h2,hv e0 h1];rfl⟩
 exact aB ρ st S'
theorem SetIP.of{o i d:AV}{P:List AO->Prop}(h:CA o i d H P):∃H',SetIP Γ o i d H H'/\P H':=by
 refine e12 (jX h) ?_;clear h;intro n e1 h;refine e12 (jW h) ?_;clear h;intro c e2 h;refine e23 (sx h) λes dv hn hz hP=>?_;subst e1 e2;exact aB _ (.put hn hz) hP
noncomputable def DelP(Γ:Gam)(o i:AV)(H H':List AO):Prop :=
 ∀A s ρ v j,Room 0 A->SimH Γ ρ H s->VRep ρ s.heap o v->VRep ρ s.heap i j->PrU Γ A ρ s (delItem v j) H'
theorem DelP.cut{n:Nat}{c:Cps}{es:List (Cps × AV)}{dv:Option Nat}(hn:H[n]?=some (.dict es dv))(hz:es.any (·.1==c)=true/\es.length<=1000):DelP Γ (.loc n) (.str c) H (H.set n (.dict (es.filter λe=>!(e.1==c)) none)):=λA s ρ v j R S q7 q8=>e12 q7 λa y ha=>e11 q8 λt rj=>by
 clear q7;subst y rj;refine e22 (S.hp.dict hn ha) λaQ ep da rd=>?_;have iK:=CS da;have hT:=da.dictOf.typeIs (s:=s);refine Rn.of (wpAny_delItem_slot hT (by decide) M2 (FO M2 hT PySem.F.entry_dict_delitem (PySem.F.args_dict_delitem_2 _ _) (meets_dict_delitem_pairs _ a (pp _ _ _ t)) ⟨aQ,da.dictOf,by erw[rd.length];exact ah hz.2 (by decide),by erw[rd.any];exact hz.1,λh' g7 aW=>?_⟩));refine e11 g7.dictAt λpU BX=>?_;have xm:=(rd.without (k:=c)).mono (.refl ρ) (gr aW iK);obtain ⟨st,S'⟩:=m9 (s':={s with heap:=h',toks:=s.toks+1}) (o':=.dict (es.filter λe=>!(e.1==c)) none) S ha (λl q=>by rw[hn] at q;(injection q with be;injection be)) aW rfl rfl iK ⟨_,_,BX,xm,λe he=>by cases he⟩
 exact aB ρ st S'
theorem DelP.of{o i:AV}{P:List AO->Prop}(h:x6 o i H P):∃H',DelP Γ o i H H'/\P H':=by
 refine e12 (jX h) ?_;clear h;intro n e1 h;refine e12 (jW h) ?_;clear h;intro c e2 h;refine e24 (sx h) λes dv hn h1 h2 hP=>?_;subst e1 e2;exact aB _ (.cut hn ⟨h1,h2⟩) hP
section
variable{k:Nat}{cx:Cx}{σ σ₁ aw:St}
theorem Iq{o i:Expr}{p pos:Pos}{d j:AV}{H':List AO}(h1:Ev Γ k cx σ o d σ₁)(h2:Ev Γ k cx σ₁ i j aw)(h:DelP Γ d j aw.heap H'):Ex1 Γ k cx σ (.Delete [.Subscript o i p] pos) .next ⟨aw.vars,H'⟩:=λA env s ρ R x=>by
 erw[arm_exec_Delete];refine Rn.standAt (Rn.bind (P:=λzz ae s'=>Sim Γ A.frames cx ae ⟨aw.vars,H'⟩ env s') ?_ λzz ae s' st x'=>Rn.pure ⟨x',rfl⟩);refine Rn.bind (P:=λzz ae s'=>Sim Γ A.frames cx ae ⟨aw.vars,H'⟩ env s') ?_ λzz ae s' st x'=>Rn.pure x';erw[arm_delete_Subscript];refine Rn.bind (h1 A env s ρ R x) λv az ai aV q7=>e02 q7 λap aU=>Rn.bind (Rn.holding (h2 A env ai az R ap)) λu aP ay aX q7=>e02 q7 λaH b6=>Rn.standAt ?_;exact Rn.bind (Rn.holding (PrU.lift aH (h A ay aP v u (R.le (bW _)) aH.h (aX.vrep aU) b6))) λzz dz bS cK cD=>wW ⟨dz,.refl ..,cD⟩
end
def Vp(n:Nat)(es:List (Cps × AV))(ep:Nat)(I:Addr)(j:Nat)(ρ:List Addr)(h:Heap):Prop:=∃d,ρ[n]?=some d/\h.IsKeyIter I d j es.length ep
theorem DReps.at?{h:Heap}:∀{es:List (Cps × AV)} {aQ:List (Str × Value)} (j:Nat),DReps ρ h es aQ->(∀k d,es[j]?=some (k,d)->∃v,aQ[j]?=some (ao k,v)/\VRep ρ h d v)/\(es[j]?=none->aQ[j]?=none)
 |[],_,j,x=>by cases (show _=[] from x);simp
 |(k',c)::r,_,0,⟨u,aD,e,hu,y⟩=>by subst e;exact ⟨λk d hd=>by (injection hd with bw;injection bw with bA bN;subst bN;subst bA);exact ⟨u,rfl,hu⟩,λh=>by cases h⟩
 |(k',c)::r,_,j+1,⟨u,aD,e,hu,y⟩=>by subst e;simpa using DReps.at? j y
theorem Vq{n:Nat}{es:List (Cps × AV)}{ep:Nat}{I:Addr}:ou Γ I (es.map λe=>.str e.1) (λH=>H[n]?=some (.dict es (some ep))) (Vp n es ep I) where
 mono:=λj ρ ae h h' ⟨a,b,o,c,r⟩ hp hi hk=>⟨a,hp.get b,o,hk _ c,r⟩
 live:=λj ρ h ⟨_,_,o,c,_,d⟩=>⟨_,_,c,d⟩
 self:=λj ρ s A Q E q7 hq=>e12 q7 λzz zz b=>wpAny_pyIter_keyiter b hq
 next:=λj ρ s H d A R x hc q7 hd=>e12 q7 λa ha hb=>by
  refine e23 (x.hp.dictE hc ha) λaQ pU da rd he=>?_;have:=he ep rfl;clear he;subst this;refine e13 (id hb) λo b1 b2 b3=>?_;have hn:=gL b1 b2 b3 (by decide) (by decide);rw[ga] at hd;obtain ⟨⟨c,dd⟩,h1,h2⟩:=fN.mp hd;clear hd;subst h2;refine e12 ((rd.at? j).1 c dd h1) λv h3 h4=>?_;rw[<- rd.length] at hb;exact wpAny_pyNext_dict_item hb da h3 λkey h' hk hi hs=>by
   refine e11 (Value.isStrOf_shape hk) λt cg=>?_;subst cg;exact ⟨_,rfl,⟨t,rfl⟩,SBut.sb (t:=s.toks) hs hn,a,ha,by erw[<- rd.length];exact hi⟩
 stop:=λj ρ s H A R x hc qq hd=>by
  refine e12 qq ?_;clear qq;intro a ha hb;refine e23 (x.hp.dictE hc ha) λaQ pU da rd he=>?_;have:=he ep rfl;clear he;subst this;refine e13 (id hb) λo b1 b2 b3=>?_;have hn:=gL b1 b2 b3 (by decide) (by decide);rw[ga,Fa] at hd;rw[<- rd.length] at hb;refine ba (jT (wpAny_pyNext_dict_end (E:=λzz zz=>False) (Q:=λr s'=>r=none/\∃h',mO I s.heap h'/\s'={s with heap:=h'}) R.handled hb da ((rd.at? j).2 hd)
   λh' hx=>⟨rfl,h',hx,rfl⟩)) (λr s' ⟨bz,e1,h',hx,e2⟩=>?_) λzz zz q=>q.2.elim
  subst e2;exact ⟨e1,SBut.eb (t:=s.toks) hx hn bz⟩
 letGo:=λj ρ s A t v Q E qq hq=>by refine e12 qq ?_;clear qq;intro _ _ cm;refine e12 cm λo b cW=>?_;refine e02 cW λc _=>?_;exact vd b c (by decide) hq
theorem IterP.keys{n:Nat}{es:List (Cps × AV)}{ep:Nat}(h:H[n]?=some (.dict es (some ep))):IterP Γ (.loc n) H (es.map λe=>.str e.1) (λH=>H[n]?=some (.dict es (some ep))):=λA s ρ v R x q7=>e12 q7 λa e ha=>by
 clear q7;subst e;refine e23 (x.hp.dictE h ha) λaQ pU da rd he=>?_;have:=he ep rfl;clear he;subst this;exact wpAny_pyIter_dict (x.hp.mods ha) da ⟨.push s _ _,_,_,rfl,aq _,Vq,a,ha,_,co _ rfl,rfl,by erw[rd.length];rfl⟩
def Vr(n:Nat)(es:List (Cps × AV))(ep:Nat)(I:Addr)(j:Nat)(ρ:List Addr)(h:Heap):Prop:=∃d,ρ[n]?=some d/\h.IsValIter I d j es.length ep
theorem Vt{n:Nat}{es:List (Cps × AV)}{ep:Nat}{I:Addr}:ou Γ I (es.map (·.2)) (λH=>H[n]?=some (.dict es (some ep))) (Vr n es ep I) where
 mono:=λj ρ ae h h' ⟨a,b,o,c,r⟩ hp hi hk=>⟨a,hp.get b,o,hk _ c,r⟩
 live:=λj ρ h ⟨_,_,o,c,_,d⟩=>⟨_,_,c,d⟩
 self:=λj ρ s A Q E q7 hq=>e12 q7 λzz zz b=>wpAny_pyIter_valiter b hq
 next:=λj ρ s H d A R x hc q7 hd=>e12 q7 λa ha hb=>by
  refine e23 (x.hp.dictE hc ha) λaQ pU da rd he=>?_;have:=he ep rfl;clear he;subst this;refine e13 (id hb) λo b1 b2 b3=>?_;have hn:=gL b1 b2 b3 (by decide) (by decide);rw[ga] at hd;obtain ⟨⟨c,dd⟩,h1,h2⟩:=fN.mp hd;clear hd;subst h2;refine e12 ((rd.at? j).1 c dd h1) λv h3 h4=>?_;rw[<- rd.length] at hb;exact wpAny_pyNext_values_item hb da h3 λh' hi hs=>⟨_,rfl,VRep.mono (.refl _) (gr hs hn) _ _ h4,SBut.sb (t:=s.toks) hs hn,a,ha,by erw[<- rd.length];exact hi⟩
 stop:=λj ρ s H A R x hc qq hd=>by
  refine e12 qq ?_;clear qq;intro a ha hb;refine e23 (x.hp.dictE hc ha) λaQ pU da rd he=>?_;have:=he ep rfl;clear he;subst this;refine e13 (id hb) λo b1 b2 b3=>?_;have hn:=gL b1 b2 b3 (by decide) (by decide);rw[ga,Fa] at hd;rw[<- rd.length] at hb;refine ba (jT (wpAny_pyNext_values_end (E:=λzz zz=>False) (Q:=λr s'=>r=none/\∃h',mO I s.heap h'/\s'={s with heap:=h'}) R.handled hb da ((rd.at? j).2 hd)
   λh' hx=>⟨rfl,h',hx,rfl⟩)) (λr s' ⟨bz,e1,h',hx,e2⟩=>?_) λzz zz q=>q.2.elim
  subst e2;exact ⟨e1,SBut.eb (t:=s.toks) hx hn bz⟩
 letGo:=λj ρ s A t v Q E qq hq=>by refine e12 qq ?_;clear qq;intro _ _ d5;refine e12 d5 λo b dJ=>?_;refine e02 dJ λc _=>?_;exact vd b c (by decide) hq
theorem IterP.vals{n:Nat}{es:List (Cps × AV)}{ep:Nat}(h:H[n]?=some (.dict es (some ep))):IterP Γ (.vw n) H (es.map (·.2)) (λH=>H[n]?=some (.dict es (some ep))):=λA s ρ v R x q7=>e23 q7 λb a e ha hv=>by
 clear q7;subst e;refine e23 (x.hp.dictE h ha) λaQ pU da rd he=>?_;have:=he ep rfl;clear he;subst this;exact wpAny_pyIter_values hv da ⟨.push s _ _,_,_,rfl,aq _,Vt,a,ha,_,co _ rfl,rfl,by erw[rd.length];rfl⟩
theorem IterP.of{d:AV}{P:Src->Prop}(h:jY d H P):∃src,(IterP Γ d H src.items (λH=>src.ok H)/\src.items.length<=100000)/\P src:=by
 induction d using AV.casesOn
 case tup l=>exact aB (.fix l) ⟨IterP.tup,dm h.1⟩ h.2
 case rng a b c=>
  refine aB _ ⟨IterP.rng h.1.1 h.1.2.1,?_⟩ h.2;erw[aK,iy];exact Int.toNat_le.mpr h.1.2.2
 case loc n=>
  unfold jY at h;dsimp only at h;cases hn:H[n]? with
  |none=>rw[hn] at h;exact h.elim
  |some o=>
   rw[hn] at h;induction o using AO.casesOn
   case list l=>exact aB (.list n l) ⟨IterP.list hn,dm h.1⟩ h.2
   case dict es e=>
    induction e using dF with
    |none=>exact h.elim
    |some e=>exact aB (.keys n es e) ⟨IterP.keys hn,ah (aE (aK ..)) (dm h.1)⟩ h.2
   all_goals exact h.elim
 case vw n=>
  refine e22 (sx h) ?_;clear h;intro es v hn h;refine e13 (c7 h) ?_;clear h;intro e dY hz h;subst dY;exact aB (.vals n es e) ⟨IterP.vals hn,ah (aE (aK ..)) (dm hz)⟩ h
 all_goals exact h.elim
end
section
variable{Γ:Gam}{ρ:List Addr}{H:List AO}{k:Nat}[NeZero k]
def oC(Γ:Gam)(k:Nat)(fv:Value)(f:List AV->List AO->(AV->List AO->Prop)->Prop):Prop:=∀args H P,f args H P->∃d H',CallP Γ k fv args H d H'/\P d H'
theorem yo{l:List AV}{f:AV->Prop}(h:ar1 l f):∃a,l=[a]/\f a:=by
 rcases l with _|⟨a,_|⟨b,l⟩⟩
 ·exact h.elim
 ·exact aB a rfl h
 ·exact h.elim
theorem CT{l:List AV}{f:AV->AV->Prop}(h:ar2 l f):∃a b,l=[a,b]/\f a b:=by
 rcases l with _|⟨a,_|⟨b,_|⟨c,l⟩⟩⟩
 ·exact h.elim
 ·exact h.elim
 ·exact bZ a b rfl h
 ·exact h.elim
theorem Ir{fv:Value}{g:Nat->List AO->(AV->List AO->Prop)->Prop}(h:∀n H P,g n H P->∃d H',CallP Γ k fv [.loc n] H d H'/\P d H'):oC Γ k fv λa H P=>ar1 a λd=>d.onL λn=>g n H P:=λargs H P q=>by
 refine e12 (yo q) ?_;clear q;intro a aC q;subst aC;refine e12 (jX q) ?_;clear q;intro n aI q;subst aI;exact h n H P q
theorem oE{fv:Value}{g:Nat->List AV->List AO->(AV->List AO->Prop)->Prop}(h:∀n l H P,H[n]?=some (.list l)->g n l H P->∃d H',CallP Γ k fv [.loc n] H d H'/\P d H'):oC Γ k fv λa H P=>ar1 a λd=>d.onL λn=>d6 H[n]? λl=>g n l H P:=Ir λn H P q=>by
 refine e12 (iS q) ?_;clear q;intro l hn q;exact h n l H P hn q
theorem vA{fv:Value}{g:Cps->AV->List AO->(AV->List AO->Prop)->Prop}(h:∀s e H P,g s e H P->∃d H',CallP Γ k fv [.str s,e] H d H'/\P d H'):oC Γ k fv λa H P=>ar2 a λd e=>d.onS λs=>g s e H P:=λargs H P q=>by
 refine e22 (CT q) ?_;clear q;intro a e aS q;subst aS;refine e12 (jW q) ?_;clear q;intro s be q;subst be;exact h s e H P q
theorem CU{fv:Value}{g:Cps->Nat->List AO->(AV->List AO->Prop)->Prop}(h:∀s c H P,g s c H P->∃d H',CallP Γ k fv [.str s,.str [c]] H d H'/\P d H'):oC Γ k fv λa H P=>ar2 a λd e=>d.onS λs=>chW e λc=>g s c H P:=vA λs e H P q=>by
 refine e12 (jW q) ?_;clear q;intro l bw q;subst bw;rcases l with _|⟨c,_|⟨b,l⟩⟩
 ·exact q.elim
 ·exact h s c H P q
 ·exact q.elim
theorem yq{fv:Value}{g:Nat->AV->List AO->(AV->List AO->Prop)->Prop}(h:∀n e H P,g n e H P->∃d H',CallP Γ k fv [.loc n,e] H d H'/\P d H'):oC Γ k fv λa H P=>ar2 a λd e=>d.onL λs=>g s e H P:=λargs H P q=>by
 refine e22 (CT q) ?_;clear q;intro a e bA q;subst bA;refine e12 (jX q) ?_;clear q;intro s bN q;subst bN;exact h s e H P q
theorem It{s:Cps}{l:List AV}{H:List AO}{e:AV}{P:AV->List AO->Prop}(q:x7 s l λz=>P z H)(h:∀xs,gM l=some xs->(xs.map b9).sum+xs.length*s.length<=100000->CallP Γ k (.builtin "str.join") [.str s,e] H (.str (bq s xs)) H):∃d H',CallP Γ k (.builtin "str.join") [.str s,e] H d H'/\P d H':=by
 refine e13 (c7 q) ?_;clear q;intro xs hx hz q;exact bZ _ _ (h xs hx (dm hz)) q
theorem Vu:∀p∈biT,oC Γ k (.builtin p.1) p.2:=by
 unfold biT;refine ct.mpr ⟨λargs H P q=>?_,?_⟩
 ·refine e12 (yo q) ?_;clear q;intro a ch q;subst ch;induction a using AV.casesOn
  case str=>exact bZ _ _ (Uj q.1) q.2
  case tup=>exact bZ _ _ (Uk q.1) q.2
  case loc n=>
   refine e12 (iS q) ?_;clear q;intro l hn q;exact bZ _ _ (Ul hn q.1) q.2
  all_goals exact q.elim
 refine ct.mpr ⟨oE λn l H P hn q=>let ⟨xs,h,q⟩:=c7 q;⟨_,_,Um hn h,q⟩,?_⟩;refine ct.mpr ⟨oE λn l H P hn q=>let ⟨xs,h,q⟩:=c7 q;⟨_,_,Va hn h,q⟩,?_⟩;refine ct.mpr ⟨oE λn l H P hn q=>let ⟨xs,h,q⟩:=c7 q;⟨_,_,U9 hn h,q⟩,?_⟩;refine ct.mpr ⟨λargs H P q=>?_,?_⟩
 ·refine e22 (CT q) ?_;clear q;intro a b cg q;subst cg;refine e12 (fV q) ?_;clear q;intro x cm q;subst cm;refine e13 (fV q) ?_;clear q;intro y cW hz q;subst cW;exact bZ _ _ (Un hz) q
 refine ct.mpr ⟨vA λs e H P q7=>e02 q7 λh q=>by clear q7;subst h;exact ⟨_,_,Uo,q⟩,?_⟩;refine ct.mpr ⟨oE λn l H P hn q=>⟨_,_,UE hn,q⟩,?_⟩;refine ct.mpr ⟨vA λs e H P q=>?_,?_⟩
 ·induction e using AV.casesOn
  case tup=>exact It q λxs=>Uu
  case loc n=>
   refine e12 (iS q) ?_;clear q;intro l hn q;exact It q λxs=>Ut hn
  all_goals exact q.elim
 refine ct.mpr ⟨vA λs e H P q=>let ⟨_,h,q⟩:=jW q;h▸⟨_,_,Up,q⟩,?_⟩;refine ct.mpr ⟨vA λs e H P q=>let ⟨_,h,q⟩:=jW q;h▸⟨_,_,Uq,q⟩,?_⟩;refine ct.mpr ⟨CU λs c H P q=>⟨_,_,Ux q.1,q.2⟩,?_⟩;refine ct.mpr ⟨CU λs c H P q=>⟨_,_,Ur,q.2⟩,?_⟩;refine ct.mpr ⟨CU λs c H P q=>⟨_,_,Us q.1,q.2⟩,?_⟩;refine ct.mpr ⟨yq λn e H P q=>let ⟨l,hn,h,q⟩:=iS q;⟨_,_,Uy hn h,q⟩,?_⟩;refine ct.mpr ⟨yq λn e H P q=>?_,?_⟩
 ·refine e12 (jX q) ?_;clear q;intro m d0 q;subst d0;refine e12 (iS q) ?_;clear q;intro l hn q;refine e13 (iS q) ?_;clear q;intro r hm h q;exact bZ _ _ (UA hn hm h) q
 refine ct.mpr ⟨oE λn l H P hn q=>let ⟨z,h,hz,q⟩:=c7 q;⟨_,_,Ic hn hz h,q⟩,?_⟩;refine ct.mpr ⟨oE λn l H P hn q=>⟨_,_,Uz hn q.1,q.2⟩,?_⟩;refine ct.mpr ⟨yq λn e H P q=>?_,?_⟩
 ·refine e12 (jW q) ?_;clear q;intro s d5 q;subst d5;refine e22 (sx q) ?_;clear q;intro es v hn q;exact bZ _ _ (UB hn) q
 refine ct.mpr ⟨Ir λn H P q=>let ⟨es,v,hn,q⟩:=sx q;⟨_,_,UD hn,q⟩,?_⟩;refine ct.mpr ⟨yq λn e H P q=>?_,?_⟩
 ·refine e12 (jW q) ?_;clear q;intro s dJ q;subst dJ;refine e13 (Sv q) ?_;clear q;intro l hn h q;exact bZ _ _ (UC hn h) q
 exact ct.mpr ⟨λargs H P q7=>e02 q7 λh q=>by clear q7;subst h;exact ⟨_,_,UY,q⟩,λzz h=>nomatch h⟩
theorem Vv:∀p∈tyT,oC Γ k (.type p.1) p.2:=by
 unfold tyT;refine ct.mpr ⟨λargs H P q=>?_,?_⟩
 ·rcases args with _|⟨a,_|⟨b,_|⟨c,_|⟨d,l⟩⟩⟩⟩
  ·exact q.elim
  ·refine e13 (fV q) ?_;clear q;intro x dY _ q;subst dY;exact bZ _ _ UF q
  ·refine e12 (fV q) ?_;clear q;intro x eT q;subst eT;refine e14 (fV q) ?_;clear q;intro y eS _ _ q;subst eS;exact bZ _ _ UG q
  ·refine e12 (fV q) ?_;clear q;intro x hG q;subst hG;refine e12 (fV q) ?_;clear q;intro y fw q;subst fw;refine e13 (fV q) ?_;clear q;intro z fA h q;subst fA;exact bZ _ _ (UH h.2.2) q
  ·exact q.elim
 refine ct.mpr ⟨oE λn l H P hn q=>⟨_,_,UI hn q.1,q.2⟩,?_⟩;refine ct.mpr ⟨λargs H P q=>?_,?_⟩
 ·refine e12 (yo q) ?_;clear q;intro a iH q;subst iH;refine e13 (Cy q) ?_;clear q;intro l jR h q;subst jR;exact bZ _ _ (UJ h) q
 refine ct.mpr ⟨oE λn l H P hn q=>⟨_,_,UL hn q.1,q.2⟩,?_⟩;refine ct.mpr ⟨λargs H P q7=>e02 q7 λh q=>by clear q7;subst h;exact ⟨_,_,UM,q⟩,?_⟩;refine ct.mpr ⟨λargs H P q=>?_,λzz h=>nomatch h⟩;refine e12 (yo q) ?_;clear q;intro a jJ q;subst jJ;refine e12 (jW q) ?_;clear q;intro s jP q;subst jP;exact bZ _ _ UZ q
theorem sE{α β:Type}[BEq α][LawfulBEq α]:∀{l:List (α × β)} {x:α} {b:β},l.lookup x=some b->(x,b)∈l
 |(y,c)::l,x,b,h=>by
  rw[dW] at h;cases hb:x==y with
  |true=>rw[hb] at h;(injection h with jI;subst jI);erw[eq_of_beq hb];exact aG
  |false=>rw[hb] at h;exact aL _ (sE h)
theorem Iu{t:List (String × (List AV->List AO->(AV->List AO->Prop)->Prop))}{f:String->Value}(ht:∀p∈t,oC Γ k (f p.1) p.2){id:String}{args:List AV}{P:AV->List AO->Prop}(h:cE t id args H P):∃d H',CallP Γ k (f id) args H d H'/\P d H':=by
 refine e12 (c7 h) ?_;clear h;intro g hl h;exact ht _ (sE hl) args H P h
end
section
variable{Γ:Gam}{ρ:List Addr}{H:List AO}{T:eW}{k:Nat}[NeZero k]{cx:Cx}{σ σ₁ aw:St}
theorem Iv{h:Heap}{a:Addr}(e:h.get? a=some {cls:=.type "dict",data:=.dict #[]}):h.DictAt (mM Γ.prog Γ.w) a [] 0 :=
 ⟨_,#[],e,⟨rfl,rfl,rfl⟩,rfl,λe he=>by simp at he,.nil,by simp⟩
theorem Vw{pos:Pos}:Ev Γ k cx σ (.Dict [] [] pos) (.loc σ.heap.length) ⟨σ.vars,σ.heap++[.dict [] (some 0)]⟩:=λA env s ρ R x=>by
 erw[eval_Dict_empty];refine Rn.standAt ?_;have h:Pr Γ A ρ s newDict (σ.heap++[.dict [] (some 0)]) (.loc σ.heap.length):=by
  refine gG ?_ (by size_fits);exact CQ (tk:=s.toks) x.h ⟨[],0,Iv (co _ rfl),rfl,λe he=>by (injection he with aC;subst aC);rfl⟩
 exact Pr.lift x h
structure nb(K:Frag)(T:eW):Prop where
 fn:∀c x a,T.meth c x=some a->AX K c=true/\xc K c=true/\rO K (.ref a) "__get__"=some (some (.builtin "function.__get__"))/\w9 K (.ref a)=some false/\copiedNames.contains x=false/\fnIn K a=true
theorem Vx{K:Frag}{C:Addr}{od:Obj}{name:Str}{f:Value}{g:Value}(hh:xc K C=true)(ha:ki K (.ref C) name=some (some f))(hg:rO K f "__get__"=some (some g)) (ht:w9 K f=some false) (hc:copiedNames.contains name=false) (hl:A0 name od=some none) :
  findObj K C (some od) name=some (.bind g f):=by
 refine e12 (any_some hh) λcd xK hd=>?_;unfold findObj;have ho:W.ownOf cd (some od) name=some none:=by unfold W.ownOf;erw[if_pos hd];exact hl
 erw[xK,rq,ha,rq];simp only[hg,rq,ht,ho,hc,Bool.false_and,eG,if_false]
theorem Vy(TO:eX Γ.K T)(TF:nb Γ.K T){o e:Expr}{name:Str}{jc sp pos:Pos}{n c m a:Nat}{fs:List (Str × AV)}{ds:List AV}{d:AV}{H':List AO}(ho:Ev Γ k cx σ o (.loc n) σ₁)(hb:sm o=true)
  (hn:σ₁.heap[n]?=some (.inst c m)) (hm:σ₁.heap[m]?=some (.ns fs)) (hsh:fs.lookup name=none) (ha:T.meth c name=some a) (he:Ev Γ k cx σ₁ e (.tup ds) aw) (hz:ds.length<=1000000)
  (h:FnSpec Γ k a (.loc n::ds) aw.heap d H'):Ev Γ k cx σ (.Call (.Attribute o name jc) [.Starred e sp] [] pos) d ⟨aw.vars,H'⟩:=λA env s ρ R x=>by
 refine e03 (TO.meth _ _ _ ha) λt1 t2 t3=>?_;refine e06 (TF.fn _ _ _ ha) λu1 u2 u3 u4 u5 u6=>?_;erw[arm_eval_Call,Ck hb];refine Rn.bind (ho A env s ρ R x) λv az ai aV q7=>e02 q7 λap aU=>Rn.standAt ?_;clear q7;refine e12 (id aU) λb aI Pk=>?_;subst aI;refine e34 (ap.h.hp.inst hn hm Pk) λdx es j e1 e2 e3 aS=>?_;refine e03 aS λe4 e5 I=>?_;have rT:kf [.Starred e sp] env=[(true,eval e env)]:=rfl;erw[rT];have Bp:∀n kw,FH n (jE pos [(true,eval e env)]) kw=false:=λn kw=>rfl;unfold methodCall calleeOf;erw[Bp];have g1:=NReps.find (x:=name) e4;rw[hsh] at g1;refine ag (cu ?_);simp only[eG,if_false];have Hd:=ap.h.K;refine ag (get_bind Hd I (rP t1).1 (Vx u2 t2 u3 u4 u5 (by erw[AZ,g1])) (rP t1).2 (tM (fn_get (s:={ai with toks:=ai.toks+1}) Hd (beq_iff_eq.mp t3) (handed_on rfl (am ?_)))))
 have sl:SLe ai {ai with heap:=ai.heap.push (A4 (.ref a) (.ref b)),toks:=ai.toks+1}:=.push _ _ _
 have aH:=sl.sim ap;have hq:({ai with heap:=ai.heap.push (A4 (.ref a) (.ref b)),toks:=ai.toks+1}:Shared).heap.get? ai.heap.objs.size=some (A4 (.ref a) (.ref b)):=co _ rfl
 generalize ({ai with heap:=ai.heap.push (A4 (.ref a) (.ref b)),toks:=ai.toks+1}:Shared)=ay at *
 refine ag (lm (a:=pos) rfl ?_);refine ks_call (P:=λh=>W.MethP Γ.K ai.heap.objs.size a (.ref b) h) rfl (keeps_M u6) (ks_lone ?_);refine Rn.to (he A env ay az R aH) λw dz bS cK q7=>e02 q7 λcD fR=>?_;clear q7;refine e33 fR ?_;clear fR;intro l vs i be hl rv;subst be;have eU:=rv.length;have hT:bS.TypeIs (.ref l) "tuple":=⟨_,hl,rfl⟩;have nY:ai.heap.objs.size∉az:=λq=>absurd (ap.h.hp.lt q) (lc _);have By:ai.heap.objs.size∉ownOf cx env:=λq=>absurd (ap.vr.lt _ q) (lc _);have Hb:=cK.keep _ _ nY By hq (λq7=>e21 q7 λzz zz q=>by injection q);unfold StarOf Oi;refine ag (A5 hT PySem.F.slot_tuple_iter.lookup (am ⟨rfl,?_⟩));refine ba (jT (Q:=λus s'=>us=vs/\Le bS.heap s'.heap/\s'.gens=bS.gens/\s'.os=bS.os) (E:=λzz zz=>False) (wpAny_collect_seq l (.inr rfl) hl rfl rfl (λh' hk=>⟨by simp,hk,rfl,rfl⟩) (by erw[dE,eU];exact ah hz (by decide)))) (λus cj q7=>e05 q7 λhs e le g1 g2=>?_) λzz zz q=>q.2.elim;clear hl q7 eU;subst e;have rX:SLe bS cj:=⟨le,hs,g1,g2⟩;have gk:=rX.sim cD;refine ⟨⟨le _ _ Hb,gk.h.K⟩,?_⟩;have FW:Step (frs A) (ownOf cx env) az dz ai.heap cj.heap:=(sl.step.trans cK).trans rX.step;refine tM (method_call (le _ _ Hb) (tN (h A cj dz (.ref b::us) R gk.h (.cons (FW.vrep aU) (rX.vreps rv)) gk.tr) λr s' q7=>e24 q7 λv ae e st x' QA=>?_));clear q7;subst e;exact cH ae (FW.trans st.widen) (gk.step (X:=[]) st (by simp) x') QA
end
section
variable{Γ:Gam}{k:Nat}[NeZero k]{cx ci:Cx}{σ bE σ₁ aw cJ:St}{A:Around}{env:Env}{s:Shared}{ρ:List Addr}{scope:dg}
theorem z9g(c:Cps)(y:AV):∀aa:List (Cps × AV),(b7 c y aa).length<=aa.length+1:=λaa=>by
 induction aa with
 |nil=>
  simp[b7]
 |cons hd r ih=>
  obtain ⟨x,z⟩:=hd;unfold b7;split
  ·simp
  ·have:=ih;simp;omega
def yr(Γ:Gam)(aa:List (Cps × AV))(D:Addr)(ρ:List Addr)(h:Heap):Prop:=∃aQ m,h.DictAt (mM Γ.prog Γ.w) D aQ m/\DReps ρ h aa aQ
noncomputable def CV(Γ:Gam)(kx vx:Expr):ov:=λA D env P s=>
 aj (av Γ.prog Γ.w) A (eval kx env) (λkv cj=>aj (av Γ.prog Γ.w) A (eval vx env) (λvv s₅=>aj (av Γ.prog Γ.w) A (A3 D kv vv) (λzz xM=>P xM) (λzz zz=>False) s₅) (λzz zz=>False) cj) (λzz zz=>False) s
theorem Iw{kx vx target iter:Expr}{pos:Pos}(ht:vg target=true):CK Γ (.DictComp kx vx [⟨target,iter,[],0⟩] scope pos) target iter [] newDict (CV Γ kx vx) (yr Γ) [] where
 cl:=rfl
 new A s Q h:=gG (h _ rfl λρ h D e=>⟨[],0,Iv e,rfl⟩) (by size_fits)
 keep h hp hi hk:=h.imp λzz h=>h.imp λzz h=>⟨h.1.imp λzz q=>q.imp λzz q=>⟨hk _ q.1,q.2⟩,h.2.mono hp hi⟩
 obj h:=h.elim λzz h=>h.elim λzz h=>h.1.imp λzz q=>q.elim λzz q=>q.1
 start A it aa env R s:=codeAny_compStart_dict
 turn A I D env R s h:=by
  refine pj ?_;show aj _ A ((AM (.DictComp kx vx [⟨target,iter,[],0⟩] scope pos) 0 (.ref I) (.ref D) env).onRaise (λx=>do rM x env;FK x)) _ _ s
  refine tK ?_;erw[compTurn_dict];refine ag (gZ (ag (wk (ba h (λr ai bf=>?_) λzz zz q=>q))));induction r using dF with
  |none=>exact am bf
  |some v=>
   refine ag (lm (Cp ht _ v) (ag (wk (ba bf (λzz ay bv=>ag (Oa ?_)) λzz zz q=>q))));exact ag (ag (wk (ba bv (λkv cj fj=>ag (cu (wk (ba fj (λvv s₅ uo=>ag (gZ (cu (wk (ba uo (λzz xM PS=>am ⟨rfl,PS⟩) λzz zz q=>q))))) λzz zz q=>q)))) λzz zz q=>q)))
theorem Ix{kx vx target iter:Expr}{pos:Pos}:CKL (.DictComp kx vx [⟨target,iter,[],0⟩] scope pos) iter scope (FL [⟨target,iter,[],0⟩] pos) newDict where
 ev _:=rfl
 use _ _:=rfl
 sw t l env:=by induction t using fL<;>exact ⟨_,rfl⟩
 tup:=rfl
theorem Iy{out:List (Cps × AV)}{D:Addr}{h:Heap}(x:yr Γ out D ρ h):ORep Γ (ρ++[D]) h (.dict out none) D:=x.imp λzz x=>x.imp λzz x=>⟨x.1,x.2.mono ⟨_,rfl⟩ (.refl _),nofun⟩
theorem Vz{kx vx:Expr}{aa:List (Cps × AV)}{c:Cps}{y:AV}(hz:aa.length<=1000)(hk:Ev Γ k cx σ kx (.str c) σ₁)(hv:Ev Γ k cx σ₁ vx y aw):kG Γ k cx (yr Γ) (CV Γ kx vx) σ aa aw (b7 c y aa):=λA env s ρ D P R x d kk h=>by
 refine Rn.to (hk A env s ρ R x) λw az ai st q=>Rn.to (hv A env ai az R q.1) λu aP ay aX ut=>?_;refine e11 q.2 λtk e=>?_;clear q;subst e;refine e22 kk ?_;clear kk;intro aQ m e r;have cK:=st.trans aX;have nW:ay.heap.DictAt (mM Γ.prog Γ.w) D aQ m:=e.imp λzz q=>q.imp λzz q=>⟨d.keep cK q.1,q.2⟩;refine e24 (id e) λoD _ eD _ dD _=>?_;refine e24 (id nW) λoD' _ Q3 _ Pl _=>?_;refine Ip (pp _ _ _ tk) nW (λh' PK hs=>?_) (ah (aE r.length) (ah hz (by decide)));have sb:SBut D ay {ay with heap:=h',toks:=ay.toks+1}:=SBut.sb (t:=ay.toks+1) hs (CS nW)
 have eJ:=d.step cK eD;refine h aP _ ⟨(cK.widen' λa ha=>aL D ha).trans (sb.step aG),eJ.sim ut.1 sb λv c=>?_,eJ,_,_,PK,((r.mono cK.pre cK.imm).put (k:=c) ut.2 nW.nodup).mono (.refl _) sb.imm⟩;refine e12 c ?_;clear c;intro o f1 f2;rw[Q3] at f1;(injection f1 with aC;subst aC);rw[Pl] at f2;injection f2
end
section
variable{Γ:Gam}{k:Nat}[NeZero k]{cx:Cx}{σ bE σ₁ aw cJ:St}
theorem yt{e I:Addr}{P:Addr->Prop}(h1:P e)(h2:P I)(a:Addr)(ha:a∈[e,I]):P a:=(bu.mp ha).elim (λq=>q▸h1) λq=>bM.mp q▸h2
theorem VA{e:Addr}{P:Addr->Prop}(h1:P e)(a:Addr)(ha:a∈[e]):P a:=bM.mp ha▸h1
theorem Sim.butF{A:Around}{F:List Addr}{env:Env}{s s':Shared}{ρ:List Addr}(x:Sim Γ A.frames cx ρ σ env s)(keep:∀b o,b∉F->s.heap.get? b=some o->s'.heap.get? b=some o)(imm:ImmLe s.heap s'.heap)(size:s.heap.objs.size<=s'.heap.objs.size)(hg:s'.gens=s.gens)(ho:s'.os=s.os)
  (h1:∀a∈F,a∉ρ/\a∉ownOf cx env/\Γ.base.get? a=none/\∃o fs,s.heap.get? a=some o/\o.data=.fields fs):Sim Γ A.frames cx ρ σ env s':=by
 have kp:∀b o,b∈ownOf cx env->s.heap.get? b=some o->s'.heap.get? b=some o:=λb o hb e=>keep b o (λq=>(h1 b q).2.1 hb) e;refine ⟨⟨λb o e=>keep b o (λq=>by rw[(h1 b q).2.2.1] at e;injection e) (x.h.base b o e),hg.trans x.h.gens,ho.trans x.h.os,x.h.hp.mono imm λa ha o e=>keep a o (λq=>(h1 a q).1 ha) e⟩,x.ok,⟨x.vr.len,?_,λy i hv hk=>?_,x.vr.inj,x.vr.off,x.vr.own,λa ha=>dT (x.vr.lt a ha) size⟩,λl hl e he=>?_,x.hd⟩
 ·refine e12 x.vr.loc λm aC hl=>?_;refine e32 aC ?_;clear ho;intro o es ep ho rest;exact aB m ⟨o,es,ep,kp _ _ aG ho,rest⟩ (λy i hv hk d hd=>let ⟨v,e1,e2⟩:=hl y i hv hk d hd;⟨v,e1,VRep.mono (.refl _) imm _ _ e2⟩)
 ·refine e24 (x.vr.cell y i hv hk) λc vo e1 e2 e3 e4=>?_;have QH:c∉F:=λq=>by
   refine e04 (h1 c q) λ_ _ _ aI=>?_;refine e22 aI λo fs e d=>?_;refine e12 e3 ?_;clear e3;intro o' f1 f2;rw[f1] at e;(injection e with aS;subst aS);rw[f2] at d;injection d
  exact hM c vo e1 e2 (let ⟨o,f1,f2⟩:=e3;⟨o,keep _ _ QH f1,f2⟩) (λd hd=>let ⟨v,f1,f2⟩:=e4 d hd;⟨v,f1,VRep.mono (.refl _) imm _ _ f2⟩)
 ·refine e02 (x.tr l hl e he) λk be=>?_;refine e24 be λL m q1 q2 q3 bw=>?_;refine e33 bw λo es ep q5 q6 q7=>?_;refine ⟨k,L,m,q1,q2,q3,o,es,ep,keep _ _ (λq=>?_) q5,q6,q7⟩;refine e04 (h1 L q) λ_ _ _ bA=>?_;refine e22 bA λo' fs q8 q9=>?_;rw[q5] at q8;(injection q8 with bN;subst bN);rw[q6] at q9;injection q9
noncomputable def sF:Nat->List AV->List AV
 |_,[]=>[]
 |i,d::r=>.tup [.int i,d]::sF (i+1) r
theorem Iz{target:Expr}{it:Value}{body cR:List Stmt}{A:Around}{env:Env}{s:Shared}{R:gH->Shared->Prop}
  (h:aj (av Γ.prog Γ.w) A (fP it) (λr ai=>match r with
    |none=>aj (av Γ.prog Γ.w) A (rG cR env) (λg ay=>R (.ok g) ay) (λzz zz=>False) ai
    |some v=>aj (av Γ.prog Γ.w) A (tJ target it v) (λzz ay=>aj (av Γ.prog Γ.w) A (assign target env v) (λzz bS=>aj (av Γ.prog Γ.w) A (rG body env) (λg cj=>match g with
      |.next|.cont=>cM (av Γ.prog Γ.w) A (.forLoop target it body cR env) R cj
      |.brk=>R (.ok .next) cj
      |.ret v=>R (.ok (.ret v)) cj) (λzz zz=>False) bS) (λzz zz=>False) ay) (λzz zz=>False) ai) (λzz zz=>False) s) :
   cM (av Γ.prog Γ.w) A (.forLoop target it body cR env) R s:=by
 refine pj ?_;erw[Et (show (Code.forLoop target it body cR env).weight=0 from rfl)];refine tK ?_;simp only[forTurn];refine ag (gZ (ag (wpAny_onRaise (ba h (λr ai bf=>?_) λzz zz q=>q.elim))));induction r using dF with
 |none=>exact am ⟨rfl,codeAny_block (ba bf (λzz zz q=>q) λzz zz q=>q.elim)⟩
 |some v=>
  refine ag (ba bf (λzz ay bv=>ag (ba bv (λzz bS fi=>ag (ba fi (λg cj fj=>?_) λzz zz q=>q.elim)) λzz zz q=>q.elim)) λzz zz q=>q.elim);induction g using zM with
  |next=>exact am ⟨rfl,fj⟩
  |cont=>exact am ⟨rfl,fj⟩
  |brk=>exact am fj
  |ret v=>exact am fj
theorem VB{n:Nat}{l0:List AV}{e I l:Addr}{mU:List Expr}{x1:Nat}{tp:Pos}{body cR:List Stmt}{f:Fl} :
  ∀{rW:List AV} {σ:St} {r:Option Fl} {bE:St},Lp Γ k cx (.Tuple mU x1 tp) body (λH=>H[n]?=some (.list l0)) rW σ r bE->∀{aw:St},Aft Γ k cx cR f bE aw r ->
  ∀{A:Around} {env:Env} {s:Shared} {ρ:List Addr} {j:Nat} {pV:Value} {R:gH->Shared->Prop},Room k A->Sim Γ A.frames cx ρ σ env s->rW=sF j (l0.drop j)->xf s.heap e I j pV->s.heap.IsListIter I l j->ρ[n]?=some l->e≠I->(∀a∈[e,I],a∉ρ/\a∉ownOf cx env/\Γ.base.get? a=none) ->
  (∀g s' ae,Step (frs A) (e::I::ownOf cx env) ρ ae s.heap s'.heap->Sim Γ A.frames cx ae aw env s'->oq ae s'.heap f g->R (.ok g) s')->cM (av Γ.prog Γ.w) A (.forLoop (.Tuple mU x1 tp) (.ref e) body cR env) R s:=by
 intro rW σ r bE L;have item:∀{A:Around} {env:Env} {s:Shared} {ρ:List Addr} {j:Nat} {pV:Value} {R:gH->Shared->Prop} {d:AV} {σ σ₁ aw:St} {g:Fl},Room k A->Sim Γ A.frames cx ρ σ env s->xf s.heap e I j pV->s.heap.IsListIter I l j->ρ[n]?=some l->e≠I->(∀a∈[e,I],a∉ρ/\a∉ownOf cx env/\Γ.base.get? a=none) ->
   l0[j]?=some d->σ.heap[n]?=some (.list l0)->As Γ k cx σ (.Tuple mU x1 tp) (.tup [.int j,d]) σ₁->Ex Γ k cx σ₁ body g aw ->
   (∀g' s' ae Bz,Step (frs A) (e::I::ownOf cx env) ρ ae s.heap s'.heap->Sim Γ A.frames cx ae aw env s'->xf s'.heap e I (j+1:Nat) Bz->s'.heap.IsListIter I l (j+1)->(∀a∈[e,I],a∉ae/\a∉ownOf cx env/\Γ.base.get? a=none)->oq ae s'.heap g g' ->
    match g' with
    |.next|.cont=>cM (av Γ.prog Γ.w) A (.forLoop (.Tuple mU x1 tp) (.ref e) body cR env) R s'
    |.brk=>R (.ok .next) s'
    |.ret v=>R (.ok (.ret v)) s')->cM (av Γ.prog Γ.w) A (.forLoop (.Tuple mU x1 tp) (.ref e) body cR env) R s:=by
  intro A env s ρ j pV R d σ σ₁ aw g R0 x hE hI hl bB hF hd hc ha hb hR;refine e22 (x.h.hp.list hc hl) λvs c gl rx=>?_;refine e12 (rx.get hd) λv ev rv=>?_;refine e13 (id hI) λoI g1 g2 g3=>?_;have nE:=gL hE rfl rfl (by decide) (by decide);have nI:=gL g1 g2 g3 (by decide) (by decide);refine Iz (wpAny_pyNext_enum_item (l:=l) hE hI (dk gl) (by simpa using ev) bB λbf hO p9 OW QK QQ=>?_)
  refine wpAny_letOwnedTupleGo_enum hO λbv Bm rR=>?_;replace rR:fK e bf bv:=rR;have eN:e<s.heap.objs.size:=cF hE;have keep:∀b o,b∉[e,I]->s.heap.get? b=some o->bv.get? b=some o:=λb o hb q=>by
   have h1:b≠e:=λq=>hb (q▸aG);exact (rR.2 b h1).trans (QQ b o h1 (λq=>hb (q▸aL _ aG)) q)
  have qb:=hF e aG;have pL:=hF I (aL _ aG);have imm:ImmLe s.heap bv:=λb o i q=>keep b o (λhb=>yt (P:=λb=>s.heap.get? b=some o->False) (λq=>nE o q i) (λq=>nI o q i) b hb q) q;have bz:s.heap.objs.size<=bv.objs.size:=by erw[rR.1,QK];exact jD _
  have rS:∀a∈[e,I],a∉ρ/\a∉ownOf cx env/\Γ.base.get? a=none/\∃o fs,s.heap.get? a=some o/\o.data=.fields fs:=yt ⟨qb.1,qb.2.1,qb.2.2,_,_,hE,rfl⟩ ⟨pL.1,pL.2.1,pL.2.2,_,_,g1,g3⟩;have aH:Sim Γ A.frames cx ρ σ env {s with heap:=bv,toks:=s.toks+1}:=x.butF keep imm bz rfl rfl rS
  have tO:bv.get? s.heap.objs.size=some (m6 [.int j s.toks,v] 0):=(rR.2 _ (gF eN)).trans OW;have rt:VRep ρ bv (.tup [.int j,d]) (.ref s.heap.objs.size):=⟨_,_,0,rfl,tO,.cons ⟨_,rfl⟩ (.one (VRep.mono (.refl _) imm _ _ rv))⟩;refine Rn.to (ha A env {s with heap:=bv,toks:=s.toks+1} ρ _ R0 aH rt) λzz dz bS cK cD=>Rn.to (hb A env bS dz R0 cD) λg' Pc cj lq q7=>e02 q7 λgk Bo=>?_
  have st:=cK.trans lq;have aV:Step (frs A) (e::I::ownOf cx env) ρ ρ s.heap bv:=⟨⟨[],(c9 _).symm,λzz q=>by cases q⟩,λb o zz hb q=>.inl (keep b o (λh=>hb (lh (as:=[e,I]) (ownOf cx env) h)) q),imm,bz⟩;have n6:bv.IsListIter I l (j+1):=by refine e12 p9 ?_;clear p9;intro o a b;exact aB o ((rR.2 I (bV bB)).trans a) b
  refine e12 (id n6) λoI2 Pj _=>?_;have c1:((j:Int)+1)=((j+1:Nat):Int):=by push_cast;rfl
  rw[c1] at Bm;refine hR g' cj Pc v (aV.trans (st.widen' λa ha=>aL _ (aL _ ha))) gk (st.keep _ _ qb.1 qb.2.1 Bm λq7=>e21 q7 λzz zz q=>by injection q) (by refine e12 n6 ?_;clear n6;intro o a b;exact aB o (st.keep _ _ pL.1 pL.2.1 a (λq7=>e21 q7 λzz zz q=>by rw[b.2] at q;injection q)) b) (yt ⟨qh st Bm qb.1,qb.2⟩ ⟨qh st Pj pL.1,pL.2⟩) Bo
 have GT:∀{j:Nat} {d':AV} {ds:List AV},d'::ds=sF j (l0.drop j)->∃d,l0[j]?=some d/\d'=.tup [.int j,d]/\ds=sF (j+1) (l0.drop (j+1)):=λ{j d' ds} h=>by
  by_cases hj:j<l0.length
  ·rw[jB hj] at h;injection h with h1 h2
   exact cH (l0[j]) (by simp[hj]) h1 h2
  ·rw[jA (d8 hj)] at h;injection h
 induction L with
 |nil hc=>
  intro aw he A env s ρ j pV R R0 x hd hE hI hl bB hF hR;have hj:l0[j]?=none:=by
   erw[qV];by_cases hj:j<l0.length
   ·rw[jB hj] at hd;injection hd
   ·exact (d8 hj)
  refine e22 (x.h.hp.list hc hl) λvs c gl rx=>?_;have eU:=rx.length;refine e13 (id hI) λoI g1 g2 g3=>?_;have nI:=gL g1 g2 g3 (by decide) (by decide);refine Iz (ba (jT (wpAny_pyNext_enum_end (E:=λzz zz=>False) (Q:=λr s'=>r=none/\∃h',mO I s.heap h'/\s'={s with heap:=h'}) (R0.handled) (l:=l) hE hI (dk gl) (by simp at hj ⊢;exact ah (aE eU) hj) λh' hx=>⟨rfl,h',hx,rfl⟩)) (λr s' qq=>?_) λzz zz q=>q.2.elim)
  refine e03 qq ?_;clear qq;intro bz e1 ch;refine e12 ch λh' hx e2=>?_;subst e1 e2;refine e03 (hF I (aL _ aG)) λq1 q2 q3=>?_;have imm:ImmLe s.heap h':=λb o i q=>by
   by_cases hb:b=I
   ·clear hI hx g1 q2 item q3 hE hF bB q1 hR;subst hb;exact absurd i (nI o q)
   ·exact hx b o hb q
  have ap:Sim Γ A.frames cx ρ _ env {s with heap:=h'}:=x.butF (F:=[I]) (λb o hb q=>hx b o (by simpa using hb) q) imm bz rfl rfl (VA ⟨q1,q2,q3,_,_,g1,g3⟩)
  have aV:Step (frs A) (e::I::ownOf cx env) ρ ρ s.heap h':=⟨⟨[],by simp,λzz q=>by cases q⟩,λb o zz hb q=>.inl (hx b o (λh=>hb (by simp[h])) q),imm,bz⟩;refine Rn.to (he A env _ ρ R0 ap) λg aP ay aX q7=>e02 q7 λaH b6=>hR g ay aP (aV.trans (aX.widen' λa ha=>aL _ (aL _ ha))) aH b6
 |next hc ha hb hg L' ih=>
  intro mR he A env s ρ j pV R R0 x hd hE hI hl bB hF hR;refine e13 (GT hd) λd hj cg g7=>?_;subst cg;refine item R0 x hE hI hl bB hF hj hc ha hb λg' s' ae Bz st x' GZ Ha rS r'=>?_;have rest:cM (av Γ.prog Γ.w) A (.forLoop (.Tuple mU x1 tp) (.ref e) body cR env) R s':=ih he R0 x' g7 GZ Ha (st.pre.get hl) bB rS λuy ky gp uW=>hR uy ky gp (st.trans uW);rcases hg with rfl|rfl
  ·cases (show g'=.next from r');exact rest
  ·cases (show g'=.cont from r');exact rest
 |stop hc ha hb hg1 hg2=>
  rename_i d ds g σ σ₁ aw;intro mR he A env s ρ j pV R R0 x hd hE hI hl bB hF hR;refine e02 he ?_;clear he;intro cm cW;subst cm;subst cW;refine e13 (GT hd) λd hj d0 g7=>?_;subst d0;refine item R0 x hE hI hl bB hF hj hc ha hb λg' s' ae Bz st x' GZ Ha rS r'=>?_;induction g using Fl.casesOn with
  |next=>exact absurd rfl hg1
  |cont=>exact absurd rfl hg2
  |brk=>cases (show g'=.brk from r');exact hR .next s' ae st x' rfl
  |ret d=>refine e12 r' ?_;clear r';intro v d5 rv;subst d5;exact hR (.ret v) s' ae st x' ⟨v,rfl,rv⟩
theorem IA{n:Nat}{l0:List AV}{y:Str}{np cp pos tp:Pos}{v:Expr}{mU:List Expr}{x1:Nat}{body:List Stmt}{r:Option Fl}{f:Fl}(hf:Ev Γ k cx σ (.Name y np) (.typ "enumerate") σ) (hv:Ev Γ k cx σ v (.loc n) σ₁) (gq:dA v=false) (hn:σ₁.heap[n]?=some (.list l0))
  (L:Lp Γ k cx (.Tuple mU x1 tp) body (λH=>H[n]?=some (.list l0)) (sF 0 l0) σ₁ r aw) (he:Aft Γ k cx [] f aw cJ r):Ex1 Γ k cx σ (.For (.Tuple mU x1 tp) (.Call (.Name y np) [v] [] cp) body [] pos) f cJ:=λA env s ρ R x=>by
 erw[exec_For];refine Rn.standAt ?_;have call:Rn Γ A (ownOf cx env) ρ s (eval (.Call (.Name y np) [v] [] cp) env) λu ae s'=>∃ai e I l,Sim Γ A.frames cx ae σ₁ env s'/\u=.ref e/\Le ai.heap s'.heap/\ai.heap.objs.size<=s'.heap.objs.size/\ai.heap.objs.size<=e/\ai.heap.objs.size<=I/\e≠I/\xf s'.heap e I 0 .none/\s'.heap.IsListIter I l 0/\ae[n]?=some l/\Sim Γ A.frames cx ae σ₁ env ai/\Step (frs A) (ownOf cx env) ρ ae s.heap ai.heap:=by
  erw[AI];refine Rn.bind (hf A env s ρ R x) λw az ai aV q7=>e02 q7 λap aU=>?_;cases (show w=_ from aU);have hp:gt [v]=true:=by simp[gt,gq]
  refine xY (first:=[]) Callee.type hp ?_
  have es:Es Γ k cx σ [v] [.loc n] σ₁:=Es.cons hv Es.nil gq;refine Rn.mono (es A env ai az cp R ap) λvs aP ay aX q7=>e02 q7 λaH b6=>⟨aH.h.base,?_⟩;refine e12 (gN b6) λu dJ dY=>?_;subst dJ;refine e12 dY λl eT hl=>?_;subst eT;refine e22 (aH.h.hp.list hn hl) λws j g rx=>?_;refine ba (jT (Q:=λu s'=>u=.ref (ay.heap.objs.size+1)/\xf s'.heap (ay.heap.objs.size+1) ay.heap.objs.size 0 .none/\s'.heap.IsListIter ay.heap.objs.size l 0/\Le ay.heap s'.heap/\s'.gens=ay.gens/\s'.os=ay.os) (E:=λzz zz=>False)
   (call_enumerate_list (dk g) λh' hE hI hz hk=>⟨rfl,hE,hI,hk,rfl,rfl⟩)) (λu s' qq=>?_) λzz zz q=>q.2.elim
  refine e05 qq ?_;clear qq;intro hs e hE hI eS;refine e03 eS λle g1 g2=>?_;have sl:SLe ay s':=⟨le,hs,g1,g2⟩;exact ⟨aP,sl.step,ay,_,_,l,sl.sim aH,e,le,hs,jD _,aq _,wG _,hE,hI,hl,aH,aV.trans aX⟩
 refine ag (Rn.to call λu az ay zz qq=>?_);refine e41 qq ?_;clear qq;intro ai e I l hG;refine e05 hG λaH eu le bz fw=>?_;refine e05 fw λxA Gu bB hE fA=>?_;refine e04 fA λhI hl ap aV=>?_;subst eu;have GN:∀a,ai.heap.objs.size<=a->a∉az/\a∉ownOf cx env/\Γ.base.get? a=none:=λa ha=>by
  refine ⟨λq=>absurd (ap.h.hp.lt q) (bQ.mpr ha),λq=>absurd (ap.vr.lt a q) (bQ.mpr ha),?_⟩;cases e:Γ.base.get? a with
  |none=>rfl
  |some o=>exact absurd (cF (ap.h.base _ _ e)) (bQ.mpr ha)
 have Oz:rI (.Call (.Name y np) [v] [] cp) env (.ref e)=pure (.ref e):=rfl;erw[Oz];refine ag (am (ag (gZ (ag (cu (wpAny_pyIter_enum hE ?_))))));refine FF (VB L he R aH (j:=0) rfl (by simpa using hE) hI hl bB (yt (GN _ xA) (GN _ Gu)) λg s' ae st x' r'=>⟨ae,?_,x',r'⟩)
 have d1:Step (frs A) (I::ownOf cx env) az ae ai.heap s'.heap:=Ch le bz xA st;exact aV.trans (Ch (Le.refl _) (aq _) Gu d1)
end
noncomputable section
noncomputable def vB{α:Type}:Nat->List α->List (α × Nat)
 |_,[]=>[]
 |n,x::r=>(x,n)::vB (n+1) r
noncomputable def IB(k:NameKind):Bool:=match k with
 |.local|.cell=>true
 |_=>false
noncomputable def yu(l:List (Str × NameKind)):List Str:=(l.filter λp=>match p.2 with|.cell=>true|_=>false).map (·.1)
noncomputable def fX(l:List (Str × NameKind)):List Str:=(l.filter λp=>IB p.2&&!(p.1==(".0":Str))).map (·.1)
noncomputable def oF(sc:dg):Cx:={sc,vis:=vB 0 (fX sc.names),cells:=yu sc.names,n:=(fX sc.names).length+8}
noncomputable def CW(vis:List (Str × Nat))(l:List (Str × NameKind)):List (Str × Nat):=l.filterMap λp=>match p.2 with
 |.free=>(vis.lookup p.1).map λi=>(p.1,i)
 |_=>none
noncomputable def fo(cx:Cx)(scope:dg)(nx:Nat):Cx :=
 {sc:=Co scope cx.sc,vis:=vB nx (fX scope.names)++CW cx.vis scope.names,cells:=yu scope.names,n:=cx.n}
noncomputable def jm{α:Type}[BEq α]:List α->Bool
 |[]=>true
 |x::r=>!r.contains x&&jm r
noncomputable def yv(cx:Cx):Bool:=jm (cx.vis.map (·.1))&&jm (cx.vis.map (·.2))&&cx.vis.all λp=>decide (p.2<cx.n)
noncomputable def IC(k:Option NameKind):Bool:=match k with
 |some .cell|some .free=>true
 |_=>false
noncomputable def yw(k:ScopeKind):Bool:=match k with
 |.function=>true
 |_=>false
noncomputable def qp(cx:Cx)(scope:dg)(ci:Cx):Bool :=
 yw scope.kind&&jm (scope.names.map (·.1))&&yv ci &&
 (scope.names.all λp=>match p.2 with|.free=>(cx.vis.lookup p.1).isSome&&IC (cx.kind p.1)|_=>true)
noncomputable def sG(cx:Cx)(x:Str):Option Nat:=match cx.kind x with
 |some .local|some .cell|some .free=>if x==("__debug__":Str)||x==("__classdict__":Str) then none else cx.vis.lookup x
 |_=>none
noncomputable def dK(cx:Cx)(x:Str):Option Nat:=match cx.kind x with
 |some .local=>cx.vis.lookup x
 |some .cell=>if cx.cells.contains x then cx.vis.lookup x else none
 |_=>none
noncomputable def yx:Value->Option AV
 |.ref a=>some (.fn a)
 |.type t=>some (.typ t)
 |.builtin i=>some (.bi i)
 |.int i _=>some (.int i)
 |_=>none
noncomputable def gQ(K:Frag)(cx:Cx)(x:Str):Option AV:=match cx.kind x with
 |some .globalImplicit=>if x==("__debug__":Str) then none else (sk K x).bind yx
 |_=>none
noncomputable def sH:Expr->Bool
 |.Set ..=>true
 |_=>false
noncomputable def sI:List ME->MEs
 |[]=>.nil
 |e::r=>.cons e (sI r)
noncomputable def yy:List MC->MCs
 |[]=>.nil
 |e::r=>.cons e (yy r)
noncomputable def CX:List MS->MB
 |[]=>.nil
 |e::r=>.cons e (CX r)
inductive EV where
 |nm (x:Str) (p:Pos)
 |st (v:Expr) (p:Pos)
 |call (f:Expr) (as:List Expr) (ks:List w0) (p:Pos)
 |tup (es:List Expr) (n:Nat) (p:Pos)
 |sub (o i:Expr) (p:Pos)
 |att (o:Expr) (x:Str) (p:Pos)
 |setc (e:Expr) (g:List ik) (s:dg) (p:Pos)
 |other
inductive SV where
 |del (ts:List Expr) (p:Pos)
 |exp (e:Expr) (p:Pos)
 |asg (ts:List Expr) (e:Expr) (p:Pos)
 |brk (p:Pos)
 |other
noncomputable def nc:Expr->EV
 |.Name x p=>.nm x p
 |.Starred v p=>.st v p
 |.Call f as ks p=>.call f as ks p
 |.Tuple es n p=>.tup es n p
 |.Subscript o i p=>.sub o i p
 |.Attribute o x p=>.att o x p
 |.SetComp e g s p=>.setc e g s p
 |_=>.other
noncomputable def sJ:Stmt->SV
 |.Delete ts p=>.del ts p
 |.Expr e p=>.exp e p
 |.Assign ts e p=>.asg ts e p
 |.Break p=>.brk p
 |_=>.other
def ID(e:Expr):EV->Prop
 |.nm x p=>e=.Name x p
 |.st v p=>e=.Starred v p
 |.call f as ks p=>e=.Call f as ks p
 |.tup es n p=>e=.Tuple es n p
 |.sub o i p=>e=.Subscript o i p
 |.att o x p=>e=.Attribute o x p
 |.setc c g s p=>e=.SetComp c g s p
 |.other=>True
def IE(e:Stmt):SV->Prop
 |.del ts p=>e=.Delete ts p
 |.exp c p=>e=.Expr c p
 |.asg ts c p=>e=.Assign ts c p
 |.brk p=>e=.Break p
 |.other=>True
theorem VC(e:Expr):ID e (nc e):=by induction e using fL<;>first|exact rfl|exact trivial
theorem VD(e:Stmt):IE e (sJ e):=by induction e using M3<;>first|exact rfl|exact trivial
theorem qr{α:Type}{f:EV->Option α}{e:Expr}{x:α}{C:Prop}(h:f (nc e)=some x)(k:∀v,ID e v->f v=some x->C):C:=k _ (VC e) h
theorem yz{α:Type}{f:SV->Option α}{e:Stmt}{x:α}{C:Prop}(h:f (sJ e)=some x)(k:∀v,IE e v->f v=some x->C):C:=k _ (VD e) h
noncomputable def IF:EV->Option Str
 |.nm x _=>some x
 |_=>none
noncomputable def jn(e:Expr):Option Str:=IF (nc e)
theorem oG{e:Expr}{x:Str}(h:jn e=some x):∃p,e=.Name x p:=qr (f:=IF) h λv k h=>by
 induction v using EV.casesOn<;>first|(injection h;done)|((injection h with aC;subst aC);exact ⟨_,k⟩)
noncomputable def IG:EV->Option Expr
 |.st v _=>some v
 |_=>none
noncomputable def IH(e:Expr):Option Expr:=IG (nc e)
theorem VE{e v:Expr}(h:IH e=some v):∃p,e=.Starred v p:=qr (f:=IG) h λv k h=>by
 induction v using EV.casesOn<;>first|(injection h;done)|((injection h with aI;subst aI);exact ⟨_,k⟩)
theorem VF{e:Expr}{x:Option Expr × Option Expr × Option Expr}(h:oB e=some x):∃p,e=.Slice x.1 x.2.1 x.2.2 p:=by
 induction e using fL<;>first|(injection h;done)|((injection h with aS;subst aS);exact ⟨_,rfl⟩)
noncomputable def iU{α:Type}:List α->Option α
 |[a]=>some a
 |_=>none
theorem jo{α:Type}{l:List α}{a:α}(h:iU l=some a):l=[a]:=by
 rcases l with _|⟨b,_|⟨c,r⟩⟩
 ·injection h
 ·(injection h with be;subst be);rfl
 ·injection h
noncomputable def ng{α:Type}:List α->Option (α × α)
 |[a,b]=>some (a,b)
 |_=>none
theorem nh{α:Type}{l:List α}{a:α × α}(h:ng l=some a):l=[a.1,a.2]:=by
 rcases l with _|⟨b,_|⟨c,_|⟨d,r⟩⟩⟩
 ·injection h
 ·injection h
 ·(injection h with bw;subst bw);rfl
 ·injection h
theorem bg{α β:Type}{o:Option α}{f:α->Option β}{b:β}(h:o.bind f=some b):∃a,o=some a/\f a=some b:=tm.mp h
noncomputable def ogd{α:Type}(c:Bool)(a:α):Option α:=if c=true then some a else none
theorem gu{α:Type}{c:Bool}{a b:α}(h:ogd c a=some b):c=true/\a=b:=by
 unfold ogd at h;by_cases q:c=true
 ·rw[if_pos q] at h;(injection h with bA;subst bA);exact ⟨q,rfl⟩
 ·rw[if_neg q] at h;injection h
noncomputable def okE(b:Bool)(m:ME):ME:=if b=true then m else .bad
noncomputable def opE{α:Type}(o:Option α)(f:α->ME):ME:=match o with
 |some a=>f a
 |none=>.bad
noncomputable def orE{α:Type}(o:Option α)(f:α->ME)(m:ME):ME:=match o with
 |some a=>f a
 |none=>m
noncomputable def okC(b:Bool)(m:MC):MC:=if b=true then m else .bad
noncomputable def orC{α:Type}(o:Option α)(f:α->MC)(m:MC):MC:=match o with
 |some a=>f a
 |none=>m
noncomputable def okS(b:Bool)(m:MS):MS:=if b=true then m else .bad
noncomputable def orS{α:Type}(o:Option α)(f:α->MS)(m:MS):MS:=match o with
 |some a=>f a
 |none=>m
noncomputable def trK:Const->ME
 |.none=>.cst .none
 |.bool b=>.cst (.bool b)
 |.int i=>.cst (.int i)
 |.str s=>.cst (.str s.cps.toList)
 |_=>.bad
noncomputable def CY:AV->Option String
 |.typ t=>some t
 |_=>none
theorem II{d:AV}{t:String}(h:CY d=some t):d=.typ t:=by
 induction d using AV.casesOn<;>first|(injection h;done)|((injection h with bN;subst bN);rfl)
noncomputable def IJ:AV->Option Nat
 |.fn t=>some t
 |_=>none
theorem VG{d:AV}{t:Nat}(h:IJ d=some t):d=.fn t:=by
 induction d using AV.casesOn<;>first|(injection h;done)|((injection h with ch;subst ch);rfl)
noncomputable def yA(K:Frag)(cx:Cx)(e:Expr):Option String:=(jn e).bind λy=>(gQ K cx y).bind CY
noncomputable def IK(K:Frag)(cx:Cx)(e:Expr):Option Nat:=(jn e).bind λy=>(gQ K cx y).bind IJ
noncomputable def IL:EV->Option ((Expr × List Expr) × (List w0 × Pos))
 |.call f as ks p=>some ((f,as),(ks,p))
 |_=>none
noncomputable def yB(e:Expr):Option ((Expr × List Expr) × (List w0 × Pos)):=IL (nc e)
theorem CZ{e:Expr}{x:(Expr × List Expr) × (List w0 × Pos)}(h:yB e=some x):e=.Call x.1.1 x.1.2 x.2.1 x.2.2:=qr (f:=IL) h λv k h=>by
 induction v using EV.casesOn<;>first|(injection h;done)|((injection h with cg;subst cg);exact k)
noncomputable def IM:EV->Option (List Expr × Nat × Pos)
 |.tup es n p=>some (es,n,p)
 |_=>none
noncomputable def C1(e:Expr):Option (List Expr × Nat × Pos):=IM (nc e)
theorem IN{e:Expr}{x:List Expr × Nat × Pos}(h:C1 e=some x):e=.Tuple x.1 x.2.1 x.2.2:=qr (f:=IM) h λv k h=>by
 induction v using EV.casesOn<;>first|(injection h;done)|((injection h with cm;subst cm);exact k)
noncomputable def VH(K:Frag)(cx:Cx)(e:Expr):Option (Nat × Expr):=(yB e).bind λq=>(ng q.1.2).bind λzv=>(IK K cx zv.1).bind λf=>ogd (q.2.1.isEmpty&&yA K cx q.1.1==some "map"&&!dA zv.2) (f,zv.2)
noncomputable def mapOf(K:Frag)(cx:Cx)(f:AV)(args:List Expr):Option (Nat × Expr):=(CY f).bind λt=>(iU args).bind λa=>(VH K cx a).bind λr=>ogd (t=="tuple") r
noncomputable def IP(K:Frag)(tr:Expr->ME)(cx:Cx)(args:List Expr)(pos:Pos):Expr->ME
 |.Attribute o x jc=>okE (sm o&&jc.endLine==pos.line&&decide (args.length<29)) (orE ((iU args).bind IH) (λv=>.mthS (tr o) x (tr v)) (okE (gt args) (.mth (tr o) x (sI (args.map tr)))))
 |.Name x _=>opE (gQ K cx x) λf=>orE (mapOf K cx f args) (λgv=>.tmap gv.1 (tr gv.2)) (okE (gt args) (.call f (sI (args.map tr))))
 |_=>.bad
noncomputable def cm1(gm:List CmpOp)(rs:List Expr):Option (CmpOp × Expr):=(iU gm).bind λop=>(iU rs).bind λr=>ogd (!ph op r) (op,r)
noncomputable def cm2(gm:List CmpOp)(rs:List Expr):Option ((CmpOp × CmpOp) × (Expr × Expr)):=(ng gm).bind λop=>(ng rs).bind λr=>ogd (!ph op.2 r.2) (op,r)
noncomputable def VI(gens:List ik):Option (Str × ik):=(iU gens).bind λg=>(jn g.target).bind λt=>ogd (g.is_async==0) (t,g)
noncomputable def qt(nx:Nat)(scope:dg):List Nat:=(vB nx (fX scope.names)).map (·.2)
noncomputable def sK(cx:Cx)(scope:dg)(nx:Nat)(gens:List ik):Option (Nat × ik):=(VI gens).bind λtg=>(dK (fo cx scope nx) tg.1).bind λi=>ogd (qp cx scope (fo cx scope nx)&&!sH tg.2.iter) (i,tg.2)
noncomputable def yC(tr:Expr->ME):Option Expr->MO
 |none=>.no
 |some e=>.so (tr e)
noncomputable def IQ(f:Expr->MC):List Expr->Option MCO
 |[]=>some .no
 |[c]=>some (.so (f c))
 |_=>none
mutual
noncomputable def trE(K:Frag):Nat->Cx->Nat->Expr->ME
 |0,_,_,_=>.bad
 |n+1,cx,nx,e=>match e with
  |.Constant c _ _=>trK c
  |.Name x _=>orE (sG cx x) .var (opE (gQ K cx x) .glb)
  |.BoolOp op es _=>opE (ng es) λab=>.bop op (trE K n cx nx ab.1) (trE K n cx nx ab.2)
  |.NamedExpr t v _=>opE ((jn t).bind (dK cx)) λi=>.nam i (trE K n cx nx v)
  |.BinOp l op r _=>.bin op (trE K n cx nx l) (trE K n cx nx r)
  |.UnaryOp op v _=>.un op (trE K n cx nx v)
  |.IfExp c a b _=>.ife (trC K n cx nx c) (trE K n cx nx a) (trE K n cx nx b)
  |.Compare l gm rs _=>opE (cm1 gm rs) λr=>.cmp (trE K n cx nx l) r.1 (trE K n cx nx r.2)
  |.Call f args kws pos=>okE kws.isEmpty (IP K (trE K n cx nx) cx args pos f)
  |.Attribute o x _=>okE (sm o) (.att (trE K n cx nx o) x)
  |.Subscript v s _=>orE (oB s) (λq=>.slc (trE K n cx nx v) (yC (trE K n cx nx) q.1) (yC (trE K n cx nx) q.2.1) (yC (trE K n cx nx) q.2.2)) (.idx (trE K n cx nx v) (trE K n cx nx s))
  |.Tuple es _ _=>okE (gt es) (.tup (sI (es.map (trE K n cx nx))))
  |.List es _=>okE (gt es) (.lst (sI (es.map (trE K n cx nx))))
  |.Dict ks vs _=>okE (ks.isEmpty&&vs.isEmpty) .dct
  |.ListComp elt gens scope _=>opE (sK cx scope nx gens) λig=>opE (IQ (trC K n (fo cx scope nx) (nx+(fX scope.names).length)) ig.2.ifs) λc=>.lcp (trE K n (fo cx scope nx) (nx+(fX scope.names).length) elt) ig.1 (trE K n cx nx ig.2.iter) c (qt nx scope)
  |.DictComp k v gens scope _=>opE (sK cx scope nx gens) λig=>okE ig.2.ifs.isEmpty (.dcp (trE K n (fo cx scope nx) (nx+(fX scope.names).length) k) (trE K n (fo cx scope nx) (nx+(fX scope.names).length) v) ig.1 (trE K n cx nx ig.2.iter) (qt nx scope))
  |_=>.bad
noncomputable def trC(K:Frag):Nat->Cx->Nat->Expr->MC
 |0,_,_,_=>.bad
 |n+1,cx,nx,e=>match e with
  |.UnaryOp op v _=>okC (decide (op=.Not)) (.not (trC K n cx nx v))
  |.BoolOp op es _=>.all op (yy (es.map (trC K n cx nx)))
  |.Compare l gm rs _=>orC (cm1 gm rs) (λr=>.cmp (trE K n cx nx l) r.1 (trE K n cx nx r.2)) (orC (cm2 gm rs) (λr=>.cmp2 (trE K n cx nx l) r.1.1 (trE K n cx nx r.2.1) r.1.2 (trE K n cx nx r.2.2)) .bad)
  |_=>okC (xW e) (.val (trE K n cx nx e))
end
noncomputable def yD(cx:Cx):List Expr->Option (List Nat)
 |[]=>some []
 |t::ts=>(jn t).bind λx=>(dK cx x).bind λi=>(yD cx ts).map (i::·)
noncomputable def trT(K:Frag)(n:Nat)(cx:Cx)(nx:Nat)(t:Expr):MT:=match t with
 |.Name x _=>match dK cx x with
  |some i=>.nm i
  |none=>.bad
 |.Tuple ts _ _=>match yD cx ts with
  |some l=>.tp l
  |none=>.bad
 |.Attribute o x _=>.at (trE K n cx nx o) x
 |.Subscript o i _=>if (oB i).isNone then .ix (trE K n cx nx o) (trE K n cx nx i) else .bad
 |_=>.bad
noncomputable def IR:EV->Option (Expr × Expr × Pos)
 |.sub o i p=>some (o,i,p)
 |_=>none
noncomputable def yE(e:Expr):Option (Expr × Expr × Pos):=IR (nc e)
theorem C2{e:Expr}{x:Expr × Expr × Pos}(h:yE e=some x):e=.Subscript x.1 x.2.1 x.2.2:=qr (f:=IR) h λv k h=>by
 induction v using EV.casesOn<;>first|(injection h;done)|((injection h with cW;subst cW);exact k)
noncomputable def IS:EV->Option (Expr × Str × Pos)
 |.att o i p=>some (o,i,p)
 |_=>none
noncomputable def C3(e:Expr):Option (Expr × Str × Pos):=IS (nc e)
theorem IT{e:Expr}{x:Expr × Str × Pos}(h:C3 e=some x):e=.Attribute x.1 x.2.1 x.2.2:=qr (f:=IS) h λv k h=>by
 induction v using EV.casesOn<;>first|(injection h;done)|((injection h with d0;subst d0);exact k)
noncomputable def C4(e:Expr):Option (Expr × Pos):=(yB e).bind λq=>ogd (q.1.2.isEmpty&&q.2.1.isEmpty) (q.1.1,q.2.2)
theorem IU{e:Expr}{x:Expr × Pos}(h:C4 e=some x):e=.Call x.1 [] [] x.2:=by
 refine e12 (bg h) ?_;clear h;intro q h1 h;refine e02 (gu h) λh2 d5=>?_;subst d5;refine e02 (i3.mp h2) λh3 h4=>?_;erw[CZ h1,i6.mp h3,i6.mp h4]
noncomputable def VJ(K:Frag)(cx:Cx)(e:Expr):Option Expr:=(yB e).bind λq=>(iU q.1.2).bind λv=>ogd (q.2.1.isEmpty&&yA K cx q.1.1==some "enumerate"&&!dA v) v
noncomputable def VK(e:Expr):Option (Expr × Expr):=(C1 e).bind λq=>ng q.1
noncomputable def IV(K:Frag)(cx:Cx)(t e:Expr)(els:List Stmt):Option ((Nat × Nat) × Expr):=(VK t).bind λxy=>((jn xy.1).bind (dK cx)).bind λi=>((jn xy.2).bind (dK cx)).bind λj=>(VJ K cx e).bind λv=>ogd els.isEmpty ((i,j),v)
noncomputable def C5(cx:Cx)(e:Expr):Option Nat:=(C4 e).bind λfc=>(C3 fc.1).bind λa=>(jn a.1).bind λs=>(sG cx s).bind λi=>ogd (a.2.1==("pop":Str)&&a.2.2.endLine==fc.2.line) i
noncomputable def IW:SV->Option Expr
 |.del ts _=>iU ts
 |_=>none
noncomputable def IX(e:Stmt):Option Expr:=IW (sJ e)
noncomputable def IY:SV->Option Expr
 |.exp e _=>some e
 |_=>none
noncomputable def IZ(e:Stmt):Option Expr:=IY (sJ e)
theorem VL{s:Stmt}{e:Expr}(h:IX s=some e):∃p,s=.Delete [e] p:=yz (f:=IW) h λv k h=>by
 induction v using SV.casesOn<;>first|(injection h;done)|exact ⟨_,by erw[<- jo h];exact k⟩
theorem VM{s:Stmt}{e:Expr}(h:IZ s=some e):∃p,s=.Expr e p:=yz (f:=IY) h λv k h=>by
 induction v using SV.casesOn<;>first|(injection h;done)|((injection h with dJ;subst dJ);exact ⟨_,k⟩)
noncomputable def sL(cx:Cx)(b:List Stmt):Option (Nat × Nat × Nat):=(ng b).bind λst=>(IX st.1).bind λe=>(yE e).bind λoi=>((jn oi.1).bind (sG cx)).bind λd=>(C5 cx oi.2.1).bind λs=>(IZ st.2).bind λe'=>(C5 cx e').bind λt=>some (d,s,t)
noncomputable def I0:SV->Option (List Expr × Expr × Pos)
 |.asg ts e p=>some (ts,e,p)
 |_=>none
noncomputable def I3(e:Stmt):Option (List Expr × Expr × Pos):=I0 (sJ e)
theorem VN{e:Stmt}{x:List Expr × Expr × Pos}(h:I3 e=some x):e=.Assign x.1 x.2.1 x.2.2:=yz (f:=I0) h λv k h=>by
 induction v using SV.casesOn<;>first|(injection h;done)|((injection h with dY;subst dY);exact k)
noncomputable def I4:SV->Option Pos
 |.brk p=>some p
 |_=>none
noncomputable def I5(e:Stmt):Option Pos:=I4 (sJ e)
theorem VO{e:Stmt}{x:Pos}(h:I5 e=some x):e=.Break x:=yz (f:=I4) h λv k h=>by
 induction v using SV.casesOn<;>first|(injection h;done)|((injection h with eT;subst eT);exact k)
noncomputable def VP:ExceptHandler->Option (Expr × List Stmt)
 |.ExceptHandler t n b _=>t.bind λt=>ogd n.isNone (t,b)
noncomputable def I6(K:Frag)(cx:Cx)(body:List Stmt)(hs:List ExceptHandler):Option ((Nat × Expr) × (Nat × Nat × Nat)):=(ng body).bind λab=>(I3 ab.1).bind λte=>(iU te.1).bind λt=>((jn t).bind (dK cx)).bind λi=>(C4 te.2.1).bind λfp=>(yE fp.1).bind λzz=>(iU hs).bind λh=>(VP h).bind λyb=>(sL cx yb.2).bind λd=>(I5 ab.2).bind λzz=>ogd (yA K cx yb.1==some "StopIteration") ((i,fp.1),d)
noncomputable def I7:EV->Option (Expr × List ik × dg × Pos)
 |.setc elt gens scope p=>some (elt,gens,scope,p)
 |_=>none
noncomputable def I8(e:Expr):Option (Expr × List ik × dg × Pos):=I7 (nc e)
theorem VQ{e:Expr}{x:Expr × List ik × dg × Pos}(h:I8 e=some x):e=.SetComp x.1 x.2.1 x.2.2.1 x.2.2.2:=qr (f:=I7) h λv k h=>by
 induction v using EV.casesOn<;>first|(injection h;done)|((injection h with eS;subst eS);exact k)
noncomputable def I9(cx:Cx)(nx:Nat)(t e:Expr):Option ((Nat × Nat) × (Expr × ik × dg)):=(C1 t).bind λte=>(iU te.1).bind λx=>((jn x).bind (dK cx)).bind λi=>(I8 e).bind λq=>(sK cx q.2.2.1 nx q.2.1).bind λig=>ogd ig.2.ifs.isEmpty ((i,ig.1),(q.1,ig.2,q.2.2.1))
mutual
noncomputable def trS(K:Frag):Nat->Cx->Nat->Stmt->MS
 |0,_,_,_=>.bad
 |n+1,cx,nx,s=>match s with
  |.Expr e _=>okS (!m7 e) (.exp (trE K n cx nx e))
  |.Pass _=>.pass
  |.Break _=>.brk
  |.Continue _=>.cont
  |.Return v _=>orS v (λe=>.ret (trE K n cx nx e)) .bad
  |.Assign ts e _=>orS (iU ts) (λt=>orS (I9 cx nx t e) (λq=>.setU q.1.1 (trE K n (fo cx q.2.2.2 nx) (nx+(fX q.2.2.2.names).length) q.2.1) q.1.2 (trE K n cx nx q.2.2.1.iter) (qt nx q.2.2.2))
    (okS (!qi e&&!dA t) (.asg (trT K n cx nx t) (trE K n cx nx e))))
   (orS (ng ts) (λq=>okS (!qi e&&!dA q.1&&!dA q.2&&!m7 e) (.asg2 (trT K n cx nx q.1) (trT K n cx nx q.2) (trE K n cx nx e))) .bad)
  |.AugAssign t op e _=>orS ((jn t).bind (dK cx)) (λi=>.aug i op (trE K n cx nx e)) (orS (C3 t) (λa=>.augA (trE K n cx nx a.1) a.2.1 op (trE K n cx nx e)) .bad)
  |.If c a b _=>.ite (trC K n cx nx c) (trB K n cx nx a) (trB K n cx nx b)
  |.For t e body els _=>okS (!sH e) (orS (IV K cx t e els) (λq=>.forE q.1.1 q.1.2 (trE K n cx nx q.2) (trB K n cx nx body)) (.for_ (trT K n cx nx t) (trE K n cx nx e) (trB K n cx nx body) (trB K n cx nx els)))
  |.While c body els _=>.whl (trC K n cx nx c) (trB K n cx nx body) (trB K n cx nx els)
  |.Delete ts _=>orS ((iU ts).bind yE) (λq=>okS (oB q.2.1).isNone (.del (trE K n cx nx q.1) (trE K n cx nx q.2.1))) .bad
  |.Try body hs els fin _=>okS (els.isEmpty&&fin.isEmpty&&!hs.isEmpty) (orS (I6 K cx body hs) (λq=>.tryN q.1.1 (trE K n cx nx q.1.2) q.2.1 q.2.2.1 q.2.2.2) (.tryB (trB K n cx nx body)))
  |_=>.bad
noncomputable def trB(K:Frag):Nat->Cx->Nat->List Stmt->MB
 |0,_,_,_=>.cons .bad .nil
 |n+1,cx,nx,l=>CX (l.map (trS K n cx nx))
end
noncomputable def VR:Data->Option i8
 |.func fd=>some fd
 |_=>none
noncomputable def vC(K:Frag)(a:Nat):Option i8:=(K.lookup a).bind λo=>VR o.data
noncomputable def C6:FuncBody->Option (List Stmt)
 |.stmts b=>some b
 |_=>none
noncomputable def yF(K:Frag)(a:Nat):MB:=match (vC K a).bind λfd=>(C6 fd.body).map λb=>(fd,b) with
 |some q=>trB K 40 (oF q.1.scope) (fX q.1.scope.names).length q.2
 |none=>.cons .bad .nil
noncomputable def vD(cx:Cx)(ds:List (Str × AV)):List (Option AV):=(bn cx.n).map λi=>(cx.vis.find? (·.2==i)).bind λp=>ds.lookup p.1
end
theorem qv{α:Type}[BEq α][LawfulBEq α]:∀{l:List α},jm l=true->l.Nodup:=λ{l}=>by
 induction l with
 |nil=>
  intro _;simp
 |cons x r ih=>
  intro h;simp only[jm,ie,mP,List.contains_eq_mem,decide_eq_false_iff_not] at h;exact fM.mpr ⟨h.1,ih h.2⟩
theorem C7{α:Type}{x:α}{i:Nat}:∀{l:List α} {n:Nat},(x,i)∈vB n l->x∈l
 |y::r,n,h=>by
  rcases bu.mp h with e|e
  ·(injection e with aC aI;subst aI;subst aC);simp
  ·exact aL _ (C7 e)
theorem Ja{α β:Type}{l:List (α × β)}(h:(l.map (·.1)).Nodup){x:α}{i j:β}(h1:(x,i)∈l)(h2:(x,j)∈l):i=j:=by
 obtain ⟨a,ha,e1⟩:=qT h1;obtain ⟨b,hb,e2⟩:=qT h2;have g1:(l.map (·.1))[a]?=some x:=by simp[ha,e1]
 have g2:(l.map (·.1))[b]?=some x:=by simp[hb,e2]
 have:=sj h g1 g2;clear g2;subst this;rw[e1] at e2;injection e2
theorem VS{α β:Type}{l:List (α × β)}(h:(l.map (·.2)).Nodup){x y:α}{i:β}(h1:(x,i)∈l)(h2:(y,i)∈l):x=y:=by
 obtain ⟨a,ha,e1⟩:=qT h1;obtain ⟨b,hb,e2⟩:=qT h2;have g1:(l.map (·.2))[a]?=some i:=by simp[ha,e1]
 have g2:(l.map (·.2))[b]?=some i:=by simp[hb,e2]
 have:=sj h g1 g2;clear g2;subst this;rw[e1] at e2;injection e2
theorem Jb{cx:Cx}(h:yv cx=true):(∀x i j,(x,i)∈cx.vis->(x,j)∈cx.vis->i=j)/\(∀x y i,(x,i)∈cx.vis->(y,i)∈cx.vis->x=y)/\∀x i,(x,i)∈cx.vis->i<cx.n:=by
 simp only[yv,ie,Fb,decide_eq_true_eq] at h;exact ⟨λx i j=>Ja (qv h.1.1),λx y i=>VS (qv h.1.2),λx i hx=>h.2 _ hx⟩
theorem Jc{x:Str}{l:List (Str × NameKind)}(h:x∈fX l):(x,NameKind.local)∈l\/(x,eF)∈l:=by
 unfold fX at h;obtain ⟨⟨y,kd⟩,hm,e⟩:=bo.mp h;subst e;refine e02 (d9.mp hm) λh1 h2=>?_;simp only[ie] at h2;induction kd using Fc<;>simp[IB] at h2
 ·exact .inl h1
 ·exact .inr h1
theorem VT{x:Str}{l:List (Str × NameKind)}(h:x∈yu l):(x,eF)∈l:=by
 unfold yu at h;obtain ⟨⟨y,kd⟩,hm,e⟩:=bo.mp h;subst e;refine e02 (d9.mp hm) λh1 h2=>?_;induction kd using Fc<;>simp at h2
 exact h1
theorem Jd{x:Str}{i:Nat}{vis:List (Str × Nat)}{l:List (Str × NameKind)}(h:(x,i)∈CW vis l):(x,fg)∈l/\vis.lookup x=some i:=by
 unfold CW at h;obtain ⟨⟨y,kd⟩,hm,e⟩:=oX.mp h;have hk:kd=fg:=by
  induction kd using Fc with
  |free=>rfl
  |_=>exact absurd e (by simp)
 subst hk;refine e12 (fN.mp e) ?_;clear e;intro j hj e
 (injection e with bA bN;subst bN;subst bA)
 exact ⟨hm,hj⟩
theorem sM{cx:Cx}{scope:dg}{nx:Nat}(h:qp cx scope (fo cx scope nx)=true):su cx scope (fo cx scope nx):=by
 simp only[qp,ie] at h;refine e02 h ?_;clear h;intro ch h4;refine e02 ch λcg h3=>?_;refine e02 cg λh1 h2=>?_;refine e03 (Jb h3) λa b c=>?_;have fr:∀x,(x,fg)∈scope.names->∃i,(x,i)∈cx.vis/\(cx.kind x=some .cell\/cx.kind x=some .free):=λx hx=>by
  have:=(Fb.mp h4) _ hx;simp only[ie] at this;refine e11 (oZ.mp this.1) λi hi=>?_;refine aB i (mem_of_lookup hi) ?_;have h2:=this.2;unfold IC at h2;split at h2
  ·left;assumption
  ·right;assumption
  ·injection h2
 refine ⟨?_,rfl,rfl,qv h2,a,b,c,λx i hx=>?_,fr,λx hx=>VT hx⟩
 ·unfold yw at h1;split at h1
  ·assumption
  ·injection h1
 ·rcases cU.mp hx with q|q
  ·rcases Jc (C7 q) with e|e
   ·exact .inl e
   ·exact .inr (.inl e)
  ·refine e02 (Jd q) λf1 f2=>?_;refine e12 (fr x f1) λj hj hk=>?_;exact .inr (.inr ⟨f1,mem_of_lookup f2,hk⟩)
theorem Je{cx:Cx}{x:Str}{i:Nat}(h:sG cx x=some i):(x,i)∈cx.vis/\(cx.kind x=some .local\/cx.kind x=some .cell\/cx.kind x=some .free)/\(x==("__debug__":Str))=false/\(x==("__classdict__":Str))=false:=by
 unfold sG at h;split at h
 all_goals first
  |(
   rename_i hk;split at h
   ·injection h
   ·rename_i hn;rw[E8,zS] at hn;exact ⟨mem_of_lookup h,by simp[hk],hn.1,hn.2⟩)
  |injection h
theorem vF{cx:Cx}{x:Str}{i:Nat}(h:dK cx x=some i):(x,i)∈cx.vis/\(cx.kind x=some .local\/(cx.kind x=some .cell/\x∈cx.cells)):=by
 unfold dK at h;split at h
 ·rename_i hk;exact ⟨mem_of_lookup h,.inl hk⟩
 ·rename_i hk;split at h
  ·rename_i hc;exact ⟨mem_of_lookup h,.inr ⟨hk,by simpa using hc⟩⟩
  ·injection h
 ·injection h
theorem Jf{v:Value}{d:AV}(h:yx v=some d):∀ρ h,VRep ρ h d v:=by
 intro ρ hp;induction v using Ai<;>simp only[yx] at h<;>cases h
 ·exact ⟨_,rfl⟩
 ·rfl
 ·rfl
 ·rfl
theorem Jg{K:Frag}{cx:Cx}{x:Str}{d:AV}(h:gQ K cx x=some d):∃v,cx.kind x=some .globalImplicit/\sk K x=some v/\yx v=some d/\(x==("__debug__":Str))=false:=by
 unfold gQ at h;split at h
 ·rename_i hk;split at h
  ·injection h
  ·rename_i hn;refine e12 (tm.mp h) λv h1 h2=>?_;exact B8 v hk h1 h2 (by simpa using hn)
 ·injection h
def qw(Γ:Gam)(k:Nat)(S:Sys):Prop:=∀a args H P,S.Φ a args H P->∃d H',(FnSpec Γ k a args H d H'/\Callee Γ (.ref a))/\P d H'
section
variable{Γ:Gam}{k:Nat}[NeZero k]{S:Sys}{cx:Cx}{σ:St}{vs:Vs}{H:List AO}
theorem Jh(jK:qw Γ k S){f:AV}{args:List AV}{H:List AO}{P:AV->List AO->Prop}(h:vy S f args H P):∃d H',((∀ρ h v,VRep ρ h f v->v=yn f)/\Callee Γ (yn f)/\CallP Γ k (yn f) args H d H')/\P d H':=by
 induction f using AV.casesOn
 case bi=>
  refine e22 (Iu (Γ:=Γ) (k:=k) (f:=.builtin) Vu h) λd H' h1 h2=>?_;exact bZ d H' ⟨λzz zz zz e=>e,Callee.builtin,h1⟩ h2
 case typ=>
  refine e22 (Iu (Γ:=Γ) (k:=k) (f:=.type) Vv h) λd H' h1 h2=>?_;exact bZ d H' ⟨λzz zz zz e=>e,Callee.type,h1⟩ h2
 case fn=>
  refine e22 (jK _ _ _ _ h) λd H' aC h2=>?_;refine e02 aC λh1 h3=>?_;exact bZ d H' ⟨λzz zz zz e=>e,h3,h1.call⟩ h2
 all_goals exact h.elim
theorem qx{e:aY}(h:sH e=false):∀env x,rI e env x=pure x:=by
 intro env x;induction e using fL<;>first|rfl|injection h
def EvA(Γ:Gam)(k:Nat)(cx:Cx)(x:aY)(σ:St)(d:AV)(bE:St):Prop:=Ev Γ k cx σ x d bE/\(qi x=false->∀t aw pos,As Γ k cx bE t d aw->dA t=false->Ex1 Γ k cx σ (.Assign [t] x pos) .next aw)
theorem EvA.of{x:aY}{d:AV}{bE:St}(hc:m7 x=false)(h:Ev Γ k cx σ x d bE):EvA Γ k cx x σ d bE:=⟨h,λhn t aw pos ht hs=>Ex1.assign h ht hc hn hs⟩
structure Snd(Γ:Gam)(k:Nat)(S:Sys)(n:Nat):Prop where
 e:∀{x:aY} {cx:Cx} {nx:Nat} {vs:Vs} {H:List AO} {P:AV->PrS},WE S (trE Γ.K n cx nx x) vs H P->∃d v' H',EvA Γ k cx x ⟨vs,H⟩ d ⟨v',H'⟩/\P d v' H'
 c:∀{x:aY} {cx:Cx} {nx:Nat} {vs:Vs} {H:List AO} {P:Bool->PrS},WT S (trC Γ.K n cx nx x) vs H P->∃b v' H',Ts Γ k cx ⟨vs,H⟩ x b ⟨v',H'⟩/\P b v' H'
theorem Snd.v{n:Nat}(I:Snd Γ k S n){x:aY}{nx:Nat}{P:AV->PrS}(h:WE S (trE Γ.K n cx nx x) vs H P):∃d v' H',Ev Γ k cx ⟨vs,H⟩ x d ⟨v',H'⟩/\P d v' H' :=
 let ⟨d,v',H',h1,h2⟩:=I.e h;⟨d,v',H',h1.1,h2⟩
theorem Snd.o{n:Nat}(I:Snd Γ k S n){x:Option aY}{nx:Nat}{P:AV->PrS}(h:WO S (yC (trE Γ.K n cx nx) x) vs H P):∃d v' H',EvO Γ k cx ⟨vs,H⟩ x d ⟨v',H'⟩/\P d v' H':=by
 induction x using dF with
 |none=>exact bc _ _ _ ⟨rfl,rfl⟩ h
 |some x=>exact I.v h
theorem VU{x:aY}{r:List aY}(h:gt (x::r)=true):dA x=false/\gt r=true:=by
 refine e02 (i3.mp (show (!dA x&&gt r)=true from h)) λh1 h2=>?_;exact ⟨(mP _).mp h1,h2⟩
theorem Snd.es{n:Nat}(I:Snd Γ k S n){nx:Nat}:∀{es:List aY} {vs:Vs} {H:List AO} {P:List AV->PrS},gt es=true->WL S (sI (es.map (trE Γ.K n cx nx))) vs H P->∃ds v' H',Es Γ k cx ⟨vs,H⟩ es ds ⟨v',H'⟩/\P ds v' H':=λ{es}=>by
 induction es with
 |nil=>
  intro vs H P _ h;exact bc _ _ _ Es.nil h
 |cons x r ih=>
  intro vs H P hs h;refine e02 (VU hs) λhx BV=>?_;refine e32 (I.v (x:=x) h) ?_;clear h;intro d bT bO h1 h;refine e32 (ih BV h) ?_;clear h;intro ds cw bY h2 h;exact bc _ _ _ (Es.cons h1 h2 hx) h
theorem Snd.al{n:Nat}(I:Snd Γ k S n){nx:Nat}{op:BoolOp}:∀{es:List aY} {vs:Vs} {H:List AO} {P:Bool->PrS},WAl S op (yy (es.map (trC Γ.K n cx nx))) vs H P->∃b v' H',Al Γ k cx op ⟨vs,H⟩ es b ⟨v',H'⟩/\P b v' H':=λ{es}=>by
 induction es with
 |nil=>
  intro vs H P h;exact bc _ _ _ Al.nil h
 |cons x r ih=>
  intro vs H P h;refine e32 (I.c (x:=x) h) ?_;clear h;intro t bT bO h1 h;have next:(∀b aw,Al Γ k cx op ⟨bT,bO⟩ r b aw->Al Γ k cx op ⟨vs,H⟩ (x::r) b aw)->WAl S op (yy (r.map (trC Γ.K n cx nx))) bT bO P->∃b v' H',Al Γ k cx op ⟨vs,H⟩ (x::r) b ⟨v',H'⟩/\P b v' H':=λf h=>
   let ⟨b,cw,bY,h2,h⟩:=ih h;⟨b,cw,bY,f b _ h2,h⟩
  induction op using M4<;>induction t using dN
  ·exact bc _ _ _ (Al.andF h1) h
  ·exact next (λzz zz=>Al.andT h1) h
  ·exact next (λzz zz=>Al.orF h1) h
  ·exact bc _ _ _ (Al.orT h1) h
theorem VV{l:List Nat}(h:bound vs l=false){i:Nat}(hi:i∈l):∀d:AV,vs[i]?≠some (some d):=λd e=>by
 unfold bound at h;rw[Ma] at h;have:=h i hi;rw[e] at this;exact this rfl
theorem vG{scope:dg}{nx:Nat}(h:bound vs (qt nx scope)=false)(hc:qp cx scope (fo cx scope nx)=true) :
  ∀y i,(y,i)∈(fo cx scope nx).vis->((y,NameKind.local)∈scope.names\/(y,eF)∈scope.names)->∀d:AV,vs[i]?≠some (some d):=λy i hy hk=>by
 rcases cU.mp hy with q|q
 ·exact VV h (bo.mpr ⟨_,q,rfl⟩)
 ·refine e02 (Jd q) λf1 _=>?_;have nd:=(sM hc).nd;rcases hk with e|e<;>exact nomatch Ja nd f1 e
theorem Ji{t:aY}{T:St->List AV->St->List AV->Prop}{i:Nat}{src:Src}{iJ:TrB}{el:TrV}(ht:∀σ d,As Γ k cx σ t d ⟨dB σ.vars i d,σ.heap⟩)
  (hs:∀{aa:List AV} {vs:Vs} {H:List AO} {Q:Option AV->PrS},aa.length<=1000000->(iJ vs H λb vs H=>if b=true then el vs H λy=>Q (some y) else Q none vs H)->∃o v' H',T ⟨vs,H⟩ aa ⟨v',H'⟩ (aa++o.toList)/\Q o v' H') :
  ∀(ds aa:List AV) {vs:Vs} {H:List AO} {Q:List AV->PrS},aa.length+ds.length<=1000000->lcW iJ el i src ds Q vs H->∃out v' H',Tn Γ k cx t (λH=>src.ok H) T ds aa ⟨vs,H⟩ (aa++out) ⟨v',H'⟩/\Q out v' H':=λds=>by
 induction ds with
 |nil=>
  intro aa vs H Q _ h;exact bc ([]) _ _ ((c9 aa).symm▸Tn.nil h.1) h.2
 |cons d ds ih=>
  intro aa vs H Q hz h;refine e32 (hs (Q:=λo=>lcW iJ el i src ds λr=>Q (o.toList++r)) (ah (bK _ _) hz) h.2) λo cw bY h2 q=>?_;have ho:o.toList.length<=1:=by
   induction o using dF
   ·exact bW _
   ·exact aq _
  refine e32 (ih (aa++o.toList) (by erw[bx];rw[bC] at hz;exact lF hz (fH ho _)) q) ?_;clear q;intro r jN jH h3 q;exact bc (o.toList++r) jN jH (bD ..▸.cons h.1 (ht _ d) h2 h3) q
theorem VW{t elt:aY}{ifs:List aY}{i:Nat}{src:Src}{iJ:TrB}{el:TrV}(ht:∀σ d,As Γ k cx σ t d ⟨dB σ.vars i d,σ.heap⟩)
  (hc:∀{vs H P},iJ vs H P->∃b v' H',Cnd Γ k cx ifs ⟨vs,H⟩ b ⟨v',H'⟩/\P b v' H') (he:∀{vs H P},el vs H P->∃d v' H',Ev Γ k cx ⟨vs,H⟩ elt d ⟨v',H'⟩/\P d v' H')
  {ds:List AV} {vs:Vs} {H:List AO} {Q:List AV->PrS} (hz:ds.length<=1000000) (h:lcW iJ el i src ds Q vs H):∃out v' H',Tn Γ k cx t (λH=>src.ok H) (kG Γ k cx vh (xZ Γ elt ifs)) ds [] ⟨vs,H⟩ out ⟨v',H'⟩/\Q out v' H':=by
 refine Ji ht (λ{aa vs H Q} hz h=>?_) ds [] (by erw[fu,i0];exact hz) h;refine e32 (hc h) ?_;clear h;intro b bT bO h1 h;induction b using dN with
 |true=>
  refine e32 (he h) ?_;clear h;intro y cw bY h2 h;exact bc (some y) cw bY (Ss hz h1 h2) h
 |false=>exact bc none bT bO (by erw[show aa++(none:Option AV).toList=aa from c9 aa];exact Sr h1) h
theorem VX{t kx vx:aY}{i:Nat}{src:Src}{ek ev:TrV}(ht:∀σ d,As Γ k cx σ t d ⟨dB σ.vars i d,σ.heap⟩)
  (hk:∀{vs H P},ek vs H P->∃d v' H',Ev Γ k cx ⟨vs,H⟩ kx d ⟨v',H'⟩/\P d v' H') (hv:∀{vs H P},ev vs H P->∃d v' H',Ev Γ k cx ⟨vs,H⟩ vx d ⟨v',H'⟩/\P d v' H') :
  ∀{ds:List AV} {aa:List (Cps × AV)} {vs:Vs} {H:List AO} {Q:List (Cps × AV)->PrS},dcW ek ev i src Q ds aa vs H->∃out v' H',Tn Γ k cx t (λH=>src.ok H) (kG Γ k cx (yr Γ) (CV Γ kx vx)) ds aa ⟨vs,H⟩ out ⟨v',H'⟩/\Q out v' H':=λ{ds}=>by
 induction ds with
 |nil=>
  intro aa vs H Q h;exact bc _ _ _ (.nil h.1) h.2
 |cons d ds ih=>
  intro aa vs H Q h;refine e32 (hk h.2) λx bT bO h1 q=>?_;refine e12 (jW q) ?_;clear q;intro c aI q;subst aI;refine e33 (hv q) ?_;clear q;intro y cw bY h2 hz q;refine e32 (ih q) ?_;clear q;intro r jN jH h3 q;exact bc _ _ _ (.cons h.1 (ht _ d) (Vz hz h1 h2) h3) q
theorem VY{t:aY}{body:List Stmt}{src:Src}{as:AV->Vs->List AO->PrS->Prop}{bd:TrF}(ha:∀{d vs H P},as d vs H P->∃v' H',As Γ k cx ⟨vs,H⟩ t d ⟨v',H'⟩/\P v' H')(hb:∀{vs H P},bd vs H P->∃f v' H',Ex Γ k cx ⟨vs,H⟩ body f ⟨v',H'⟩/\P f v' H') :
  ∀{ds:List AV} {vs:Vs} {H:List AO} {Q:Option Fl->PrS},foW as bd src Q ds vs H->∃r v' H',Lp Γ k cx t body (λH=>src.ok H) ds ⟨vs,H⟩ r ⟨v',H'⟩/\Q r v' H':=λ{ds}=>by
 induction ds with
 |nil=>
  intro vs H Q h;exact bc _ _ _ (.nil h.1) h.2
 |cons d ds ih=>
  intro vs H Q g8;refine e02 g8 ?_;clear g8;intro hs h;refine e22 (ha h) ?_;clear h;intro bT bO h1 h;refine e32 (hb h) ?_;clear h;intro f cw bY h2 h;induction f using Fl.casesOn with
  |next=>refine e32 (ih h) ?_;clear h;intro r jN jH h3 h;exact bc _ _ _ (.next hs h1 h2 (.inl rfl) h3) h
  |cont=>refine e32 (ih h) ?_;clear h;intro r jN jH h3 h;exact bc _ _ _ (.next hs h1 h2 (.inr rfl) h3) h
  |brk=>exact bc _ _ _ (.stop hs h1 h2 nofun nofun) h
  |ret=>exact bc _ _ _ (.stop hs h1 h2 nofun nofun) h
theorem VZ{fz:aY}{body:List Stmt}{iJ:TrB}{bd:TrF}(ht:∀{vs H P},iJ vs H P->∃b v' H',Ts Γ k cx ⟨vs,H⟩ fz b ⟨v',H'⟩/\P b v' H')(hb:∀{vs H P},bd vs H P->∃f v' H',Ex Γ k cx ⟨vs,H⟩ body f ⟨v',H'⟩/\P f v' H') :
  ∀{n:Nat} {vs:Vs} {H:List AO} {Q:Option Fl->PrS},whW iJ bd Q n vs H->∃r v' H',Wl Γ k cx fz body ⟨vs,H⟩ r ⟨v',H'⟩/\Q r v' H':=λ{n}=>by
 induction n with
 |zero=>
  intro vs H Q h;exact h.elim
 |succ n ih=>
  intro vs H Q h;refine e32 (ht h) ?_;clear h;intro b bT bO h1 h;induction b using dN with
  |false=>exact bc _ _ _ (.done h1) h
  |true=>
   refine e32 (hb h) ?_;clear h;intro f cw bY h2 h;induction f using Fl.casesOn with
   |next=>refine e32 (ih h) ?_;clear h;intro r jN jH h3 h;exact bc _ _ _ (.next h1 h2 (.inl rfl) h3) h
   |cont=>refine e32 (ih h) ?_;clear h;intro r jN jH h3 h;exact bc _ _ _ (.next h1 h2 (.inr rfl) h3) h
   |brk=>exact bc _ _ _ (.stop h1 h2 nofun nofun) h
   |ret=>exact bc _ _ _ (.stop h1 h2 nofun nofun) h
theorem qy{x:Str}{i:Nat}{p:Pos}{d:AV}{σ:St}(h:dK cx x=some i):As Γ k cx σ (.Name x p) d ⟨dB σ.vars i d,σ.heap⟩:=let ⟨a1,a2⟩:=vF h;sA ..▸As.name a1 a2
theorem V0{x y:Str}{xp yp tp:Pos}{tn i j:Nat}{body:List Stmt}{n:Nat}{l:List AV}{bd:TrF}(hx:dK cx x=some i)(hy:dK cx y=some j)(hb:∀{vs H P},bd vs H P->∃f v' H',Ex Γ k cx ⟨vs,H⟩ body f ⟨v',H'⟩/\P f v' H') :
  ∀{ds:List AV} {m:Nat} {vs:Vs} {H:List AO} {Q:Option Fl->PrS},feW i j bd n l Q m ds vs H->∃r v' H',Lp Γ k cx (.Tuple [.Name x xp,.Name y yp] tn tp) body (λH=>H[n]?=some (.list l)) (sF m ds) ⟨vs,H⟩ r ⟨v',H'⟩/\Q r v' H':=λ{ds}=>by
 induction ds with
 |nil=>
  intro m vs H Q h;exact bc _ _ _ (.nil h.1) h.2
 |cons d ds ih=>
  intro m vs H Q GY;refine e02 GY ?_;clear GY;intro hs h;have h1:As Γ k cx ⟨vs,H⟩ (.Tuple [.Name x xp,.Name y yp] tn tp) (.tup [.int m,d]) ⟨dB (dB vs i (.int m)) j d,H⟩:=As.tup (.cons (qy hx) rfl (.cons (qy hy) rfl .nil));refine e32 (hb h) ?_;clear h;intro f cw bY h2 h;induction f using Fl.casesOn with
  |next=>refine e32 (ih h) ?_;clear h;intro r jN jH h3 h;exact bc _ _ _ (.next hs h1 h2 (.inl rfl) h3) h
  |cont=>refine e32 (ih h) ?_;clear h;intro r jN jH h3 h;exact bc _ _ _ (.next hs h1 h2 (.inr rfl) h3) h
  |brk=>exact bc _ _ _ (.stop hs h1 h2 nofun nofun) h
  |ret=>exact bc _ _ _ (.stop hs h1 h2 nofun nofun) h
end
section
variable{Γ:Gam}{k:Nat}[NeZero k]{S:Sys}{cx:Cx}{σ:St}{vs:Vs}{H:List AO}{n nx:Nat}
theorem qz{x:Str}{np:Pos}{d:AV}(h:gQ Γ.K cx x=some d):Ev Γ k cx σ (.Name x np) d σ:=by
 refine e14 (Jg h) λv h1 h2 h3 h4=>?_;exact Ev.glob h1 h2 (Jf h3) h4
theorem yG{i:Nat}{P:AV->Prop}(h:vrW vs i P):∃d,vs[i]?=some (some d)/\P d:=by
 unfold vrW at h;cases hv:hY vs i with
 |none=>rw[hv] at h;exact h.elim
 |some d=>rw[hv] at h;exact aB d (HH hv) h
structure Apart(Γ:Gam)(k:Nat)(S:Sys):Prop where
 nxt:∀n l i H,H[n]?=some (.iter l i)->AttrP Γ "__next__" (.loc n) H (.nxt n) H
 tmap:∀(cx:Cx) (σ σ₁:St) (y m z:Str) (p1 p2 p3 p4 p5:Pos) (v:aY) (f n:Nat) (l:List AV) (xs:List Cps),S.T.idf=some f->gQ Γ.K cx y=some (.typ "tuple")->gQ Γ.K cx m=some (.typ "map")->gQ Γ.K cx z=some (.fn f)->dA v=false ->
  Ev Γ k cx σ v (.loc n) σ₁->σ₁.heap[n]?=some (.list l)->gM l=some xs->okL l.length=true->Ev Γ k cx σ (.Call (.Name y p1) [.Call (.Name m p2) [.Name z p3,v] [] p4] [] p5) (.tup l) σ₁
theorem Apart.att(AP:Apart Γ k S)(TO:eX Γ.K S.T){d:AV}{x:Str}{H:List AO}{P:AV->Prop}(h:ji S.T d x H P):∃r,AttrP Γ x d H r H/\P r:=by
 obtain ⟨r,h1|⟨n,l,i,rfl,hn,rfl,rfl⟩,h⟩:=AttrP.of TO h
 ·exact aB r h1 h
 ·exact aB _ (AP.nxt _ _ _ _ hn) h
theorem Jj{gm:List CmpOp}{rs:List aY}{q:CmpOp × aY}(h:cm1 gm rs=some q):gm=[q.1]/\rs=[q.2]/\ph q.1 q.2=false:=by
 refine e12 (bg h) ?_;clear h;intro op h1 h;refine e12 (bg h) ?_;clear h;intro r h2 h;refine e02 (gu h) λh3 aC=>?_;subst aC;exact ⟨jo h1,jo h2,(mP _).mp h3⟩
theorem V1{gm:List CmpOp}{rs:List aY}{q:(CmpOp × CmpOp) × (aY × aY)}(h:cm2 gm rs=some q):gm=[q.1.1,q.1.2]/\rs=[q.2.1,q.2.2]/\ph q.1.2 q.2.2=false:=by
 refine e12 (bg h) ?_;clear h;intro op h1 h;refine e12 (bg h) ?_;clear h;intro r h2 h;refine e02 (gu h) λh3 aI=>?_;subst aI;exact ⟨nh h1,nh h2,(mP _).mp h3⟩
theorem C8{K:Frag}{e:aY}{t:String}(h:yA K cx e=some t):∃y p,e=.Name y p/\gQ K cx y=some (.typ t):=by
 refine e12 (bg h) ?_;clear h;intro y h1 h;refine e12 (bg h) ?_;clear h;intro d h2 h;refine e11 (oG h1) λp e=>?_;exact bZ y p e (II h▸h2)
theorem V2{K:Frag}{e:aY}{t:Nat}(h:IK K cx e=some t):∃y p,e=.Name y p/\gQ K cx y=some (.fn t):=by
 refine e12 (bg h) ?_;clear h;intro y h1 h;refine e12 (bg h) ?_;clear h;intro d h2 h;refine e11 (oG h1) λp e=>?_;exact bZ y p e (VG h▸h2)
theorem kM{b:Bool}(h:(!b)=true):b=false:=(mP _).mp h
theorem gR{a b:Bool}(h:(a&&b)=true):a=true/\b=true:=i3.mp h
theorem V3{K:Frag}{f:AV}{args:List aY}{q:Nat × aY}(h:mapOf K cx f args=some q):∃m z p2 p3 p4,f=.typ "tuple"/\args=[.Call (.Name m p2) [.Name z p3,q.2] [] p4]/\gQ K cx m=some (.typ "map")/\gQ K cx z=some (.fn q.1)/\dA q.2=false:=by
 refine e12 (bg h) ?_;clear h;intro t h0 h;refine e12 (bg h) ?_;clear h;intro a h1 h;refine e12 (bg h) ?_;clear h;intro r h2 h;refine e02 (gu h) λh3 aS=>?_;subst aS;refine e12 (bg h2) ?_;clear h2;intro c m0 h2;refine e12 (bg h2) ?_;clear h2;intro zv h4 h2;refine e12 (bg h2) ?_;clear h2;intro g h5 h2;clear h;refine e02 (gu h2) λh6 be=>?_;subst be;refine e02 (gR h6) λh7 h8=>?_;refine e02 (gR h7) ?_;clear h7;intro h9 h7;refine e22 (C8 (eq_of_beq h7)) λm p2 e1 e2=>?_;refine e22 (V2 h5) λz p3 e3 e4=>?_;exact ⟨m,z,p2,p3,_,by erw[II h0,eq_of_beq h3],by erw[jo h1,CZ m0,nh h4,e3,e1,i6.mp h9],e2,e4,kM h8⟩
theorem C9{scope:dg}{gens:List ik}{q:Nat × ik}(h:sK cx scope nx gens=some q):∃t p,gens=[⟨.Name t p,q.2.iter,q.2.ifs,0⟩]/\dK (fo cx scope nx) t=some q.1/\qp cx scope (fo cx scope nx)=true/\sH q.2.iter=false:=by
 refine e12 (bg h) ?_;clear h;intro tg h1 h;refine e12 (bg h) ?_;clear h;intro i h2 h;refine e02 (gu h) λh3 bw=>?_;subst bw;refine e12 (bg h1) ?_;clear h1;intro g h4 h1;refine e12 (bg h1) ?_;clear h1;intro t h5 h1;refine e02 (gu h1) λh6 bA=>?_;subst bA;refine e11 (oG h5) λp h7=>?_;refine e02 (i3.mp h3) ?_;clear h3;intro h3 h8;refine hM t p ?_ h2 h3 ((mP _).mp h8);obtain ⟨a,b,c,d⟩:=g;cases (h7);cases (show d=0 from eq_of_beq h6);exact jo h4
theorem nj{b:Bool}{m:ME}{P:AV->PrS}(h:WE S (okE b m) vs H P):b=true/\WE S m vs H P:=by
 induction b using dN
 ·exact h.elim
 ·exact ⟨rfl,h⟩
theorem oH{α:Type}{o:Option α}{f:α->ME}{P:AV->PrS}(h:WE S (opE o f) vs H P):∃a,o=some a/\WE S (f a) vs H P:=by
 induction o using dF
 ·exact h.elim
 ·exact aB _ rfl h
theorem yH{α:Type}{o:Option α}{f:α->ME}{m:ME}{P:AV->PrS}(h:WE S (orE o f m) vs H P):(∃a,o=some a/\WE S (f a) vs H P)\/(o=none/\WE S m vs H P):=by
 induction o using dF
 ·exact .inr ⟨rfl,h⟩
 ·exact .inl ⟨_,rfl,h⟩
theorem Jk{b:Bool}{m:MC}{P:Bool->PrS}(h:WT S (okC b m) vs H P):b=true/\WT S m vs H P:=by
 induction b using dN
 ·exact h.elim
 ·exact ⟨rfl,h⟩
theorem Jl{α:Type}{o:Option α}{f:α->MC}{m:MC}{P:Bool->PrS}(h:WT S (orC o f m) vs H P):(∃a,o=some a/\WT S (f a) vs H P)\/WT S m vs H P:=by
 induction o using dF
 ·exact .inr h
 ·exact .inl ⟨_,rfl,h⟩
theorem Snd.val(I:Snd Γ k S n){x:aY}{P:Bool->PrS}(h:WT S (okC (xW x) (.val (trE Γ.K n cx nx x))) vs H P):∃b v' H',Ts Γ k cx ⟨vs,H⟩ x b ⟨v',H'⟩/\P b v' H':=by
 refine e02 (Jk h) ?_;clear h;intro hv h;refine e32 (I.v (x:=x) h) ?_;clear h;intro d bT bO h1 h;refine e12 (TruP.of (Γ:=Γ) h) ?_;clear h;intro b h2 h;exact bc b bT bO (Ts.val h1 h2 hv) h
theorem Snd.stepC(I:Snd Γ k S n){x:aY}{P:Bool->PrS}(h:WT S (trC Γ.K (n+1) cx nx x) vs H P):∃b v' H',Ts Γ k cx ⟨vs,H⟩ x b ⟨v',H'⟩/\P b v' H':=by
 induction x using fL
 case UnaryOp op v p=>
  refine e02 (Jk h) ?_;clear h;intro ho h;cases of_decide_eq_true ho;refine e32 (I.c (x:=v) h) ?_;clear h;intro b bT bO h1 h;exact bc _ _ _ (Ts.not h1) h
 case BoolOp op es p=>
  refine e32 (Snd.al I (es:=es) h) ?_;clear h;intro b bT bO h1 h;exact bc _ _ _ (Ts.bool h1) h
 case Compare l gm rs p=>
  rcases Jl h with ⟨q,h1,w⟩|w<;>clear h
  ·refine e03 (Jj h1) λbN ch hm=>?_;subst bN;subst ch;refine e32 (I.v (x:=l) w) λd1 bT bO e1 h=>?_;refine e32 (I.v (x:=q.2) h) ?_;clear h;intro d2 cw bY e2 h;refine e12 (CmpP.of (Γ:=Γ) h) ?_;clear h;intro b e3 h;exact bc _ _ _ (Ts.cmp e1 e2 e3 hm) h
  rcases Jl w with ⟨q,h2,g⟩|h<;>clear w
  ·refine e03 (V1 h2) λcg cm hm=>?_;subst cg;subst cm;refine e32 (I.v (x:=l) g) λd1 bT bO e1 h=>?_;refine e32 (I.v (x:=q.2.1) h) ?_;clear h;intro d2 cw bY e2 h;refine e12 (CmpP.of (Γ:=Γ) h) ?_;clear h;intro b e3 h;induction b using dN with
   |false=>exact bc _ _ _ (Ts.cmp2 (d₃:=.none) e1 e2 e3 (λzz=>⟨rfl,rfl⟩) nofun hm) h
   |true=>
    refine e32 (I.v (x:=q.2.2) h) ?_;clear h;intro d3 jN jH e4 h;refine e12 (CmpP.of (Γ:=Γ) h) ?_;clear h;intro b e5 h;exact bc _ _ _ (Ts.cmp2 e1 e2 e3 nofun (λzz=>⟨e4,e5⟩) hm) h
  ·exact h.elim
 all_goals exact I.val h
theorem V4(jK:qw Γ k S)(TO:eX Γ.K S.T)(TF:nb Γ.K S.T)(AP:Apart Γ k S)(I:Snd Γ k S n){f:aY}{args:List aY}{pos:Pos}{P:AV->PrS}(h:WE S (IP Γ.K (trE Γ.K n cx nx) cx args pos f) vs H P):∃d v' H',Ev Γ k cx ⟨vs,H⟩ (.Call f args [] pos) d ⟨v',H'⟩/\P d v' H':=by
 induction f using fL
 case Attribute o x jc=>
  refine e02 (nj h) ?_;clear h;intro hb h;refine e02 (i3.mp hb) ?_;clear hb;intro hb QZ;refine e02 (i3.mp hb) λpY OQ=>?_;rcases yH h with ⟨v,hs,w⟩|⟨_,w⟩<;>(clear h;revert w;intro h)
  ·refine e12 (bg hs) λa q1 q2=>?_;refine e11 (VE q2) λsp cW=>?_;subst cW;refine e32 (I.v (x:=o) h) ?_;clear h;intro d1 bT bO h1 h;obtain ⟨fv,⟨h2,⟨id,e⟩|⟨n,c,m,fs,a,e0,e1,rfl,e2,e3,e4,e5⟩⟩,⟨f,rfl,h⟩⟩:=MethP.of TO h
   ·injection e
   ·(injection e0 with dJ;subst dJ)
    refine e32 (I.v (x:=v) h) ?_;clear h;intro w cw bY h4 h;refine e13 (Cy h) ?_;clear h;intro ds dY hz h;subst dY;refine e22 (jK _ _ _ _ h) ?_;clear h;intro z H' eT h;refine e02 eT λh5 _=>?_;erw[jo q1];exact bc _ _ _ (Vy TO TF h1 pY e2 e3 e4 e5 h4 (ah (dm hz) (by decide)) h5) h
  ·refine e02 (nj h) ?_;clear h;intro hs h;refine e32 (I.v (x:=o) h) ?_;clear h;intro d1 bT bO h1 h;refine e12 (MethP.of TO h) ?_;clear h;intro fv eS h;refine e02 eS λh2 _=>?_;refine e32 (Snd.es I hs h) ?_;clear h;intro ds cw bY h3 h;refine e22 (Jh jK h) ?_;clear h;intro z H' hG h;refine e03 hG λ_ h4 h5=>?_;exact bc _ _ _ (Ev.meth h1 pY h2 h4 hs OQ (of_decide_eq_true QZ) h3 h5) h
 case Name y p=>
  refine e12 (oH h) λf hf g=>?_;clear h;rcases yH g with ⟨gv,hm,w⟩|⟨_,h⟩<;>clear g
  ·refine e41 (V3 hm) λm z p2 p3 fw=>?_;refine e15 fw λp4 fA iH e1 e2 e3=>?_;subst fA;subst iH;refine e32 (I.v (x:=gv.2) w) λd bT bO h1 h=>?_;refine e12 (jX h) ?_;clear h;intro n' jR h;subst jR;refine e14 (iS h) ?_;clear h;intro l hn hi hz h;refine e12 (c7 h) ?_;clear h;intro xs hx h;exact bc _ _ _ (AP.tmap _ _ _ _ _ _ _ _ _ _ _ _ _ _ _ _ hi hf e1 e2 e3 h1 hn hx hz) h
  ·refine e02 (nj h) ?_;clear h;intro hs h;refine e32 (Snd.es I hs h) ?_;clear h;intro ds cw bY h3 h;refine e22 (Jh jK h) ?_;clear h;intro z H' jJ h;refine e03 jJ λh0 h4 h5=>?_;exact bc _ _ _ (Ev.call (qz hf) h0 h4 hs h3 h5) h
 all_goals exact h.elim
theorem EvA.ex{x:aY}{P:AV->PrS}(hc:m7 x=false)(h:∃d v' H',Ev Γ k cx ⟨vs,H⟩ x d ⟨v',H'⟩/\P d v' H'):∃d v' H',EvA Γ k cx x ⟨vs,H⟩ d ⟨v',H'⟩/\P d v' H':=let ⟨d,v',H',h1,h2⟩:=h;⟨d,v',H',.of hc h1,h2⟩
theorem V5(I:Snd Γ k S n){l:List aY}{c:MCO}(h:IQ (trC Γ.K n cx nx) l=some c){vs:Vs}{H:List AO}{P:Bool->PrS}(hc:WCO S c vs H P):∃b v' H',Cnd Γ k cx l ⟨vs,H⟩ b ⟨v',H'⟩/\P b v' H':=by
 rcases l with _|⟨x,_|⟨y,r⟩⟩
 ·(injection h with jP;subst jP);exact bc _ _ _ .nil hc
 ·(injection h with jI;subst jI);exact let ⟨b,v',H',h1,h⟩:=I.c (x:=x) hc;⟨_,_,_,.one h1,h⟩
 ·injection h
theorem V6(I:Snd Γ k S n){elt:aY}{scope:dg}{q:Nat × ik}{gens:List ik}{pos:Pos}{c:MCO}{P:AV->PrS}(hq:sK cx scope nx gens=some q)
  (hc:∀{vs H P},WCO S c vs H P->∃b v' H',Cnd Γ k (fo cx scope nx) q.2.ifs ⟨vs,H⟩ b ⟨v',H'⟩/\P b v' H')
  (h:WE S (.lcp (trE Γ.K n (fo cx scope nx) (nx+(fX scope.names).length) elt) q.1 (trE Γ.K n cx nx q.2.iter) c (qt nx scope)) vs H P):∃d v' H',EvA Γ k cx (.ListComp elt gens scope pos) ⟨vs,H⟩ d ⟨v',H'⟩/\P d v' H':=by
 refine e24 (C9 hq) λt p lJ s1 iF lz=>?_;subst lJ;refine e32 (I.v (x:=q.2.iter) h) ?_;clear h;intro d1 bT bO h1 h;refine e13 (IterP.of (Γ:=Γ) h) ?_;clear h;intro src mV hb h;refine e02 mV λi1 i2=>?_;refine e32 (VW (λσ d=>qy (p:=p) s1) hc I.v (ah i2 (by decide)) h) ?_;clear h;intro out cw bY h2 h;exact bc _ _ _ ⟨Cs (HA rfl) HB (sM iF) h1 i1 (vG hb iF) h2 (qx lz) HC,λzz t aw pos ht hs=>
  Hz (HA rfl) HB (sM iF) h1 i1 (vG hb iF) h2 (qx lz) HC ht hs⟩ h
theorem V7(I:Snd Γ k S n){kx vx:aY}{scope:dg}{q:Nat × ik}{gens:List ik}{pos:Pos}{P:AV->PrS}(hq:sK cx scope nx gens=some q)(hf:q.2.ifs=[])
  (h:WE S (.dcp (trE Γ.K n (fo cx scope nx) (nx+(fX scope.names).length) kx) (trE Γ.K n (fo cx scope nx) (nx+(fX scope.names).length) vx) q.1 (trE Γ.K n cx nx q.2.iter) (qt nx scope)) vs H P):∃d v' H',EvA Γ k cx (.DictComp kx vx gens scope pos) ⟨vs,H⟩ d ⟨v',H'⟩/\P d v' H':=by
 refine e24 (C9 hq) λt p u8 s1 iF lz=>?_;subst u8;erw[hf];refine e32 (I.v (x:=q.2.iter) h) ?_;clear h;intro d1 bT bO h1 h;refine e13 (IterP.of (Γ:=Γ) h) ?_;clear h;intro src Bg hb h;refine e02 Bg λi1 i2=>?_;refine e32 (VX (λσ d=>qy (p:=p) s1) I.v I.v h) ?_;clear h;intro out cw bY h2 h;exact bc _ _ _ ⟨Cs (Iw rfl) Ix (sM iF) h1 i1 (vG hb iF) h2 (qx lz) Iy,λzz t aw pos ht hs=>
  Hz (Iw rfl) Ix (sM iF) h1 i1 (vG hb iF) h2 (qx lz) Iy ht hs⟩ h
theorem Snd.stepE(jK:qw Γ k S)(TO:eX Γ.K S.T)(TF:nb Γ.K S.T)(AP:Apart Γ k S)(I:Snd Γ k S n){x:aY}{P:AV->PrS}(h:WE S (trE Γ.K (n+1) cx nx x) vs H P):∃d v' H',EvA Γ k cx x ⟨vs,H⟩ d ⟨v',H'⟩/\P d v' H':=by
 induction x using fL
 case Constant c _ _=>
  induction c using Aew
  case none=>exact bc _ _ _ (.of rfl Ev.none) h
  case bool=>exact bc _ _ _ (.of rfl Ev.bool) h
  case int=>exact bc _ _ _ (.of rfl Ev.int) h
  case str=>exact bc _ _ _ (.of rfl Ev.str) h
  all_goals exact h.elim
 case Name y p=>
  rcases yH h with ⟨i,hi,h⟩|⟨_,h⟩
  ·refine e12 (yG h) ?_;clear h;intro d hd h;refine e04 (Je hi) λh1 h2 h3 h4=>?_;exact bc _ _ _ (.of rfl (Ev.var h1 hd h2 h3 h4)) h
  ·refine e12 (oH h) ?_;clear h;intro d hg h;exact bc _ _ _ (.of rfl (qz hg)) h
 case BoolOp op es p=>
  refine e12 (oH h) ?_;clear h;intro ab hp h;erw[nh hp];refine e32 (I.v (x:=ab.1) h) ?_;clear h;intro d bT bO h1 h;refine e12 (TruP.of (Γ:=Γ) h) ?_;clear h;intro t h2 h;induction op using M4<;>induction t using dN
  ·exact bc _ _ _ (.of rfl (Ev.and2F h1 h2)) h
  ·refine e32 (I.v (x:=ab.2) h) ?_;clear h;intro d' cw bY h3 h;exact bc _ _ _ (.of rfl (Ev.and2T h1 h2 h3)) h
  ·refine e32 (I.v (x:=ab.2) h) ?_;clear h;intro d' cw bY h3 h;exact bc _ _ _ (.of rfl (Ev.or2F h1 h2 h3)) h
  ·exact bc _ _ _ (.of rfl (Ev.or2T h1 h2)) h
 case NamedExpr t v p=>
  refine e12 (oH h) λi hp w=>?_;clear h;revert w;intro h;refine e12 (bg hp) λy q1 q2=>?_;clear hp;refine e11 (oG q1) λtp uO=>?_;subst uO;refine e02 (vF q2) λs1 s2=>?_;refine e32 (I.v (x:=v) h) ?_;clear h;intro d bT bO h1 h;unfold HJ at h;rw[sA] at h;exact bc _ _ _ (.of rfl (Ev.named h1 s1 s2)) h
 case BinOp l op r p=>
  refine e32 (I.v (x:=l) h) ?_;clear h;intro d1 bT bO h1 h;refine e32 (I.v (x:=r) h) ?_;clear h;intro d2 cw bY h2 h;refine e22 (BinP.of (Γ:=Γ) h) ?_;clear h;intro d H h3 h;exact bc _ _ _ (.of rfl (Ev.bin h1 h2 h3)) h
 case UnaryOp op v p=>
  refine e32 (I.v (x:=v) h) ?_;clear h;intro d1 bT bO h1 h;refine e14 (fV h) ?_;clear h;intro i pS pJ _ h;subst pS;subst pJ;exact bc _ _ _ (.of rfl (Ev.un h1 UnP.neg)) h
 case IfExp c a b p=>
  refine e32 (I.c (x:=c) h) ?_;clear h;intro t bT bO h1 h;induction t using dN with
  |true=>
   refine e32 (I.v (x:=a) h) ?_;clear h;intro d cw bY h2 h;exact bc _ _ _ (.of rfl (Ev.ife h1 (λzz=>h2) nofun)) h
  |false=>
   refine e32 (I.v (x:=b) h) ?_;clear h;intro d cw bY h2 h;exact bc _ _ _ (.of rfl (Ev.ife h1 nofun (λzz=>h2))) h
 case Compare l gm rs p=>
  refine e12 (oH h) λq h1 w=>?_;clear h;revert w;intro h;refine e03 (Jj h1) λpX pK hm=>?_;subst pX;subst pK;refine e32 (I.v (x:=l) h) ?_;clear h;intro d1 bT bO e1 h;refine e32 (I.v (x:=q.2) h) ?_;clear h;intro d2 cw bY e2 h;refine e12 (CmpP.of (Γ:=Γ) h) ?_;clear h;intro b e3 h;exact bc _ _ _ (.of rfl (Ev.cmp e1 e2 e3 hm)) h
 case Call f args kws p=>
  refine e02 (nj h) λq w=>?_;clear h;revert w;intro h;cases i6.mp q;exact EvA.ex rfl (V4 jK TO TF AP I h)
 case Attribute o y p=>
  refine e02 (nj h) ?_;clear h;intro hb h;refine e32 (I.v (x:=o) h) ?_;clear h;intro d1 bT bO h1 h;refine e12 (AP.att TO h) ?_;clear h;intro r h2 h;exact bc _ _ _ (.of rfl (Ev.attr h1 hb h2)) h
 case Subscript v s p=>
  rcases yH h with ⟨q,hs,w⟩|⟨hs,w⟩<;>(clear h;revert w;intro h)
  ·refine e11 (VF hs) λsp pE=>?_;subst pE;refine e32 (I.v (x:=v) h) ?_;clear h;intro d1 bT bO h1 h;refine e32 (I.o h) ?_;clear h;intro d2 cw bY h2 h;refine e32 (I.o h) ?_;clear h;intro d3 jN jH h3 h;refine e32 (I.o h) ?_;clear h;intro d4 Afv Afs h4 h;refine e02 (SliP.of (Γ:=Γ) h) λh5 ur=>?_;refine e22 ur ?_;clear h;intro r H' h6 h;exact bc _ _ _ (.of rfl (T9 h1 h2 h3 h4 h5 h6)) h
  ·refine e32 (I.v (x:=v) h) ?_;clear h;intro d1 bT bO h1 h;refine e32 (I.v (x:=s) h) ?_;clear h;intro d2 cw bY h2 h;refine e12 (SubP.of (Γ:=Γ) (value:=v) hs h) ?_;clear h;intro r h3 h;exact bc _ _ _ (.of rfl (Ev.sub h1 h2 h3)) h
 case Tuple es m p=>
  refine e02 (nj h) ?_;clear h;intro hs h;refine e33 (Snd.es I hs h) ?_;clear h;intro ds bT bO h1 hz h;exact bc _ _ _ (.of rfl (Ev.tup h1 (ah (dm hz) (by decide)))) h
 case List es p=>
  refine e02 (nj h) ?_;clear h;intro hs h;refine e33 (Snd.es I hs h) ?_;clear h;intro ds bT bO h1 hz h;exact bc _ _ _ (.of rfl (Ev.lst h1 (ah (dm hz) (by decide)))) h
 case Dict ks vs p=>
  refine e02 (nj h) λq w=>?_;clear h;revert w;intro h;refine e02 (i3.mp q) λq1 q2=>?_;cases i6.mp q1;cases i6.mp q2;exact bc _ _ _ (.of rfl Vw) h
 case ListComp elt gens scope p=>
  refine e12 (oH h) ?_;clear h;intro q hq h;refine e12 (oH h) ?_;clear h;intro c hc h;exact V6 I hq (V5 I hc) h
 case DictComp kx vx gens scope p=>
  refine e12 (oH h) ?_;clear h;intro q hq h;refine e02 (nj h) ?_;clear h;intro hf h;exact V7 I hq (i6.mp hf) h
 all_goals exact h.elim
end
section
variable{Γ:Gam}{k:Nat}[NeZero k]{S:Sys}{cx:Cx}{σ:St}{vs:Vs}{H:List AO}{n nx:Nat}
theorem V8{σ₁:St}{body:List Stmt}{h₀:ExceptHandler}{hs:List ExceptHandler}{pos:Pos}{f:Fl}(h:Ex Γ k cx σ body f σ₁):Ex1 Γ k cx σ (.Try body (h₀::hs) [] [] pos) f σ₁:=λA env s ρ R x=>by
 refine Oj (ba (h A env s ρ R x) (λg ai q7=>e13 q7 λaz st ap aU=>?_) λzz zz q=>q.elim);induction g using zM with
 |next=>exact N6 ⟨az,st,ap,aU⟩
 |brk=>exact cH az st ap aU
 |cont=>exact cH az st ap aU
 |ret v=>exact cH az st ap aU
theorem vH{e:aY}{i:Nat}(h:(jn e).bind (dK cx)=some i):∃x p,e=.Name x p/\dK cx x=some i:=by
 refine e12 (bg h) λx h1 h2=>?_;refine e11 (oG h1) λp e=>?_;exact bZ x p e h2
theorem V9:∀{ts:List aY} {l:List Nat} {ds:List AV} {vs:List (Option AV)} {H:List AO} {P:Vs->Prop},yD cx ts=some l->asN l ds vs P->∃jO,Ass Γ k cx ⟨vs,H⟩ ts ds ⟨jO,H⟩/\P jO:=λ{ts}=>by
 induction ts with
 |nil=>
  intro l ds vs H P h hi
  (injection h with aC;subst aC)
  induction ds using bI with
  |nil=>exact aB _ .nil hi
  |cons d r=>exact hi.elim
 |cons t ts ih=>
  intro l ds vs H P h hi;refine e12 (bg h) ?_;clear h;intro x h1 h;refine e12 (bg h) ?_;clear h;intro i h2 h;refine e12 (fN.mp h) ?_;clear h;intro is h3 h;subst h;refine e11 (oG h1) λp aI=>?_;subst aI;induction ds using bI with
  |nil=>exact hi.elim
  |cons d r=>
   obtain ⟨jO,h4,h⟩:=ih h3 hi;exact aB _ (.cons (qy h2) rfl h4) h
theorem Snd.t(TO:eX Γ.K S.T)(I:Snd Γ k S n){t:aY}{d:AV}{P:PrS}(h:WA S (trT Γ.K n cx nx t) d vs H P):∃v' H',As Γ k cx ⟨vs,H⟩ t d ⟨v',H'⟩/\P v' H':=by
 induction t using fL
 case Name x p=>
  cases hi:dK cx x with
  |none=>unfold trT at h;dsimp only at h;rw[hi] at h;exact h.elim
  |some i=>unfold trT at h;dsimp only at h;rw[hi] at h;exact bZ _ _ (qy hi) h
 case Tuple ts m p=>
  cases hi:yD cx ts with
  |none=>unfold trT at h;dsimp only at h;rw[hi] at h;exact h.elim
  |some l=>
   unfold trT at h;dsimp only at h;rw[hi] at h;refine e12 (Cy h) ?_;clear h;intro ds aS h;subst aS;refine e12 (V9 (Γ:=Γ) (k:=k) (H:=H) hi h) ?_;clear h;intro jO h1 h;exact bZ _ _ (As.tup h1) h
 case Attribute o x p=>
  refine e32 (I.v (x:=o) h) ?_;clear h;intro w bT bO h1 h;refine e12 (SetAP.of TO h) ?_;clear h;intro H' h2 h;exact bZ _ _ (As.attr h1 h2) h
 case Subscript o i p=>
  cases hs:oB i with
  |some q=>unfold trT at h;dsimp only at h;rw[hs] at h;exact h.elim
  |none=>
   unfold trT at h;dsimp only at h;rw[hs] at h;refine e32 (I.v (x:=o) h) ?_;clear h;intro w bT bO h1 h;refine e32 (I.v (x:=i) h) ?_;clear h;intro j cw bY h2 h;refine e12 (SetIP.of (Γ:=Γ) h) ?_;clear h;intro H' h3 h;exact bZ _ _ (As.item h1 h2 h3) h
 all_goals exact h.elim
structure sN(Γ:Gam)(k:Nat)(S:Sys):Prop where
 tryN:∀(n:Nat) (cx:Cx) (nx:Nat) (x y:Str) (p0 p1 p2 p3 p4 p5 p6 p7:Pos) (f1 f2:aY) (hb:List Stmt) (i d s t:Nat) (vs:Vs) (H:List AO) (P:Fl->PrS),Snd Γ k S n->dK cx x=some i->gQ Γ.K cx y=some (.typ "StopIteration")->sL cx hb=some (d,s,t) ->
  WS S (.tryN i (trE Γ.K n cx nx (.Subscript f1 f2 p0)) d s t) vs H P->∃fl v' H',Ex1 Γ k cx ⟨vs,H⟩ (.Try [.Assign [.Name x p1] (.Call (.Subscript f1 f2 p0) [] [] p2) p3,.Break p4] [.ExceptHandler (some (.Name y p5)) none hb p6] [] [] p7) fl ⟨v',H'⟩/\P fl v' H'
 setU:∀(n:Nat) (cx:Cx) (nx:Nat) (x y:Str) (p1 p2 p4 p5 p6:Pos) (tn:Nat) (elt iter:aY) (scope:dg) (i j:Nat) (vs:Vs) (H:List AO) (P:Fl->PrS),Snd Γ k S n->qp cx scope (fo cx scope nx)=true->sH iter=false->dK cx x=some i->dK (fo cx scope nx) y=some j ->
  WS S (.setU i (trE Γ.K n (fo cx scope nx) (nx+(fX scope.names).length) elt) j (trE Γ.K n cx nx iter) (qt nx scope)) vs H P->∃fl v' H',Ex1 Γ k cx ⟨vs,H⟩ (.Assign [.Tuple [.Name x p1] tn p2] (.SetComp elt [⟨.Name y p4,iter,[],0⟩] scope p5) p6) fl ⟨v',H'⟩/\P fl v' H'
structure SndS(Γ:Gam)(k:Nat)(S:Sys)(n:Nat):Prop where
 s:∀{x:Stmt} {cx:Cx} {nx:Nat} {vs:Vs} {H:List AO} {P:Fl->PrS},WS S (trS Γ.K n cx nx x) vs H P->∃f v' H',Ex1 Γ k cx ⟨vs,H⟩ x f ⟨v',H'⟩/\P f v' H'
 b:∀{x:List Stmt} {cx:Cx} {nx:Nat} {vs:Vs} {H:List AO} {P:Fl->PrS},WB S (trB Γ.K n cx nx x) vs H P->∃f v' H',Ex Γ k cx ⟨vs,H⟩ x f ⟨v',H'⟩/\P f v' H'
theorem SndS.stepB(J:SndS Γ k S n):∀{x:List Stmt} {vs:Vs} {H:List AO} {P:Fl->PrS},WB S (CX (x.map (trS Γ.K n cx nx))) vs H P->∃f v' H',Ex Γ k cx ⟨vs,H⟩ x f ⟨v',H'⟩/\P f v' H':=λ{x}=>by
 induction x with
 |nil=>
  intro vs H P h;exact bc _ _ _ Ex.nil h
 |cons x r ih=>
  intro vs H P h;refine e32 (J.s (x:=x) h) ?_;clear h;intro f bT bO h1 h;induction f using Fl.casesOn with
  |next=>refine e32 (ih h) ?_;clear h;intro f cw bY h2 h;exact bc _ _ _ (Ex.cons h1 h2) h
  |brk=>exact bc _ _ _ (Ex.stop h1 nofun) h
  |cont=>exact bc _ _ _ (Ex.stop h1 nofun) h
  |ret=>exact bc _ _ _ (Ex.stop h1 nofun) h
theorem sO{b:Bool}{m:MS}{P:Fl->PrS}(h:WS S (okS b m) vs H P):b=true/\WS S m vs H P:=by
 induction b using dN
 ·exact h.elim
 ·exact ⟨rfl,h⟩
theorem oJ{α:Type}{o:Option α}{f:α->MS}{m:MS}{P:Fl->PrS}(h:WS S (orS o f m) vs H P):(∃a,o=some a/\WS S (f a) vs H P)\/WS S m vs H P:=by
 induction o using dF
 ·exact .inr h
 ·exact .inl ⟨_,rfl,h⟩
theorem Wa{t e:aY}{q:(Nat × Nat) × (aY × ik × dg)}(h:I9 cx nx t e=some q):∃x y p1 p2 p4 p5 tn,t=.Tuple [.Name x p1] tn p2/\e=.SetComp q.2.1 [⟨.Name y p4,q.2.2.1.iter,[],0⟩] q.2.2.2 p5/\qp cx q.2.2.2 (fo cx q.2.2.2 nx)=true/\sH q.2.2.1.iter=false/\dK cx x=some q.1.1/\dK (fo cx q.2.2.2 nx) y=some q.1.2:=by
 refine e12 (bg h) ?_;clear h;intro te h0 h;refine e12 (bg h) ?_;clear h;intro xe h1 h;refine e12 (bg h) ?_;clear h;intro i h2 h;refine e12 (bg h) ?_;clear h;intro c h3 h;refine e12 (bg h) ?_;clear h;intro ig h4 h;refine e02 (gu h) λh5 be=>?_;subst be;refine e24 (C9 h4) λy p4 e1 e2 e3 e4=>?_;refine e22 (vH h2) λx p1 e6 e5=>?_;rw[i6.mp h5] at e1;exact ⟨x,y,p1,te.2.2,p4,c.2.2.2,te.2.1,by erw[<- e6,<- jo h1];exact IN h0,by erw[<- e1];exact VQ h3,e3,e4,e5,e2⟩
theorem Wb{K:Frag}{t e:aY}{els:List Stmt}{q:(Nat × Nat) × aY}(h:IV K cx t e els=some q):∃x y f xp yp fp tp cp tn,t=.Tuple [.Name x xp,.Name y yp] tn tp/\e=.Call (.Name f fp) [q.2] [] cp/\els=[]/\dK cx x=some q.1.1/\dK cx y=some q.1.2/\gQ K cx f=some (.typ "enumerate")/\dA q.2=false:=by
 refine e12 (bg h) ?_;clear h;intro xy h1 h;refine e12 (bg h) ?_;clear h;intro i h2 h;refine e12 (bg h) ?_;clear h;intro j h3 h;refine e12 (bg h) ?_;clear h;intro v h4 h;refine e02 (gu h) λh5 bw=>?_;subst bw;refine e12 (bg h1) ?_;clear h1;intro te h0 h1;refine e12 (bg h4) ?_;clear h4;intro c m0 h4;refine e12 (bg h4) ?_;clear h4;intro v' h6 h4;clear h;refine e02 (gu h4) λh7 bA=>?_;subst bA;refine e02 (gR h7) ?_;clear h7;intro h7 h8;refine e02 (gR h7) ?_;clear h7;intro h9 h7;refine e22 (C8 (eq_of_beq h7)) λf fp e6 e1=>?_;refine e22 (vH h2) λx xp e2 e3=>?_;refine e22 (vH h3) λy yp e4 e5=>?_;exact ⟨x,y,f,xp,yp,fp,_,_,te.2.1,by erw[<- e2,<- e4,<- nh h1];exact IN h0,by erw[<- e6,<- jo h6,<- i6.mp h9];exact CZ m0,i6.mp h5,e3,e5,e1,kM h8⟩
theorem Wc{K:Frag}{body:List Stmt}{hs:List ExceptHandler}{q:(Nat × aY) × (Nat × Nat × Nat)}(h:I6 K cx body hs=some q):∃x y f1 f2 p0 p1 p2 p3 p4 p5 p6 hb,q.1.2=.Subscript f1 f2 p0/\body=[.Assign [.Name x p1] (.Call q.1.2 [] [] p2) p3,.Break p4]/\hs=[.ExceptHandler (some (.Name y p5)) none hb p6]/\dK cx x=some q.1.1/\gQ K cx y=some (.typ "StopIteration")/\sL cx hb=some q.2:=by
 refine e12 (bg h) ?_;clear h;intro ab h1 h;refine e12 (bg h) ?_;clear h;intro te h2 h;refine e12 (bg h) ?_;clear h;intro t h3 h;refine e12 (bg h) ?_;clear h;intro i h4 h;refine e12 (bg h) ?_;clear h;intro fp h5 h;refine e12 (bg h) ?_;clear h;intro sb h6 h;refine e12 (bg h) ?_;clear h;intro hd h7 h;refine e12 (bg h) ?_;clear h;intro yb h8 h;refine e12 (bg h) ?_;clear h;intro d h9 h;refine e12 (bg h) ?_;clear h;intro bp PM h;refine e02 (gu h) λBU bN=>?_;subst bN;obtain ⟨ty,nn,hb,p6⟩:=hd;refine e12 (bg h8) λt' e1 e2=>?_;clear h h8;refine e02 (gu e2) λe3 ch=>?_;subst ch;refine e22 (C8 (eq_of_beq BU)) λy p5 e4 e5=>?_;refine e22 (vH h4) λx p1 e6 e7=>?_;exact ⟨x,y,_,_,_,p1,fp.2,te.2.2,bp,p5,p6,hb,C2 h6,by erw[<- e6,<- IU h5,<- jo h3,<- VN h2,<- VO PM];exact nh h1,by erw[jo h7,e1,<- e4,M5.mp e3],e7,e5,h9⟩
theorem SndS.stepS(TO:eX Γ.K S.T)(AP:Apart Γ k S)(AS:sN Γ k S)(I:Snd Γ k S n)(J:SndS Γ k S n){x:Stmt}{P:Fl->PrS}(h:WS S (trS Γ.K (n+1) cx nx x) vs H P):∃f v' H',Ex1 Γ k cx ⟨vs,H⟩ x f ⟨v',H'⟩/\P f v' H':=by
 refine RF λG kk=>?_;induction x using M3
 case Expr e p=>
  refine e02 (sO h) ?_;clear h;intro hc h;refine e32 (I.v (x:=e) h) ?_;clear h;intro d bT bO h1 h;exact kk _ _ _ (Ex1.expr h1 (λenv=>Cm (kM hc) _ _ _)) h
 case Pass=>exact kk _ _ _ Ex1.pass h
 case Break=>exact kk _ _ _ Ex1.brk h
 case Continue=>exact kk _ _ _ Ex1.cont h
 case Return v p=>
  induction v using dF with
  |none=>exact h.elim
  |some e=>
   refine e32 (I.v (x:=e) h) ?_;clear h;intro d bT bO h1 h;exact kk _ _ _ (Ex1.ret h1) h
 case Assign ts e p=>
  rcases oJ h with ⟨t,ht,w⟩|w<;>clear h
  ·cases jo ht;rcases oJ w with ⟨q,hq,h⟩|h
   ·clear ht;refine e41 (Wa hq) λx y p1 p2 cg=>?_;refine e34 cg λp4 p5 tn cm cW e1 d0=>?_;subst cm;subst cW;refine e03 d0 λe2 e3 e4=>?_;obtain ⟨_,_,_,e5,h⟩:=AS.setU _ _ _ _ _ _ _ _ _ _ _ _ _ _ _ _ _ _ _ I e1 e2 e3 e4 h;exact kk _ _ _ e5 h
   ·refine e02 (sO h) ?_;clear h;intro hc h;refine e02 (gR hc) λiF lz=>?_;refine e32 (I.e (x:=e) h) ?_;clear h;intro d bT bO d5 h;refine e02 d5 λ_ h1=>?_;refine e22 (Snd.t TO I h) ?_;clear h;intro cw bY h2 h;exact kk _ _ _ (h1 (kM iF) _ _ _ h2 (kM lz)) h
  ·rcases oJ w with ⟨q,ht,h⟩|h
   ·cases nh ht;refine e02 (sO h) ?_;clear h;intro hc h;refine e02 (gR hc) ?_;clear hc;intro hc Qa;refine e02 (gR hc) ?_;clear hc;intro hc B4;refine e02 (gR hc) λiF lz=>?_;refine e32 (I.v (x:=e) h) ?_;clear h;intro d bT bO h1 h;refine e22 (Snd.t TO I h) ?_;clear h;intro cw bY h2 h;refine e22 (Snd.t TO I h) ?_;clear h;intro jN jH h3 h;exact kk _ _ _ (Ex1.assign2 h1 h2 h3 (kM Qa) (kM iF) (kM lz) (kM B4)) h
   ·exact h.elim
 case AugAssign t op e p=>
  rcases oJ h with ⟨i,hi,w⟩|w<;>clear h
  ·refine e22 (vH hi) ?_;clear hi;intro x q dJ hi;subst dJ;refine e12 (yG w) λd hd h=>?_;refine e32 (I.v (x:=e) h) ?_;clear h;intro v bT bO h1 h;refine e12 (InpP.of (Γ:=Γ) (H:=bO) h) ?_;clear h;intro r h2 h;refine e02 (vF hi) λs1 s2=>?_;unfold HK at h;rw[sA] at h;exact kk _ _ _ (Ex1.aug s1 hd s2 h1 h2) h
  ·rcases oJ w with ⟨a,ha,g⟩|h
   ·clear w;cases IT ha;refine e32 (I.v (x:=a.1) g) λw bT bO h1 h=>?_;refine e12 (AP.att TO h) ?_;clear h;intro d h2 h;refine e32 (I.v (x:=e) h) ?_;clear h;intro v cw bY h3 h;refine e12 (InpP.of (Γ:=Γ) (H:=bY) h) ?_;clear h;intro r h4 h;refine e12 (SetAP.of TO h) ?_;clear h;intro H' h5 h;exact kk _ _ _ (Ex1.augAttr h1 h2 h3 h4 h5) h
   ·exact h.elim
 case If c a b p=>
  refine e32 (I.c (x:=c) h) ?_;clear h;intro t bT bO h1 h;induction t using dN with
  |true=>
   refine e32 (J.b (x:=a) h) ?_;clear h;intro f cw bY h2 h;exact kk _ _ _ (Ex1.ite h1 (λzz=>h2) nofun) h
  |false=>
   refine e32 (J.b (x:=b) h) ?_;clear h;intro f cw bY h2 h;exact kk _ _ _ (Ex1.ite h1 nofun (λzz=>h2)) h
 case For t e body els p=>
  refine e02 (sO h) λhc w=>?_;clear h;rcases oJ w with ⟨q,hq,g⟩|h<;>clear w
  ·refine e41 (Wb hq) λx y f xp dY=>?_;refine e41 dY λyp fp tp cp eT=>?_;refine e15 eT λtn eS hG fw e1 fA=>?_;subst eS;subst hG;subst fw;refine e03 fA λe2 e3 e4=>?_;refine e32 (I.v (x:=q.2) g) λd bT bO h1 h=>?_;refine e12 (jX h) ?_;clear h;intro m iH h;subst iH;refine e13 (iS h) ?_;clear h;intro l hl _ h;refine e32 (V0 (tn:=tn) (xp:=xp) (yp:=yp) (tp:=tp) e1 e2 J.b h) ?_;clear h;intro r cw bY h2 h;induction r using dF with
   |none=>exact kk _ _ _ (IA (qz e3) h1 e4 hl h2 (Ex.nil)) h
   |some g=>exact kk _ _ _ (IA (qz e3) h1 e4 hl h2 (⟨rfl,rfl⟩)) h
  ·refine e32 (I.v (x:=e) h) ?_;clear h;intro d bT bO h1 h;refine e12 (IterP.of (Γ:=Γ) h) ?_;clear h;intro src jR h;refine e02 jR λi1 i2=>?_;refine e32 (VY (Snd.t TO I) J.b h) ?_;clear h;intro r cw bY h2 h;induction r using dF with
   |none=>
    refine e32 (J.b (x:=els) h) ?_;clear h;intro f jN jH h3 h;exact kk _ _ _ (Ex1.for_ h1 i1 h2 (h3) (qx (kM hc))) h
   |some g=>exact kk _ _ _ (Ex1.for_ h1 i1 h2 (⟨rfl,rfl⟩) (qx (kM hc))) h
 case While c body els p=>
  refine e32 (VZ (I.c (x:=c)) (J.b (x:=body)) h) ?_;clear h;intro r cw bY h2 h;induction r using dF with
  |none=>
   refine e32 (J.b (x:=els) h) ?_;clear h;intro f jN jH h3 h;exact kk _ _ _ (Ex1.while_ h2 (h3)) h
  |some g=>exact kk _ _ _ (Ex1.while_ h2 (⟨rfl,rfl⟩)) h
 case Delete ts p=>
  rcases oJ h with ⟨q,hq,w⟩|h
  ·clear h;refine e12 (bg hq) λt q1 q2=>?_;cases C2 q2;cases jo q1;refine e02 (sO w) λ_ h=>?_;refine e32 (I.v (x:=q.1) h) ?_;clear h;intro d bT bO h1 h;refine e32 (I.v (x:=q.2.1) h) ?_;clear h;intro j cw bY h2 h;refine e12 (DelP.of (Γ:=Γ) h) ?_;clear h;intro H' h3 h;exact kk _ _ _ (Iq h1 h2 h3) h
  ·exact h.elim
 case Try body hs els fin p=>
  refine e02 (sO h) λhc w=>?_;clear h;refine e02 (gR hc) ?_;clear hc;intro hc B4;refine e02 (gR hc) λiF lz=>?_;cases i6.mp iF;cases i6.mp lz;rcases oJ w with ⟨q,hq,g⟩|h<;>clear w
  ·refine e41 (Wc hq) λx y f1 f2 jJ=>?_;refine e41 jJ λp0 p1 p2 p3 jP=>?_;refine e43 jP λp4 p5 p6 hb e1 jI lJ=>?_;subst jI;refine e04 lJ λmV e2 e3 e4=>?_;subst mV;rw[e1] at g kk;obtain ⟨_,_,_,e5,h⟩:=AS.tryN _ _ _ _ _ _ _ _ _ _ _ _ _ _ _ _ _ _ _ _ _ _ _ I e2 e3 e4 g;exact kk _ _ _ e5 h
  ·induction hs using bI with
   |nil=>injection B4
   |cons=>
    refine e32 (J.b (x:=body) h) ?_;clear h;intro f bT bO h1 h;exact kk _ _ _ (V8 h1) h
 all_goals exact h.elim
theorem Wd(jK:qw Γ k S)(TO:eX Γ.K S.T)(TF:nb Γ.K S.T)(AP:Apart Γ k S)(AS:sN Γ k S):∀n,Snd Γ k S n/\SndS Γ k S n:=λn=>by
 induction n with
 |zero=>
  exact ⟨⟨λh=>h.elim,λh=>h.elim⟩,⟨λh=>h.elim,λh=>h.elim⟩⟩
 |succ n ih=>
  refine e02 ih ?_;clear ih;intro I J;exact ⟨⟨Snd.stepE jK TO TF AP I,Snd.stepC I⟩,⟨SndS.stepS TO AP AS I J,SndS.stepB J⟩⟩
end
section
variable{Γ:Gam}{k:Nat}[NeZero k]{S:Sys}
noncomputable def Da(K:Frag)(a:Nat):Bool:=match vC K a with
 |some fd=>codeIn K fd.code fd.qualname&&fd.globals==rF&&fd.builtins==wT&&fd.closure.isEmpty&&!fd.scope.isCoroutine&&!fd.scope.isGenerator&&yw fd.scope.kind&&yv (oF fd.scope)&&jm (fd.scope.names.map (·.1)) &&
   (C6 fd.body).isSome
 |none=>false
theorem We{cx:Cx}{ds:List (Str × AV)}(hs:∀x y i,(x,i)∈cx.vis->(y,i)∈cx.vis->x=y){x:Str}{i:Nat}{d:AV}(hv:(x,i)∈cx.vis)(h:(vD cx ds)[i]?=some (some d)):ds.lookup x=some d:=by
 unfold vD at h;rw[ga] at h;refine e12 (fN.mp h) λj h1 h2=>?_;refine e12 (tm.mp h2) λp h3 h4=>?_;have hj:j=i:=by
  by_cases hi:i<cx.n
  ·rw[LV hi] at h1;(injection h1 with aC;subst aC);rfl
  ·rw[qV (by simp;exact (d8 hi))] at h1;injection h1
 clear h1 h;subst hj;have hp:=MU h3;have hm:=MR h3;simp only[beq_iff_eq] at hp;have:p.1=x:=hs _ _ j (by erw[<- hp];exact hm) hv;erw[<- this];exact h4
theorem Jm{K:Frag}{a:Nat}{fd:i8}(h:vC K a=some fd):∃oc od mX,K.lookup a=some ⟨oc,od,.func fd,mX⟩:=by
 refine e12 (bg h) ?_;clear h;intro o h1 h;obtain ⟨oc,od,dt,mX⟩:=o;induction dt using Fe<;>first|(injection h;done)|((injection h with aI;subst aI);exact RH _ _ _ h1)
theorem Wf{x:FuncBody}{b:List Stmt}(h:C6 x=some b):x=.stmts b:=by
 induction x using Aex<;>(first|(injection h with zq;subst zq)|injection h)
 rfl
abbrev sP(P:AV->List AO->Prop)(f:Fl)(vs:Vs)(H:List AO):Prop:=match f with
 |.ret d=>P d H
 |.next=>P .none H
 |_=>False
theorem FnSpec.run{a:Nat}{fd:i8}{args:List AV}{ds:List (Str × AV)}{H:List AO}{P:AV->List AO->Prop}(jK:qw Γ k S)(TO:eX Γ.K S.T)(TF:nb Γ.K S.T)(AP:Apart Γ k S)(AS:sN Γ k S)
  (cQ:vC Γ.K a=some fd) (cN:Da Γ.K a=true) (hB:BindR Γ fd args H ds) (fh:jm (ds.map (·.1))=true) (jM:(ds.map (·.1)).all (λx=>(fX fd.scope.names).contains x)=true)
  (hE:WB S (yF Γ.K a) (vD (oF fd.scope) ds) H (sP P)):∃d H',FnSpec Γ (k+1) a args H d H'/\P d H':=by
 unfold Da at cN;rw[cQ] at cN;simp only[ie,beq_iff_eq,mP] at cN;refine e02 cN ?_;clear cN;intro be m0;refine e02 be λbw h9=>?_;refine e02 bw λbA h8=>?_;refine e02 bA λbN h7=>?_;refine e02 bN λch h6=>?_;refine e02 ch λcg h5=>?_;refine e02 cg λcm h4=>?_;refine e02 cm λcW h3=>?_;refine e02 cW λh1 h2=>?_;refine e11 (oZ.mp m0) ?_;clear m0;intro b m0;have Br:yF Γ.K a=trB Γ.K 40 (oF fd.scope) (fX fd.scope.names).length b:=by
  unfold yF;erw[cQ,rq,m0];rfl
 refine e03 (Jb h8) λc1 c2 c3=>?_;have nd:=qv h9;have um:∀x,x∈fX fd.scope.names->fd.scope.names.lookup x=some .local\/(fd.scope.names.lookup x=some .cell/\(x,eF)∈fd.scope.names):=λx hx=>by
  rcases Jc hx with e|e
  ·exact .inl (qj nd e)
  ·exact .inr ⟨qj nd e,e⟩
 refine e31 (Jm cQ) λoc od mX hK=>?_;rw[Br] at hE;refine e32 ((Wd jK TO TF AP AS 40).2.b hE) λf v' H' ex hP=>?_;have iP:fd.scope.kind=.function:=by
  unfold yw at h7;split at h7
  ·assumption
  ·injection h7
 have done:∀{d},Hv f d->FnSpec Γ (k+1) a args H d H':=λhf=>by
  refine FnSpec.intro (cx:=oF fd.scope) (f:=f) (vars:=vD (oF fd.scope) ds) (vars':=v') hK h1 (Wf m0) h2 h3 (by simpa using h4) h5 h6 iP ⟨rfl,c1,c2,c3,λx i hx=>um x (C7 hx)⟩ hB (qv fh) (λx hx=>um x ?_) (by simp[vD]) (λx i d hx hd=>We c2 hx hd) ex hf
  have:=(Fb.mp jM) x hx;simpa using this
 induction f using Mine.Fl.casesOn with
 |next=>exact bZ _ _ (done rfl) hP
 |brk=>exact hP.elim
 |cont=>exact hP.elim
 |ret d=>exact bZ _ _ (done rfl) hP
end
structure Ps(fd:i8)(ps:List Str)(va:Option Str):Prop where
 po:fd.params.posonlyargs=[]
 ar:fd.params.args.map (·.arg)=ps
 va:fd.params.vararg.map (·.arg)=va
 ko:fd.params.kwonlyargs=[]
 kw:fd.params.kwarg=none
 df:fd.defaults=.none
theorem Wg{α:Type}:∀{ps:List Str} {vs:List α},ps.Nodup->vs.length=ps.length->(ps.filter λn=>((ps.zip vs).lookup n).isNone)=[]/\(ps.filterMap λn=>((ps.zip vs).lookup n).map (n,·))=ps.zip vs:=by
 intro ps vs hn hl;have key:∀(pre:List Str) (ws:List α) (ps:List Str) (vs:List α),(pre++ps).Nodup->ws.length=pre.length->vs.length=ps.length ->
   (ps.filter λn=>(((pre.zip ws)++(ps.zip vs)).lookup n).isNone)=[]/\(ps.filterMap λn=>(((pre.zip ws)++(ps.zip vs)).lookup n).map (n,·))=ps.zip vs:=by
  intro pre ws ps;induction ps generalizing pre ws with
  |nil=>intro vs _ _ _;simp
  |cons x r ih=>
   intro vs hn h1 h2;induction vs using bI with
   |nil=>simp at h2
   |cons v us=>
    have hx:x∉pre:=λq=>by
     rw[jw] at hn;exact hn.2.2 x q x (by simp) rfl
    have Qb:((pre.zip ws)++((x::r).zip (v::us))).lookup x=some v:=by
     erw[List.lookup_append];have:(pre.zip ws).lookup x=none:=by
      erw[Mb];intro p hp;have:=List.of_mem_zip hp;simp;rintro rfl;exact hx this.1
     erw[this];simp
    have e:(pre.zip ws)++((x::r).zip (v::us))=((pre++[x]).zip (ws++[v]))++(r.zip us):=by
     erw[List.zip_append h1.symm];simp
    have:=ih (pre++[x]) (ws++[v]) us (by simpa using hn) (by simp[h1]) (by simpa using h2)
    erw[pe,LW,Qb,e];simp only[Option.isNone_some,eG,if_false,Option.map_some];exact ⟨this.1,by erw[this.2];rfl⟩
 have:=key [] [] ps vs (by simpa using hn) rfl hl
 simpa using this
theorem Jn{α β:Type}:∀(ps:List α) (vs:List β),ps.zip (vs.take ps.length)=ps.zip vs
 |[],vs=>by simp
 |p::ps,[]=>by simp
 |p::ps,v::vs=>by simp[Jn ps vs]
theorem ngB{c:Bool}{α:Type}{t e r:α}(h:c=false)(k:e=r):(if c=true then t else e)=r:=by subst h;exact k
theorem Wh{α β γ:Type}{l:List α}(h:l=[]){b:β}{f:α->β->Sem (ForInStep β)}{k:β->Sem γ}{r:Sem γ}(e:k b=r):(forIn l b f >>= k)=r:=by subst h;exact e
theorem Wi{α β:Type}{A:List α}{m:Nat}:List.zip A (M6 m ([]:List β))=[]:=by rw[M7,List.zip_nil_right]
theorem Wj{α β:Type}{l:List α}{f:α->Bool}{m:Nat}(z:l.filter f=[]):(!(List.filter f (List.take (l.length-(M6 m ([]:List β)).length) l)).isEmpty)=false:=by
 rw[M7,fu,z8,wH,z];rfl
theorem Wk{nm qu:Str}{ar:List Arg}{va:Option Arg}{kd:List (Option aY)}{df:List aY}{bd:FuncBody}{sc:dg}{gl:Addr}{cl:List (Str × Addr)}{uF d1 d2:Value}{an:Option Addr}{c1 c2:Value}{bl:Addr}{vs:List Value}
  (hn:(ar.map (·.arg)).Nodup) (hl:(ar.map (·.arg)).length<=vs.length) (hc:(decide (vs.length > (ar.map (·.arg)).length)&&va.isNone)=false) :
  wZ ⟨nm,qu,⟨[],ar,va,[],kd,none,df⟩,bd,sc,gl,cl,.none,uF,d1,d2,an,c1,c2,bl⟩ ⟨vs,[]⟩=va.elim (pure ((ar.map (·.arg)).zip vs)) λx=>tI (vs.drop (ar.map (·.arg)).length) >>= λt=>pure ((ar.map (·.arg)).zip vs++[(x.arg,t)]):=by
 have z:=Wg (vs:=vs.take (ar.map (·.arg)).length) hn (List.length_take_of_le hl);rw[Jn] at z;have z2:=(congrArg _ (c9 _)).trans z.2;refine ngB hc (ngB (Wj z.1) (Wh Wi ?_));induction va using dF with
 |none=>exact congrArg (λl=>(pure l:Sem (List (Str × Value)))) z2
 |some a=>exact congrArg (λl=>tI (vs.drop (ar.map (·.arg)).length) >>= λt=>pure (l++[(a.arg,t)])) z2
theorem Jo{fd:i8}{ps:List Str}{va:Option Str}{vs:List Value}(h:Ps fd ps va)(hn:ps.Nodup)(hl:ps.length<=vs.length)(hc:(decide (vs.length > ps.length)&&va.isNone)=false) :
  wZ fd ⟨vs,[]⟩=va.elim (pure (ps.zip vs)) λx=>tI (vs.drop ps.length) >>= λt=>pure (ps.zip vs++[(x,t)]):=by
 revert hn hl hc;obtain ⟨h1,h2,h3,h4,h5,h6⟩:=h;obtain ⟨nm,qu,⟨po,ar,F7,ko,kd,kw,df⟩,bd,sc,gl,cl,Q6,uF⟩:=fd;subst h1;subst h4;subst h5;subst h6;subst h2;subst h3;intro hn hl hc;induction F7 using dF<;>exact Wk hn hl hc
section
variable{Γ:Gam}
theorem Db{ρ:List Addr}{h:Heap}:∀(ps:List Str) {args:List AV} {vs:List Value},VReps ρ h args vs->BReps ρ h (ps.zip args) (ps.zip vs)
 |[],_,_,_=>by simp[BReps]
 |p::ps,[],vs,x=>by cases (show vs=[] from x);simp[BReps]
 |p::ps,d::args,_,⟨v,us,e,x,y⟩=>by subst e;exact fk v _ rfl x (Db ps y)
theorem BReps.append{ρ:List Addr}{h:Heap}:∀{ds es:List (Str × AV)} {bs cs:List (Str × Value)},BReps ρ h ds bs->BReps ρ h es cs->BReps ρ h (ds++es) (bs++cs):=λ{ds}=>by
 induction ds with
 |nil=>
  intro _ _ _ x y;cases (show _=[] from x);exact y
 |cons hd _ ih=>
  intro _ _ _ g8 z;obtain ⟨_,d⟩:=hd;refine e23 g8 ?_;clear g8;intro v bs e r y;subst e;exact fk v _ rfl r ((ih y) z)
theorem BindR.pos{fd:i8}{ps:List Str}{args:List AV}{H:List AO}(h:Ps fd ps none)(hn:jm ps=true)(hl:args.length=ps.length):BindR Γ fd args H (ps.zip args):=λA s ρ vs R S r=>by
 erw[Jo h (qv hn) (aE (r.length.trans hl).symm) (by erw[r.length,hl,decide_eq_false (lc _)];rfl)];exact am ⟨.refl _,Db ps r⟩
theorem BindR.var{fd:i8}{ps:List Str}{x:Str}{args:List AV}{H:List AO}(h:Ps fd ps (some x))(hn:jm ps=true)(hl:ps.length<=args.length)(hz:args.length<=1000000):BindR Γ fd args H (ps.zip args++[(x,.tup (args.drop ps.length))]):=λA s ρ vs R S r=>by
 have eU:=r.length;erw[Jo h (qv hn) (eU.symm▸hl) (qY _)];refine ag (gG ?_ (by show (vs.drop ps.length).toArray.size<=g5;erw[dE,tv,eU];exact ah (gb _ _) (ah hz (by decide))));have sl:=SLe.push s {cls:=.type "tuple",data:=.seq (vs.drop ps.length).toArray} s.toks;refine am ⟨sl,BReps.append (BReps.mono (.refl _) sl.le.imm (Db ps r)) ⟨_,[],rfl,⟨_,_,0,rfl,co _ rfl,VReps.mono (.refl _) sl.le.imm _ _ (r.drop _)⟩,rfl⟩⟩
end
theorem Dc:typeOf (.builtin "list_iterator.__next__")=pure (.type "wrapper_descriptor"):=by kernel_rfl
theorem ga_li:Slot "list_iterator" "__getattribute__" "object.__getattribute__" :=
 .of (owner:="object") (n:="__getattribute__") (by erw[kq,kt];kernel_rfl) (by decide +kernel) (by decide +kernel) (by decide +kernel)
  (by first|exact .inl (by decide +kernel)|exact .inr (by decide +kernel)) (by erw[iD];kernel_rfl)
theorem Wm:nP nQ "object.__getattribute__"=some Builtin.«object.__getattribute__»:=rN (by kernel_rfl)
theorem Wn(a b:Value):lp "object.__getattribute__" ⟨[a,b],[]⟩:=by unfold lp;kernel_rfl
theorem wd_get:Slot "wrapper_descriptor" "__get__" "wrapper_descriptor.__get__" :=
 .of (owner:="wrapper_descriptor") (n:="__get__") (by erw[kq,kt];kernel_rfl) (by decide +kernel) (by decide +kernel) (by decide +kernel)
  (by first|exact .inl (by decide +kernel)|exact .inr (by decide +kernel)) (by erw[iD];kernel_rfl)
theorem Wo:tW (.type "wrapper_descriptor") "__set__"=pure none:=by erw[kq,kt];kernel_rfl
theorem Wq:tW (.type "wrapper_descriptor") "__delete__"=pure none:=by erw[kq,kt];kernel_rfl
theorem Wr:nP nQ "wrapper_descriptor.__get__"=some Builtin.«wrapper_descriptor.__get__»:=rN (by kernel_rfl)
theorem Ws(a b c:Value):lp "wrapper_descriptor.__get__" ⟨[a,b,c],[]⟩:=by unfold lp;kernel_rfl
theorem Wt:(".".intercalate ("list_iterator.__next__".cutAt '.').dropLast)="list_iterator":=by
 have e0:"list_iterator.__next__".cutAt '.'=["list_iterator","__next__"]:=by first|rfl|decide +kernel
 erw[e0];decide +kernel
theorem Wu:nO (.type "list_iterator") (.type "list_iterator")=pure true:=by erw[iD];kernel_rfl
theorem Wv:tW (.type "list_iterator") "__next__"=pure (some (.builtin "list_iterator.__next__")):=by erw[kq,kt];kernel_rfl
section
variable{prog:gf}{w:gh}{A:Around}{E:Value->Shared->Prop}{h:Heap}{g:Array GenState}{d:Drawn}{t:Nat}{os:OsState}{a:Addr}{o:Obj}
theorem Ww{R:gH->Shared->Prop}(hx:h.get? a=some o)(hc:o.cls=.type "list_iterator") (hq:R (.ok (.ret (.ref h.objs.size))) ⟨h.push (vc a),g,d,t,os⟩) :
  cM (av prog w) A (.call (.builtin "wrapper_descriptor.__get__") ⟨[.builtin "list_iterator.__next__",.ref a,.type "list_iterator"],[]⟩) R ⟨h,g,d,t,os⟩:=by
 have hT:(⟨h,g,d,t,os⟩:Shared).TypeIs (.ref a) "list_iterator":=⟨_,hx,hc⟩;have Go:(⟨h,g,d,t,os⟩:Shared).TypeIs (.builtin "list_iterator.__next__") "wrapper_descriptor":=Dc;refine tT wd_get.plain Wr (wd_get.check _ _ _ _ _ _ _ _ Go (Ws _ _ _) ?_);have f8:nO (.type "list_iterator") (.type (".".intercalate ("list_iterator.__next__".cutAt '.').dropLast))=pure true:=by erw[Wt];exact Wu
 unfold Builtin.«wrapper_descriptor.__get__»
 repeat (any_goals (first|assumption|wp_step))
theorem Wx{Q:Option Addr->Shared->Prop}{s:Shared}{T:String}(hx:s.heap.get? a=some o)(hc:o.cls=.type T)(hn:o.dict=none)(hq:Q none s):aj (av prog w) A (instanceDict a false) Q E s:=by
 unfold instanceDict;refine ag (FQ hx ?_);erw[hc,hn];exact am hq
theorem Wy{tk:Tok}{Q:Fin->Shared->Prop}(hx:h.get? a=some o)(hc:o.cls=.type "list_iterator") (hn:o.dict=none) {vs:Array Value} (hd:o.data=.fields vs) (hq:Q (.done (.ret (.ref h.objs.size))) ⟨h.push (vc a),g,d,t,os⟩) :
  aj (av prog w) A (Builtin.«object.__getattribute__» ⟨[.ref a,.str "__next__" tk],[]⟩) Q E ⟨h,g,d,t,os⟩:=by
 have hT:(⟨h,g,d,t,os⟩:Shared).TypeIs (.ref a) "list_iterator":=⟨_,hx,hc⟩;have Go:(⟨h,g,d,t,os⟩:Shared).TypeIs (.builtin "list_iterator.__next__") "wrapper_descriptor":=Dc;have f4:=Wv;have f5:=Dc;have f6:=wd_get.lookup;have f7:=Wo;have f9:=Wq
 repeat (any_goals (first|assumption|wp_step))
 erw[hd];refine Wx hx hc hn ?_
 repeat (any_goals (first|assumption|wp_step))
 refine Ww hx hc ?_
 repeat (any_goals (first|assumption|wp_step))
theorem Wz{tk:Tok}{R:gH->Shared->Prop}(hx:h.get? a=some o)(hc:o.cls=.type "list_iterator") (hn:o.dict=none) {vs:Array Value} (hd:o.data=.fields vs) (hq:R (.ok (.ret (.ref h.objs.size))) ⟨h.push (vc a),g,d,t,os⟩) :
  cM (av prog w) A (.call (.builtin "object.__getattribute__") ⟨[.ref a,.str "__next__" tk],[]⟩) R ⟨h,g,d,t,os⟩ :=
 tT ga_li.plain Wm (ga_li.check _ _ _ _ _ _ _ _ (show (⟨h,g,d,t,os⟩:Shared).TypeIs (.ref a) "list_iterator" from ⟨_,hx,hc⟩) (Wn _ _) (Wy hx hc hn hd hq))
theorem WC{tk:Tok}{fill expr:Bool}{Q:Value->Shared->Prop}(hx:h.get? a=some o)(hc:o.cls=.type "list_iterator") (hn:o.dict=none) {vs:Array Value} (hd:o.data=.fields vs)
  (hq:Q (.ref h.objs.size) ⟨h.push (vc a),g,d,t,os⟩):aj (av prog w) A (getAttrBy (.ref a) (.str "__next__" tk) fill expr) Q E ⟨h,g,d,t,os⟩:=by
 have hT:(⟨h,g,d,t,os⟩:Shared).TypeIs (.ref a) "list_iterator":=⟨_,hx,hc⟩;have f2:=ga_li.lookup;have f3:=ga_li.bind (.ref a);have hx0:(expr&&onTheHeap (Ff "object.__getattribute__"))=false:=by induction expr using dN<;>rfl
 repeat (any_goals (first|assumption|wp_step))
 refine Wz hx hc hn hd ?_
 repeat (any_goals (first|assumption|wp_step))
theorem WD{expr:Bool}{Q:Value->Shared->Prop}(hx:h.get? a=some o)(hc:o.cls=.type "list_iterator") (hn:o.dict=none) {vs:Array Value} (hd:o.data=.fields vs)
  (hq:Q (.ref h.objs.size) ⟨h.push (vc a),g,d,t+1,os⟩):aj (av prog w) A (getAttr (.ref a) "__next__" expr) Q E ⟨h,g,d,t,os⟩:=by
 unfold getAttr
 repeat (any_goals (first|assumption|with_reducible apply WC hx hc hn hd|wp_step))
end
theorem WF{Γ:Gam}{n l i:Nat}{H:List AO}(h:H[n]?=some (.iter l i)):AttrP Γ "__next__" (.loc n) H (.nxt n) H:=λA s ρ o b R S y=>by
 refine e12 y ?_;clear y;intro a aC ha;subst aC;refine e12 (S.hp.addr h) λa' kz aI=>?_;refine e12 aI λla hl g=>?_;rw[ha] at kz;(injection kz with aS;subst aS)
 obtain ⟨hh,gg,dd,tt,os⟩:=s;exact Pr.keeps S (WD (h:=hh) g rfl rfl rfl ⟨sD,_,a,rfl,ha,_,#[],co _ rfl,rfl,rfl⟩)
section
variable{Γ:Gam}{k:Nat}{T:eW}
theorem Jp{cx:Cx}{x:Str}{i:Nat}{d:AV}{σ:St}{p:Pos}(h:sG cx x=some i)(hd:σ.vars[i]?=some (some d)):Ev Γ k cx σ (.Name x p) d σ:=by
 refine e04 (Je h) λa b c e=>?_;exact Ev.var a hd b c e
theorem Jq{i:Nat}{vs:Vs}{H:List AO}{P:Nat->List AV->AV->Prop}(h:CD i vs H P):∃n l x,vs[i]?=some (some (.loc n))/\H[n]?=some (.list l)/\okL l.length=true/\l.getLast?=some x/\P n l x:=by
 refine e12 (yG h) ?_;clear h;intro d h1 h;refine e12 (jX h) ?_;clear h;intro n aC h;subst aC;refine e13 (iS h) ?_;clear h;intro l h2 h3 h;refine e12 (c7 h) ?_;clear h;intro x h4 h;exact ⟨n,l,x,h1,h2,h3,h4,h⟩
theorem Jr(TO:eX Γ.K T){cx:Cx}{e:aY}{i n:Nat}{l:List AV}{d:AV}{σ:St}(h:C5 cx e=some i)(h1:σ.vars[i]?=some (some (.loc n)))(h2:σ.heap[n]?=some (.list l))(h3:okL l.length=true)(h4:l.getLast?=some d) :
  Ev Γ k cx σ e d ⟨σ.vars,σ.heap.set n (.list l.dropLast)⟩/\m7 e=false:=by
 refine e12 (bg h) ?_;clear h;intro fc q1 h;refine e12 (bg h) ?_;clear h;intro a q2 h;refine e12 (bg h) ?_;clear h;intro s q3 h;refine e12 (bg h) ?_;clear h;intro j q4 h;refine e02 (gu h) λq5 aI=>?_;subst aI;refine e02 (gR q5) λq6 q7=>?_;refine e11 (oG q3) λp q8=>?_;erw[IU q1,IT q2,q8,eq_of_beq q6];refine e12 (MethP.of (Γ:=Γ) (d:=.loc n) (H:=σ.heap) (x:="pop") (P:=λf=>f=.bi "list.pop") TO (by unfold lQ;dsimp only;erw[h2];rfl)) λf aS e=>?_;refine e02 aS λm _=>?_;subst e;exact ⟨Ev.meth (Jp q4 h1) rfl m Callee.builtin rfl q7 (by decide) Es.nil (Ic h2 h3 h4),rfl⟩
theorem WG(TO:eX Γ.K T){cx:Cx}{hb:List Stmt}{d s t:Nat}{vs:Vs}{H:List AO}{P:PrS}(h:sL cx hb=some (d,s,t))(hp:x8 d s t vs H P):∃v' H',Ex Γ k cx ⟨vs,H⟩ hb .next ⟨v',H'⟩/\P v' H':=by
 refine e12 (bg h) ?_;clear h;intro st q1 h;refine e12 (bg h) ?_;clear h;intro e q2 h;refine e12 (bg h) ?_;clear h;intro oi q3 h;refine e12 (bg h) ?_;clear h;intro d' q4 h;refine e12 (bg h) ?_;clear h;intro s' q5 h;refine e12 (bg h) ?_;clear h;intro e' q6 h;refine e12 (bg h) ?_;clear h;intro t' q7 h
 (injection h with be;injection be with bw bA;injection bA with bN ch;subst ch;subst bN;subst bw)
 refine e12 (bg q4) λdx q8 q9=>?_;refine e11 (oG q8) λp PP=>?_;refine e12 (yG hp) ?_;clear hp;intro w r1 hp;refine e34 (Jq hp) λn l x r2 r3 r4 cg=>?_;refine e02 cg ?_;clear hp;intro r5 hp;refine e12 (DelP.of (Γ:=Γ) hp) ?_;clear hp;intro bY r6 hp;refine e34 (Jq hp) λm r y r7 r8 r9 cm=>?_;refine e02 cm ?_;clear hp;intro Rl hp;refine e02 (Jr (Γ:=Γ) (k:=k) (σ:=⟨vs,H⟩) TO q5 r2 r3 r4 r5) λe1 _=>?_;refine e02 (Jr (Γ:=Γ) (k:=k) (σ:=⟨vs,bY⟩) TO q7 r7 r8 r9 Rl) λe2 c2=>?_;refine e11 (VL q2) λdp x1=>?_;refine e11 (VM q6) λep x2=>?_;erw[nh q1,x1,x2,C2 q3,PP];exact bZ _ _ (Ex.cons (Iq (Jp q9 r1) e1 r6) (Ex.cons (Ex1.expr e2 λenv=>Cm c2 _ _ _) Ex.nil)) hp
theorem WH{cx:Cx}{hb:List Stmt}{q:Nat × Nat × Nat}(h:sL cx hb=some q):∃b r,hb=b::r:=by
 refine e12 (bg h) λst q1 _=>?_;exact Hj _ _ (nh q1)
end
theorem WI(v:Value):Ok "list_iterator.__next__" ⟨[v],[]⟩=pure ():=by unfold Ok;kernel_rfl
theorem Js:plainId "list_iterator.__next__"=true:=by decide +kernel
noncomputable abbrev nk(t:Addr):Obj:={cls:=.type "StopIteration",dict:=none,data:=.fields #[.ref t,.none,.none,.none,.bool false,.none]}
section
variable{prog:gf}{w:gh}{A:Around}{E:Value->Shared->Prop}{s:Shared}
theorem Jt{b it:Addr}{ob:Obj}{r:Array Value}{Q:Value->Shared->Prop}(hb:s.heap.get? b=some ob)(hc:ob.cls=.type "method-wrapper") (hd:ob.data=.fields (#[.builtin "list_iterator.__next__",.ref it]++r))
  (h:aj (av prog w) A.in1 (Builtin.«list_iterator.__next__» ⟨[.ref it],[]⟩) (λfin s'=>∃v,fin=.done (.ret v)/\Q v s') E s):aj (av prog w) A (call (.ref b) []) Q E s:=by
 refine tM (pj ?_);show aj _ A.in1 (callAny (.ref b) ⟨[],[]⟩) _ _ s;unfold callAny;refine ag (pi hb ?_);have h0:(#[Ff "list_iterator.__next__",.ref it]++r)[0]?=some (.builtin "list_iterator.__next__"):=by erw[M8 (by show 0<2;decide)];rfl
 have h1:(#[Ff "list_iterator.__next__",.ref it]++r)[1]?=some (.ref it):=by erw[M8 (by show 1<2;decide)];rfl
 erw[hd,hc];dsimp only;erw[if_pos (by decide),h0,h1];dsimp only;erw[if_pos (by decide),WI];refine ag (am (ag (am (am ⟨by first|rfl|exact ii Js _,?_⟩))))
 refine ij entry_listiter_next ?_;erw[iz Js];refine ba h (λfin s' q7=>e12 q7 λv e q=>?_) λ_ _ q=>q;clear q7;subst e;exact q
theorem WJ{b it l:Addr}{ob:Obj}{r:Array Value}{j:Nat}{items:Array Value}{x:Value}{Q:Value->Shared->Prop}(hb:s.heap.get? b=some ob)(hc:ob.cls=.type "method-wrapper") (hd:ob.data=.fields (#[.builtin "list_iterator.__next__",.ref it]++r))
  (hit:s.heap.IsListIter it l j) (hl:s.heap.IsList l items) (hx:items[j]?=some x) (hQ:∀h',h'.get? it=(s.heap.get? it).map (Aj (·.setIfInBounds 1 (kg (j+1))))->fK it s.heap h'->Q x {s with heap:=h'}) :
  aj (av prog w) A (call (.ref b) []) Q E s:=by
 refine Jt hb hc hd ?_;refine e13 (id hit) λo ho qc jd=>?_;refine e13 hl ?_;clear hl;intro ol nV _ aC;refine e11 aC λnl gJ=>?_;show aj _ _ (tX (.ref it) 0 >>= _) _ _ s;refine ag (mi ho jd (x:=.ref l) rfl ?_);show aj _ _ (if (rm l==nL)=true then _ else _) _ _ s
 erw[if_neg (show ¬ ((rm l==nL)=true) from zQ)];show aj _ _ (tX (.ref it) 1 >>= _) _ _ s;refine ag (mi ho jd (x:=.int j 0) rfl ?_);show aj _ _ (nR (.ref l) >>= _) _ _ s;refine ag (ln nV gJ ?_);simp only[j9,hx];refine ag (tY ho jd (by simp) (am ⟨x,rfl,hQ _ ?_ (mc ..)⟩));erw[ho];exact gY _ ho (Ak (tz jd _))
theorem WK{b it l:Addr}{ob:Obj}{r:Array Value}{j:Nat}{items:Array Value}{Q:Value->Shared->Prop}(hh:A.handled=none)(hb:s.heap.get? b=some ob)(hc:ob.cls=.type "method-wrapper") (hd:ob.data=.fields (#[.builtin "list_iterator.__next__",.ref it]++r))
  (hit:s.heap.IsListIter it l j) (hl:s.heap.IsList l items) (hx:items[j]?=none)
  (hQ:∀bf sg tp,fK it s.heap bf->bf.get? it=some sg->sg.cls=.type "list_iterator"->(∃vs,sg.data=.fields vs)->E (.ref (bf.objs.size+1)) {s with heap:=(bf.push tp).push (nk bf.objs.size)}) :
  aj (av prog w) A (call (.ref b) []) Q E s:=by
 refine Jt hb hc hd ?_;refine e13 (id hit) λo ho qc jd=>?_;refine e13 hl ?_;clear hl;intro ol nV _ aI;refine e11 aI λnl gJ=>?_;show aj _ _ (tX (.ref it) 0 >>= _) _ _ s;refine ag (mi ho jd (x:=.ref l) rfl ?_);show aj _ _ (if (rm l==nL)=true then _ else _) _ _ s
 erw[if_neg (show ¬ ((rm l==nL)=true) from zQ)];show aj _ _ (tX (.ref it) 1 >>= _) _ _ s;refine ag (mi ho jd (x:=.int j 0) rfl ?_);show aj _ _ (nR (.ref l) >>= _) _ _ s;refine ag (ln nV gJ ?_);simp only[j9,hx];refine ag (mf (ag (tY ho jd (by simp) ?_)));show aj _ _ (A6 (.type "StopIteration") [] >>= _) _ _ _;refine ag ?_;simp only[A6,tI];refine ag (gG ?_ (by size_fits));refine ag (m:=A7 _ _) (lm (a:=nL) (by first|rfl|(simp only[A7];rfl)) ?_)
 refine gG ?_ (by size_fits);simp only[raiseNew];refine ag (wpAny_handled ?_);erw[show A.in1.handled=none from hh];refine ag (am (wpAny_throw ?_));have:=hQ _ _ {cls:=.type "tuple",dict:=none,data:=.seq (#[]:Array Value) 0} (mc s.heap it (Aj (·.setIfInBounds 0 .none))) (gY _ ho (Ak (tz jd _))) ((Obj.cls_mapFields ..).trans qc) ⟨_,tz jd _⟩;have e0:ownMembersOf (.type "StopIteration") []=#[]:=rfl;simpa[dS,e0] using this
end
structure Ready(F:List Addr)(h h':Heap):Prop where
 out:∀b o,b∉F->h.get? b=some o->h'.get? b=some o
 in_:∀b o,h.get? b=some o->∃sl,h'.get? b=some {o with slots:=sl}
 size:h.objs.size<=h'.objs.size
theorem Ready.le{F:List Addr}{h h' iG:Heap}(x:Ready F h h')(hk:∀b o,b<h.objs.size->h'.get? b=some o->iG.get? b=some o)(hs:h'.objs.size<=iG.objs.size):Ready F h iG :=
 ⟨λb o hb e=>hk b o (cF e) (x.out b o hb e),λb o e=>let ⟨sl,q⟩:=x.in_ b o e;⟨sl,hk b _ (cF e) q⟩,ah x.size hs⟩
theorem Sim.ready{Γ:Gam}{A:Around}{cx:Cx}{ρ:List Addr}{σ:St}{env:Env}{s s':Shared}(x:Sim Γ A.frames cx ρ σ env s)(K:Ready (frs A) s.heap s'.heap)(hg:s'.gens=s.gens)(ho:s'.os=s.os) :
  Sim Γ A.frames cx ρ σ env s'/\∀own,Step (frs A) own ρ ρ s.heap s'.heap:=by
 have fr:∀a∈frs A,Γ.base.get? a=none/\a∉ρ/\∃m,s.heap.Ns a m:=λa ha=>by
  unfold frs at ha;cases e:A.frames with
  |none=>rw[e] at ha;simp at ha
  |some l=>
   rw[e] at ha;refine e12 (oX.mp ha) λen he hf=>?_;refine e02 (x.tr l e en he) λ_ aC=>?_;refine e24 aC λL m e1 e2 e3 e4=>?_;rw[e1] at hf;(injection hf with aI;subst aI)
   exact ⟨e2,e3,m,e4⟩
 have im:ImmLe s.heap s'.heap:=λb o i e=>K.out b o (λq=>by refine e03 (fr b q) λ_ _ aS=>?_;refine e11 aS λm n=>?_;exact xU n e i) e;have st:∀own,Step (frs A) own ρ ρ s.heap s'.heap:=λown=>⟨⟨[],by simp,λzz q=>by cases q⟩,λb o zz zz e=>by
  by_cases q:b∈frs A
  ·refine e03 (fr b q) λ_ _ be=>?_;refine e43 be λm o' es ep e' d _=>?_;rw[e] at e';(injection e' with bw;subst bw)
   exact .inr ⟨q,⟨es,ep,d⟩,K.in_ b o e⟩
  ·exact .inl (K.out b o q e),im,K.size⟩
 refine ⟨?_,st⟩;have h':SimH Γ ρ σ.heap s':=⟨λb o e=>K.out b o (λq=>by rw[(fr b q).1] at e;injection e) (x.h.base b o e),hg.trans x.h.gens,ho.trans x.h.os,x.h.hp.mono im λa ha o e=>K.out a o (λq=>(fr a q).2.1 ha) e⟩;exact x.step (X:=[]) (st []) (by simp) h'
structure Fly(F:List Addr)(h0:Heap)(e T:Addr)(h:Heap):Prop where
 rdy:Ready F h0 h
 exc:∃oe vs,h.get? e=some oe/\oe.cls=.type "StopIteration"/\oe.data=.fields vs/\vs[1]?=some (.ref T)
 trb:∃oT ts,h.get? T=some oT/\oT.data=.fields ts/\3<ts.size
 ge:h0.objs.size<=T/\h0.objs.size<=e/\e≠T
section
variable{M:me}{A:Around}{E:Value->Shared->Prop}{s:Shared}
theorem Ju{F:List Addr}{h0:Heap}{e T:Addr}{Q:Unit->Shared->Prop}(x:Fly F h0 e T s.heap)(h:∀h',Fly F h0 e T h'->Q () {s with heap:=h'}):aj M A (setFlight (.ref e) none) Q E s:=by
 refine e24 x.exc λoe vs e1 e2 e3 e4=>?_;refine e23 x.trb λoT ts t1 t2 t3=>?_;refine e03 x.ge λg1 g2 g3=>?_;refine wpAny_setFlight_none e1 e3 e4 t1 t2 t3 (h _ ⟨x.rdy.le (λb o hb q=>?_) (by erw[zI];exact aq _),⟨oe,vs,?_,e2,e3,e4⟩,⟨_,_,gY _ t1 (Ak (tz t2 _)),tz t2 _,by simpa using t3⟩,g1,g2,g3⟩)
 ·erw[jC _ _ (λq'=>by clear q;subst q';exact absurd hb (bQ.mpr g1))];exact q
 ·erw[jC _ _ (bV g3)];exact e1
theorem WM{base h0:Heap}{env e':Env}{ip:List Env}{L e t:Addr}{Q:Unit->Shared->Prop}(pt:A.frames=some (e'::ip))(He:e'.frame=env.frame)(hf:env.frame=some L)(hl:h0.FunFrames base (e'::ip))
  (jS:Le h0 s.heap) (bz:h0.objs.size<=s.heap.objs.size) (gI:h0.objs.size<=e) (he:s.heap.get? e=some (nk t)) (h:∀h' T,Fly (frs A) h0 e T h'->Q () {s with heap:=h'}):aj M A (rM (.ref e) env) Q E s:=by
 have Rq:frs A=(e'::ip).filterMap (·.frame):=by unfold frs;erw[pt];rfl
 have g9:s.heap.FunFrames base (e'::ip):=hl.of_keeps λb o hb zz=>⟨o,jS _ _ hb,rfl⟩;have Q8:e∉(e'::ip).filterMap (·.frame):=λhm=>by
  refine e02 (g9.mem hm) λ_ bA=>?_;refine e12 bA λo ho pH=>?_;rw[he] at ho;injection ho with ho;subst ho;exact pH _ rfl
 unfold rM;simp only[hf];refine ag (mi he rfl (x:=.none) rfl ?_);erw[if_neg (by decide)];unfold PySem.frameOf;refine ag (ag (wpAny_frameEnvs pt ?_));have OZ:((e'::ip).dropWhile λx=>x.frame != env.frame)=e'::ip:=by simp[List.dropWhile,He]
 erw[OZ];unfold frameObject;refine ag (ag (wpAny_readyFrames_fun g9 λbf pW=>am ?_));erw[He,hf];refine am ?_;refine ag (wpAny_entryPlaceOf λpl mS=>?_);unfold EntryCells.newEntry newFields;refine ag (gG ?_ (mS.sizeOk5 _ _ _ _ _));have GR:bf.get? e=some (nk t):=(pW.2.1 e Q8).trans he;have xH:=du (h:=bf) {cls:=.type "traceback",dict:=none,data:=.fields ([nL,.ref L,.none,kg L,.none]++(if pl.isEmpty then j8 6 nL else pl)).toArray} GR
 refine tY xH rfl (by show 1<6;decide) ?_;have FU:bf.objs.size≠e:=gF (cF GR);have GG:=tz (o:=nk t) rfl (·.setIfInBounds 1 (rm bf.objs.size));have GU:s.heap.objs.size=bf.objs.size:=pW.1.symm;have rd:Ready (frs A) h0 bf:=by
  refine ⟨λb o hb q=>?_,λb o q=>pW.2.2 b o (jS _ _ q),by erw[<- GU];exact bz⟩;rw[Rq] at hb;exact (pW.2.1 b hb).trans (jS _ _ q)
 refine h _ bf.objs.size ⟨rd.le (λb o hb q=>?_) ?_,⟨_,_,gY _ xH (Ak GG),rfl,GG,rfl⟩,⟨_,_,(jC _ _ (bV FU)).trans (co bf rfl),rfl,by simp only[dE,bx,bC,fu]<;>exact gE (bL rfl)⟩,GU▸bz,gI,bV FU⟩
 ·erw[jC _ _ (λq'=>by clear q;subst q';exact absurd hb (bQ.mpr gI))];exact du _ q
 ·erw[zI,dS];exact jD _
end
theorem WN{prog:gf}{w:gh}{A:Around}{E:Value->Shared->Prop}{s:Shared}{pos:Pos}{b:Addr}{ob:Obj}{vs:Array Value}{Q:Value->Shared->Prop}(hb:s.heap.get? b=some ob)(hc:ob.cls=.type "method-wrapper") (hd:ob.data=.fields vs)
  (h:aj (av prog w) A (call (.ref b) []) Q E s):aj (av prog w) A (rJ pos (.ref b) [] [] []) Q E s:=by
 unfold rJ;refine ag (cu ?_);unfold FG;show aj _ A (wX [] >>= _) _ _ s;refine ag (lm (a:=([]:List Value)) rfl ?_);refine ag (am (cu ?_));refine ag (am (ag (am (am ?_))));refine ag (gZ ?_);have hk:aj (av prog w) A (tL (.ref b)) (λk s'=>k=.machine/\s'=s) E s:=by
  unfold tL;refine ag (pi hb ?_);erw[hd,hc];exact am ⟨rfl,rfl⟩
 refine ag (ba hk (λk s' q7=>e02 q7 λe1 e2=>?_) λzz zz q=>q);subst e1 e2;exact ag (ba h (λr ay hr=>ag (cu (AB (am hr)))) λzz zz q=>q)
theorem WP:nO (.type "StopIteration") (.type "BaseException")=pure true:=by erw[iD];kernel_rfl
theorem Jv:nO (.type "StopIteration") (.type "StopIteration")=pure true:=by erw[iD];kernel_rfl
theorem WQ:nO (.type ((Manifest.find? "StopIteration").elim "type" λx=>x.metatype)) (.type "tuple")=pure false:=by erw[iD];kernel_rfl
section
variable{Γ:Gam}{k:Nat}[NeZero k]{T:eW}{cx:Cx}{σ σ₁ aw:St}
theorem WR{A:Around}{env:Env}{s:Shared}{ρ:List Addr}{y:Str}{v:Value}{pos:Pos}{Q:Value->Shared->Prop}{E:Value->Shared->Prop}(hk:cx.kind y=some .globalImplicit)(hg:sk Γ.K y=some v)(h1:(y==("__debug__":Str))=false) (x:Sim Γ A.frames cx ρ σ env s) (hq:Q v s) :
  aj (av Γ.prog Γ.w) A (eval (.Name y pos) env) Q E s:=by
 have iP:env.scope.kind=.function:=by erw[x.ok.sc];exact x.ok.kind
 have g6:env.kindOf y=cx.kind y:=by unfold qU Cx.kind;erw[x.ok.sc]
 refine LQ iP (g6.trans hk) ?_ h1;have uU:s.heap.Ns env.globals Γ.mg:=by erw[x.ok.gl];exact Γ.g.keeps x.h.base
 unfold sk at hg;split at hg
 ·rename_i u e
  (injection hg with aC;subst aC)
  exact LR uU (mg_of Γ.inK Γ.g e) hq
 ·rename_i e;split at hg
  ·injection hg
  ·rename_i bB;exact LS uU (mg_none_of Γ.inK Γ.g e) (by erw[x.ok.bl];exact Γ.b.keeps x.h.base) ((Γ.builtins y bB).trans hg) hq
 ·injection hg
theorem Jw{x:Str}{p0 p1 p2 p3 p4 p7:Pos}{f1 f2:aY}{h0:ExceptHandler}{hs:List ExceptHandler}{A:Around}{env:Env}{s:Shared}{ρ:List Addr}{n:Nat}{Q:Flow->Shared->Prop}{E:Value->Shared->Prop}(R:Room k A)(hx:Sim Γ A.frames cx ρ σ env s)(hf:Ev Γ k cx σ (.Subscript f1 f2 p0) (.nxt n) σ₁)
  (h:∀b a o r az ai,Step (frs A) (ownOf cx env) ρ az s.heap ai.heap->Sim Γ A.frames cx az σ₁ env ai->az[n]?=some a->ai.heap.get? b=some o->o.cls=.type "method-wrapper"->o.data=.fields (#[.builtin "list_iterator.__next__",.ref a]++r) ->
   aj (av Γ.prog Γ.w) A (call (.ref b) []) (λv ay=>aj (av Γ.prog Γ.w) A (assign (.Name x p1) env v) (λzz bS=>Q .brk bS) (λzz zz=>False) ay)
    (λe ay=>aj (av Γ.prog Γ.w) A (rM e env) (λzz bS=>aj (av Γ.prog Γ.w) A (setFlight e none) (λzz cj=>aj (av Γ.prog Γ.w) A (handleBy e env (h0::hs)) Q E cj) E bS) E ay) ai) :
  aj (av Γ.prog Γ.w) A (exec (.Try [.Assign [.Name x p1] (.Call (.Subscript f1 f2 p0) [] [] p2) p3,.Break p4] (h0::hs) [] [] p7) env) Q E s:=by
 refine Oj (AH ?_);erw[w5,Cn rfl];refine ag (gZ (ag (am ?_)));simp only[eG,if_false];have Bw:eval (.Call (.Subscript f1 f2 p0) [] [] p2) env=(do rJ p2 (<- eval (.Subscript f1 f2 p0) env) [] [] []):=rfl
 erw[Bw];refine ag (ag (Rn.to (hf A env s ρ R hx) λv az ai aV q7=>e02 q7 λap aU=>?_));clear q7;refine e23 aU ?_;clear aU;intro b a aI ha aS;subst aI;refine e23 aS λo r g c d=>?_;refine WN g c d ?_;refine ba (h b a o r az ai aV ap ha g c d) (λv ay bv=>?_) λzz zz q=>q;erw[vf rfl];refine ag (am ?_);have he:(kh [.Name x p1] env).map (·.2)=[qW (.Name x p1) env]:=rfl;show aj _ A (do FJ v ((kh [.Name x p1] env).map (·.2));pure EC) _ _ ay
 erw[he];refine ag (ba bv (λzz bS fi=>am ?_) λzz zz q=>q.elim);refine AH ?_;erw[N7];exact ag (gZ (am fi))
end
section
variable{Γ:Gam}{k:Nat}[NeZero k]{T:eW}{cx:Cx}{σ σ₁ aw:St}
theorem WU{x:Str}{p0 p1 p2 p3 p4 p7:Pos}{f1 f2:aY}{h0:ExceptHandler}{hs:List ExceptHandler}{i n m j:Nat}{l:List AV}{d:AV}(hi:dK cx x=some i)(hf:Ev Γ k cx σ (.Subscript f1 f2 p0) (.nxt n) σ₁)
  (hn:σ₁.heap[n]?=some (.iter m j)) (hl:σ₁.heap[m]?=some (.list l)) (hd:l[j]?=some d) :
  Ex1 Γ k cx σ (.Try [.Assign [.Name x p1] (.Call (.Subscript f1 f2 p0) [] [] p2) p3,.Break p4] (h0::hs) [] [] p7) .brk ⟨σ₁.vars.set i (some d),σ₁.heap.set n (.iter m (j+1))⟩:=λA env s ρ R hx=>by
 refine Jw R hx hf λb a o r az ai aV ap ha g hc jd=>?_;refine e12 (ap.h.hp.addr hn) λa' kz aC=>?_;refine e12 aC λla i9 gi=>?_;rw[ha] at kz;(injection kz with aI;subst aI)
 refine e22 (ap.h.hp.list hl i9) λws c gl rx=>?_;refine e12 (rx.get hd) λu hu ru=>?_;have hit:ai.heap.IsListIter a la j:=⟨_,gi,rfl,rfl⟩;have iK:∀o,ai.heap.get? a=some o->¬ cz o:=λo e=>gL gi rfl rfl (by decide) (by decide) (by decide) o e;refine WJ g hc jd hit (dk gl) (x:=u) (by simpa using hu) λh' g' aW=>?_
 rw[gi] at g';obtain ⟨st,S'⟩:=m9 (F:=frs A) (s':={ai with heap:=h'}) (o':=.iter m (j+1)) ap.h ha (λl q=>by rw[hn] at q;cases q) aW rfl rfl iK ⟨la,i9,g'⟩
 have aH:Sim Γ A.frames cx az ⟨σ₁.vars,σ₁.heap.set n (.iter m (j+1))⟩ env {ai with heap:=h'}:=ap.step st (by simp) S'
 refine e02 (vF hi) λs1 s2=>?_;refine Rn.to (As.name (k:=k) (pos:=p1) s1 s2 A env _ az u R aH (VRep.mono (.refl _) st.imm _ _ ru)) λzz dz bS cK cD=>?_;exact cH dz (aV.trans (st.widen.trans cK)) cD rfl
theorem WV(TO:eX Γ.K T){x y:Str}{p0 p1 p2 p3 p4 p5 p6 p7:Pos}{f1 f2:aY}{hb:List Stmt}{n m j d t u:Nat}{l:List AV}(hy:gQ Γ.K cx y=some (.typ "StopIteration")) (hp:sL cx hb=some (d,t,u)) (hf:Ev Γ k cx σ (.Subscript f1 f2 p0) (.nxt n) σ₁)
  (hn:σ₁.heap[n]?=some (.iter m j)) (hl:σ₁.heap[m]?=some (.list l)) (hd:l[j]?=none) (hs:Ex Γ 0 cx ⟨σ₁.vars,σ₁.heap.set n .dead⟩ hb .next aw) :
  Ex1 Γ k cx σ (.Try [.Assign [.Name x p1] (.Call (.Subscript f1 f2 p0) [] [] p2) p3,.Break p4] [.ExceptHandler (some (.Name y p5)) none hb p6] [] [] p7) .next aw:=λA env s ρ R hx=>by
 refine Jw R hx hf λb a o r az ai aV ap ha g hc jd=>?_;refine e12 (ap.h.hp.addr hn) λa' kz be=>?_;refine e12 be λla i9 gi=>?_;rw[ha] at kz;(injection kz with bw;subst bw)
 refine e22 (ap.h.hp.list hl i9) λws c gl rx=>?_;have eU:=rx.length;have hit:ai.heap.IsListIter a la j:=⟨_,gi,rfl,rfl⟩;have iK:∀o,ai.heap.get? a=some o->¬ cz o:=λo e=>gL gi rfl rfl (by decide) (by decide) (by decide) o e;refine WK R.handled g hc jd hit (dk gl) (by rw[Mh] at hd;simp;exact ah (aE eU) hd) λbf sg tp aW B2 PE dX=>?_;refine e11 dX ?_;clear dX;intro Afr dX;obtain ⟨st,S'⟩:=m9 (F:=frs A) (s':={ai with heap:=bf}) (o':=.dead) ap.h ha (λl q=>by rw[hn] at q;cases q) aW rfl rfl iK ⟨sg,B2,gL B2 PE dX (by decide) (by decide) (by decide) _ B2⟩
 have aH:Sim Γ A.frames cx az ⟨σ₁.vars,σ₁.heap.set n .dead⟩ env {ai with heap:=bf}:=ap.step st (by simp) S'
 refine e11 (oZ.mp R.fr) λfl oj=>?_;refine e22 (aH.hd fl oj) λe' ip e1 e2=>?_;subst e1;have Gx:=aH.tr _ oj;refine e02 (Gx e' aG) λ_ bN=>?_;refine e22 bN λL _ hL _=>?_;have ff:∀l:List Env,(∀e∈l,e.scope.kind≠.module/\∃L m,e.frame=some L/\Γ.base.get? L=none/\L∉az/\bf.Ns L m)->bf.FunFrames Γ.base l:=λl=>by
  induction l with
  |nil=>intro _;trivial
  |cons e l ih=>
   intro h;refine e02 (h e aG) λk1 ch=>?_;refine e24 ch λL m k2 k3 _ cg=>?_;refine e33 cg λo es ep k4 k5 _=>?_;exact ⟨k1,⟨L,o,k2,k3,k4,λvs q=>by rw[k5] at q;cases q⟩,ih λe' n0=>h e' (aL _ n0)⟩
 have Qh:=ff _ Gx;have sz:((bf.push tp).push (nk bf.objs.size)).objs.size=bf.objs.size+1+1:=by erw[dS,dS]
 have ge:((bf.push tp).push (nk bf.objs.size)).get? (bf.objs.size+1)=some (nk bf.objs.size):=by
  have:=co (bf.push tp) (o:=nk bf.objs.size) rfl
  rwa[dS] at this
 have le:Le bf ((bf.push tp).push (nk bf.objs.size)):=(Le.push _ _).trans (Le.push _ _);refine e14 (Jg hy) λv PF Op GP PR=>?_;have hv:v=.type "StopIteration":=Jf GP [] s.heap;clear GP;subst hv;refine e21 (WH hp) λb0 iM cm=>?_;subst cm;refine WM (h0:=bf) (base:=Γ.base) oj e2 (e2▸hL) Qh le (by show _<=((bf.push tp).push _).objs.size;erw[sz];exact bk (bK _ _)) (jD _) ge λbv Afu Rh=>?_;refine Ju Rh λfi Bv=>?_;have cD:Sim Γ A.frames cx az ⟨σ₁.vars,σ₁.heap.set n .dead⟩ env {ai with heap:=fi}:=(aH.ready (s':={ai with heap:=fi}) Bv.rdy rfl rfl).1
 refine wpAny_handleBy_builtin (X:="StopIteration") (T:="StopIteration") (b:=true) WP WQ Jv ?_;refine WR (A:=A.mark (some (.ref (bf.objs.size+1)))) PF Op PR cD ⟨rfl,?_,?_⟩
 ·refine e23 Bv.exc λoe vs q1 q2 _=>?_;exact aB oe q1 q2
 ·erw[if_pos rfl];refine Ju (A:=A.mark (some (.ref (bf.objs.size+1)))) Bv λfj OH=>?_;refine e02 (aH.ready (s':={ai with heap:=fj}) OH.rdy rfl rfl) λgk lq=>?_
  have R':Room 0 (A.mark (some (.ref (bf.objs.size+1)))):=⟨by have:=R.depth;show A.depth+0<_;exact ah (cr (bK _ _)) this,by have:=R.units;show A.units+200*0+200<_;exact ah (cr (mL (bK _ _) _)) this,λq=>absurd rfl q,R.fr⟩;refine Rn.to (hs (A.mark (some (.ref (bf.objs.size+1)))) env _ az R' gk) λf BF s₅ BY q7=>e02 q7 λxP BG=>?_;exact cH BF (aV.trans (st.widen.trans ((lq _).trans BY))) xP BG
end
namespace MF
theorem Jx:mroOf (.type "map")=pure [.type "map",.type "object"]:=by erw[mroOf_type];kernel_rfl
theorem WW:tW (.type "map") "__new__"=pure (some (.builtin "map.__new__")):=by erw[kq,kt];kernel_rfl
theorem WX:Slot "map" "__init__" "object.__init__" :=
 .of (owner:="object") (n:="__init__") (by erw[kq,kt];kernel_rfl) (by decide +kernel) (by decide +kernel) (by decide +kernel)
  (by first|exact .inl (by decide +kernel)|exact .inr (by decide +kernel)) (by erw[iD];kernel_rfl)
theorem slot_map_iter:Slot "map" "__iter__" "map.__iter__" :=
 .of (owner:="map") (n:="__iter__") (by erw[kq,kt];kernel_rfl) (by decide +kernel) (by decide +kernel) (by decide +kernel)
  (by first|exact .inl (by decide +kernel)|exact .inr (by decide +kernel)) (by erw[iD];kernel_rfl)
theorem slot_map_next:Slot "map" "__next__" "map.__next__" :=
 .of (owner:="map") (n:="__next__") (by erw[kq,kt];kernel_rfl) (by decide +kernel) (by decide +kernel) (by decide +kernel)
  (by first|exact .inl (by decide +kernel)|exact .inr (by decide +kernel)) (by erw[iD];kernel_rfl)
theorem called_map:TypeCalled "map" "map.__new__" "object.__init__" :=
 ⟨by decide +kernel,by decide +kernel,⟨_,_,Jx⟩,madeBy_type Jx WW (by decide +kernel),by decide +kernel,by erw[iD];kernel_rfl,WX⟩
theorem typeCall_map_2(a b:Value):checkTypeCall "map" ⟨[a,b],[]⟩=pure ():=by kernel_rfl
theorem newCall_map_2(a b:Value):w8 "map.__new__" ⟨[.type "map",a,b],[]⟩=pure ():=by kernel_rfl
theorem entry_map_new:nP nQ "map.__new__"=some Builtin.«map.__new__»:=rN (by kernel_rfl)
theorem entry_map_next:nP nQ "map.__next__"=some Builtin.«map.__next__»:=rN (by kernel_rfl)
theorem entry_map_iter:nP nQ "map.__iter__"=some Builtin.«dict_keyiterator.__iter__» :=
 Ol (id':="dict_keyiterator.__iter__") (by kernel_rfl) (by first|rfl|decide +kernel|(unfold M9;simp +decide [Na])) (by decide +kernel) (by kernel_rfl)
theorem args_map_next(a:Value):lp "map.__next__" ⟨[a],[]⟩:=by unfold lp;kernel_rfl
theorem args_map_iter(a:Value):lp "map.__iter__" ⟨[a],[]⟩:=by unfold lp;kernel_rfl
theorem map_no_len:tW (.type "map") "__len__"=pure none:=by erw[kq,kt];kernel_rfl
theorem map_no_hint:tW (.type "map") "__length_hint__"=pure none:=by erw[kq,kt];kernel_rfl
theorem sub_map:nO (.type "map") (.type "map")=pure true:=by erw[iD];kernel_rfl
end MF
noncomputable abbrev gw(t f:Addr):Obj:={cls:=.type "map",dict:=none,data:=.fields #[.ref t,.ref f]}
noncomputable abbrev jp(it:Addr):Obj:={cls:=.type "tuple",data:=.seq #[.ref it]}
theorem WY(f l:Addr)(ol:Obj)(items:Array Value)(n:Nat)(hc:ol.cls=.type "list") (hd:ol.data=.seq items n) :
  Meets (Builtin.«map.__new__» ⟨[.type "map",.ref f,.ref l],[]⟩) (λ_ R s=>s.heap.get? l=some ol/\R (.ok (.ret (.ref (s.heap.objs.size+1+1))))
   {s with heap:=((s.heap.push (jg l 0)).push (jp s.heap.objs.size)).push (gw (s.heap.objs.size+1) f)}):=
 .of_wp λprog w A R s q7=>e02 q7 λhl h=>by
  clear q7;obtain ⟨hp,g,d,tk,os⟩:=s;have xi:=MF.sub_map;have hL:Heap.IsList hp l items:=⟨_,hl,hc,n,hd⟩;dsimp only at h hl;rw[show hp.objs.size+1+1=((hp.push (jg l 0)).push (jp hp.objs.size)).objs.size from by erw[dS,dS]] at h;rw[show gw (hp.objs.size+1) f=gw (hp.push (jg l 0)).objs.size f from by erw[dS]] at h
  wp_walk using wY hL
  exact ⟨_,rfl,h⟩
section
variable{prog:gf}{w:gh}{A:Around}{E:Value->Shared->Prop}{s:Shared}
theorem WZ{f l:Addr}{items:Array Value}{Q:Value->Shared->Prop}(hL:s.heap.IsList l items)
  (h:Q (.ref (s.heap.objs.size+1+1)) {s with heap:=((s.heap.push (jg l 0)).push (jp s.heap.objs.size)).push (gw (s.heap.objs.size+1) f)}) :
  aj (av prog w) A (call (.type "map") [.ref f,.ref l]) Q E s:=by
 refine e13 hL ?_;clear hL;intro ol hl hc aC;refine e11 aC λn hd=>?_;refine callType_new MF.called_map (by decide) (MF.typeCall_map_2 _ _) (MF.newCall_map_2 _ _) (λobj=>F.args_object_init_3 obj _ _) MF.entry_map_new (WY f l ol items n hc hd) ⟨hl,?_⟩;refine ⟨⟨gw (s.heap.objs.size+1) f,?_,rfl⟩,h⟩;have:=co ((s.heap.push (jg l 0)).push (jp s.heap.objs.size)) (o:=gw (s.heap.objs.size+1) f) rfl
 rwa[dS,dS] at this
theorem W0{m t f:Addr}{Q:Value->Shared->Prop}(hm:s.heap.get? m=some (gw t f))(h:Q (.ref m) s):aj (av prog w) A (rH (.ref m)) Q E s:=by
 have hT:s.TypeIs (.ref m) "map":=⟨_,hm,rfl⟩;refine Om hT MF.slot_map_iter (mh MF.slot_map_iter hT MF.entry_map_iter ?_ (MF.args_map_iter _));show aj _ _ (ret (.ref m)) _ _ s;exact am ⟨_,rfl,"map",_,hT,MF.slot_map_next.lookup,h⟩
end
section
variable{prog:gf}{w:gh}{A:Around}{E:Value->Shared->Prop}{s:Shared}
theorem W1{m t f it la:Addr}{j:Nat}{items:Array Value}{x:Value}{Q:Option Value->Shared->Prop}(hm:s.heap.get? m=some (gw t f))(ht:s.heap.get? t=some (jp it))(Pq:it≠m)(hit:s.heap.IsListIter it la j)(hl:s.heap.IsList la items)(hx:items[j]?=some x)
  (hc:∀h',h'.IsListIter it la (j+1)->fK it s.heap h'->aj (av prog w) A.in1 (call (.ref f) [x]) (λv s'=>Q (some v) s') (λzz zz=>False) {s with heap:=h'}) :
  aj (av prog w) A (fP (.ref m)) Q E s:=by
 have hT:s.TypeIs (.ref m) "map":=⟨_,hm,rfl⟩;unfold fP;refine ag (A8 (tQ (name:=l8 "__next__") hT MF.slot_map_next
  (mh MF.slot_map_next hT MF.entry_map_next ?_ (MF.args_map_next _))))
 show aj _ _ (tX (.ref m) 0 >>= _) _ _ s;refine ag (mi hm rfl (x:=.ref t) rfl ?_);refine ag (ln ht rfl ?_);simp only[E5,zP,EB];refine ag (ag (ag (cu ?_)));refine wpAny_nextOf_list_item hit hl hx λh' sh hs=>?_;refine am (am ?_);have QD:h'.get? m=some (gw t f):=(hs.2 m (bV Pq)).trans hm;refine ag (mi QD rfl (x:=.ref f) rfl (ag (cu ?_)));refine ba (hc h' sh hs) (λv s' hq=>?_) λzz zz q=>q.elim;refine ag (nT (am ⟨v,rfl,?_⟩));exact am hq
theorem W2{m t f it la:Addr}{j:Nat}{items:Array Value}{Q:Option Value->Shared->Prop}(hh:A.handled=none)(hm:s.heap.get? m=some (gw t f))(ht:s.heap.get? t=some (jp it))(hit:s.heap.IsListIter it la j)(hl:s.heap.IsList la items)(hx:items[j]?=none)
  (hQ:∀h',mO it s.heap h'->Q none {s with heap:=h'}):aj (av prog w) A (fP (.ref m)) Q E s:=by
 have hT:s.TypeIs (.ref m) "map":=⟨_,hm,rfl⟩;unfold fP;refine ag (A8 (tQ (name:=l8 "__next__") hT MF.slot_map_next
  (mh MF.slot_map_next hT MF.entry_map_next ?_ (MF.args_map_next _))))
 show aj _ _ (tX (.ref m) 0 >>= _) _ _ s;refine ag (mi hm rfl (x:=.ref t) rfl ?_);refine ag (ln ht rfl ?_);simp only[E5,zP,EB];refine ag (ag (ag (cu ?_)));refine wpAny_nextOf_list_end (A:=A.in1) hh hit hl hx λh' e hs he=>?_;refine e12 he ?_;intro o ho hc;refine ag (FP (T:="StopIteration") (b:=true) ⟨o,ho,hc⟩ Jv ?_);exact am (hQ h' hs)
end
structure mC(Γ:Gam)(ρ:List Addr)(a:Addr):Prop where
 off:a∉ρ
 base:Γ.base.get? a=none
theorem W3:∀{l:List AV} {xs:List Cps} {j:Nat} {d:AV},gM l=some xs->l[j]?=some d->∃c,d=.str c:=λ{l}=>by
 induction l with
 |nil=>
  intro _ j d _ h;simp at h
 |cons a l ih=>
  intro xs j d hs h;refine e12 (ey hs) ?_;clear hs;intro c e1 hs;refine e12 (fN.mp hs) λys hr _=>?_;induction j using jv with
  |zero=>exact ⟨c,(l5 h).symm.trans (Ct e1)⟩
  |succ j=>exact ih hr h
structure W4(Γ:Gam)(A:Around)(ρ₀:List Addr)(s₀:Shared)(H:List AO)(l:List AV)(m t f it la S:Addr)(j:Nat)(ρ:List Addr)(s:Shared)(aa:List Value)(c:Nat):Prop where
 st:Step (frs A) [it,S] ρ₀ ρ s₀.heap s.heap
 h:SimH Γ ρ H s
 tr:Tr Γ A.frames ρ s.heap
 hm:s.heap.get? m=some (gw t f)
 ht:s.heap.get? t=some (jp it)
 hit:s.heap.IsListIter it la j
 hS:s.heap.get? S=some (dj aa c)
 hr:VReps ρ s.heap (l.take j) aa
 om:mC Γ ρ m
 ot:mC Γ ρ t
 oi:mC Γ ρ it
 oS:mC Γ ρ S
section
variable{Γ:Gam}{A:Around}{ρ₀:List Addr}{s₀:Shared}{H:List AO}{l:List AV}{m t f it la S n:Nat}{R:gH->Shared->Prop}
theorem W5(hR:Room 3 A){xs:List Cps}(mr:∀c,FnSpec Γ 2 f [.str c] H (.str c) H)(hn:H[n]?=some (.list l))(uR:gM l=some xs)(hz:l.length<=100000)(xn:it≠m)(uK:it≠S)(BK:S≠m)(Bf:it≠t)(QJ:S≠t)(qa:Value) :
  ∀(d j:Nat) (ρ:List Addr) (s:Shared) (aa:List Value) (c:Nat),l.length-j=d->j<=l.length->ρ[n]?=some la->W4 Γ A ρ₀ s₀ H l m t f it la S j ρ s aa c ->
   (∀ae s' je c',Step (frs A) [it,S] ρ₀ ae s₀.heap s'.heap->SimH Γ ae H s'->s'.heap.get? S=some (dj je c')->VReps ae s'.heap l je->mC Γ ae S->R (.ok (.ret qa)) s') ->
   cM (av Γ.prog Γ.w) A (.builtin "list.extend.loop" ⟨[.ref S,.ref m,qa],[]⟩) R s:=by
 intro d;induction d with
 |zero=>
  intro j ρ s aa c hd hj i9 M hq;have pA:j=l.length:=fJ hj (oY hd);clear hj hd;subst pA;refine ij Nb ?_;erw[iz Am _];refine e22 (M.h.hp.list hn i9) λws k gl rx=>?_;have nI:∀o,s.heap.get? it=some o->¬ cz o:=λo e=>by
   refine e13 M.hit λo' e1 e2 e3=>?_;exact gL e1 e2 e3 (by decide) (by decide) (by decide) o e
  refine ag (ba (jT (E:=λzz zz=>False) (Q:=λr s'=>r=none/\∃h',mO it s.heap h'/\s'={s with heap:=h'}) (W2 (A:=A.in1) (hR.one.none_ (by decide)) M.hm M.ht M.hit (dk gl) (by simp[rx.length]) λh' hx=>⟨rfl,h',hx,rfl⟩)) (λr s' qq=>?_) λzz zz q=>q.2.elim)
  refine e03 qq ?_;clear qq;intro bz e1 aC;refine e12 aC λh' hx e2=>?_;subst e1 e2;have imm:ImmLe s.heap h':=λb o i q=>by
   by_cases hb:b=it
   ·clear hx uK M xn Bf hq;subst hb;exact absurd i (nI o q)
   ·exact hx b o hb q
  have sb:SBut it s {s with heap:=h'}:=⟨λb o hb e=>hx b o hb e,imm,bz,rfl,rfl⟩
  refine am (hq ρ _ aa c (M.st.trans (sb.step aG)) (sb.h M.h M.oi.off M.oi.base) (hx _ _ (bV uK) M.hS) ?_ M.oS);have:=M.hr;rw[wH] at this;exact VReps.mono (.refl _) imm _ _ this
 |succ d ih=>
  intro j ρ s aa c hd hj i9 M hq;have pA:j<l.length:=nK hd;refine ij Nb ?_;erw[iz Am _];refine e22 (M.h.hp.list hn i9) λws k gl rx=>?_;have eU:=rx.length;have BP:l[j]?=some l[j]:=eE pA;refine e12 (rx.get BP) λx hx rv=>?_;refine e11 (W3 uR BP) λcc qc=>?_;rw[qc] at rv;refine e11 rv ?_;clear rv;intro tk aI;subst aI;have nI:∀o,s.heap.get? it=some o->¬ cz o:=λo e=>by
   refine e13 M.hit λo' e1 e2 e3=>?_;exact gL e1 e2 e3 (by decide) (by decide) (by decide) o e
  refine ag (W1 (A:=A.in1) M.hm M.ht xn M.hit (dk gl) (x:=.str (ao cc) tk) (by simpa using hx) λh' sh hs=>?_)
  have sb:SBut it s {s with heap:=h'}:=SBut.sb (t:=s.toks) hs nI
  have GW:Tr Γ A.frames ρ h':=M.tr.sbut (s':={s with heap:=h'}) sb λmm ⟨o,es,ep,e1,e2,_⟩=>by
   refine e13 M.hit λo' f1 f2 f3=>?_;rw[e1] at f1;(injection f1 with aS;subst aS);rw[e2] at f3;injection f3
  refine Rn.to ((mr cc).call A.in1.in1 {s with heap:=h'} ρ [.str (ao cc) tk] (⟨by have:=hR.depth;simp;exact bk this,by have:=hR.units;simp;exact ah (cr (fH (bL rfl) _)) this,λzz=>hR.none_ (by decide),hR.fr⟩) (sb.h M.h M.oi.off M.oi.base) (.cons ⟨tk,rfl⟩ VReps.nil) GW) λv aP ay aX qq=>?_
  refine e02 qq ?_;clear qq;intro Rc QL;have nX:Step (frs A) [] ρ aP h' ay.heap:=aX;have g1:∀a o,a≠it->mC Γ ρ a->¬ Cd o->s.heap.get? a=some o->ay.heap.get? a=some o:=λa o ha oa hd e=>nX.keep a o oa.off eQ (sb.keep a o ha e) hd;have pv:=g1 S _ (bV uK) M.oS (λqq=>by refine e21 qq ?_;clear qq;intro _ _ q;injection q) M.hS;have G0:ay.heap.IsListIter it la (j+1):=by
   refine e13 sh ?_;clear sh;intro o' e1 e2 e3;exact cH o' (nX.keep it o' M.oi.off eQ e1 (λqq=>by refine e21 qq ?_;clear qq;intro _ _ q;rw[e3] at q;injection q)) e2 e3
  have own:∀a o,s.heap.get? a=some o->a≠it->mC Γ ρ a->mC Γ aP a:=λa o e ha oa=>⟨qh nX (sb.keep a o ha e) oa.off,oa.base⟩;have Qo:mC Γ aP it:=by
   refine e12 sh ?_;clear sh;intro o' e1 _;exact ⟨qh nX e1 M.oi.off,M.oi.base⟩
  have BH:=own S _ M.hS (bV uK) M.oS;have pD:aa.length=j:=by have:=M.hr.length;rw[i5] at this;lia
  refine e02 (CM pv λxs=>xs.push v) λaW be=>?_;refine e11 be λc' g'=>?_;have nU:SBut S ay {ay with heap:=ay.heap.update S (ma (·.push v))}:=SBut.sb (t:=ay.toks) aW (λo e=>by rw[pv] at e;(injection e with bw;subst bw);intro q;exact absurd (show (nH "list")=.type "tuple" from q) (by decide))
  have zl:g5>=1000000:=by decide
  refine ag (nS pv rfl (am ⟨ii Am _,?_⟩) (by first|exact (by erw[dE];lia)|lia) (by first|exact (by erw[Array.size_push,dE];lia)|lia))
  refine ih (j+1) aP _ (aa++[v]) c' (congrArg pb hd) pA (nX.pre.get i9) ⟨M.st.trans ((sb.step aG).trans ((nX.widen).trans (nU.step (aL _ aG)))),nU.h Rc BH.off BH.base,(GW.step nX (by simp)).sbut nU (λmm ⟨o,es,ep,e1,e2,_⟩=>by rw[pv] at e1;(injection e1 with bA;subst bA);injection e2),
   nU.keep _ _ (bV BK) (g1 m _ (bV xn) M.om (λqq=>by refine e21 qq ?_;clear qq;intro _ _ q;injection q) M.hm),nU.keep _ _ (bV QJ) (g1 t _ (bV Bf) M.ot (λ⟨_,_,q⟩=>by injection q) M.ht),?_,?_,?_,own m _ M.hm (bV xn) M.om,own t _ M.ht (bV Bf) M.ot,Qo,BH⟩ hq
  ·refine e12 G0 ?_;clear G0;intro o' e1 e2;exact aB o' (nU.keep _ _ uK e1) e2
  ·erw[g'];simp
  ·erw[List.take_add_one,BP,qc];exact VReps.append (VReps.mono (.refl _) nU.imm _ _ (nX.vreps (VReps.mono (.refl _) sb.imm _ _ M.hr))) (.one (VRep.mono (.refl _) nU.imm _ _ QL))
end
section
variable{prog:gf}{w:gh}{A:Around}{E:Value->Shared->Prop}{s:Shared}
theorem W6{m t f:Addr}{Q:Value->Shared->Prop}(hm:s.heap.get? m=some (gw t f))
  (Ox:aj (av prog w) A.in1.in1 (A9 (.ref m)) (λvs ai=>vs.length<=100000/\Q (.ref ai.heap.objs.size) {ai with heap:=ai.heap.push {cls:=.type "tuple",data:=.seq vs.toArray}}) (λzz zz=>False) s) :
  aj (av prog w) A (call (.type "tuple") [.ref m]) Q E s:=by
 refine callType_codes (Q₁:=λv ai=>ai.TypeIs v "tuple"/\Q v ai) Fg (F.typeCall_tuple_1 _) F.entry_object_init ?_ λobj ai hq=>⟨hq.1,F.args_object_init_2 obj _,?_⟩
 ·refine tT F.plain_tuple_new F.entry_tuple_new (lm (F.newCall_tuple_1 _) ?_);obtain ⟨hp,g,d,tk,os⟩:=s;have xi:=sub_tuple_self;have Ae7:=init_tuple_lookup;have hmh:=madeHere_tuple;have hT:Mn ⟨hp,g,d,tk,os⟩ (.ref m) "map":=⟨_,hm,rfl⟩;have Re:∀{P:List Value->Shared->Prop} {E':Value->Shared->Prop},(∀vs ai,vs.length<=100000/\Q (.ref ai.heap.objs.size) {ai with heap:=ai.heap.push {cls:=.type "tuple",data:=.seq vs.toArray}}->P vs ai)->aj (av prog w) A.in1.in1 (A9 (.ref m)) P E' ⟨hp,g,d,tk,os⟩:=λh=>ba Ox (λvs ai q=>h vs ai q) λzz zz q=>q.elim
  wp_walk using EJ hm,tR hT,Re
  intro vs ai ⟨hz,hq⟩;show aj _ _ (zY vs.toArray >>= λv=>ret v) _ _ _;unfold zY;have zl:g5>=1000000:=by decide
  refine ag (gG ?_ (by show vs.toArray.size<=g5;erw[dE];exact ah hz (dL zl)));exact am ⟨⟨_,co _ rfl,rfl⟩,hq⟩
 ·exact object_init_meets Fg.init.lookup Fg.made (by decide) prog w A.in1 _ ai ⟨hq.1,rfl,hq.2⟩
theorem W7{m t f:Addr}{Q:List Value->Shared->Prop}(hm:s.heap.get? m=some (gw t f))
  (hl:∀h' c,Le s.heap h'->s.heap.objs.size<=h'.objs.size->h'.get? s.heap.objs.size=some (dj [] c)->cM (av prog w) A (.builtin "list.extend.loop" ⟨[.ref s.heap.objs.size,.ref m,.ref s.heap.objs.size],[]⟩) (λr s'=>r=.ok (.ret (.ref s.heap.objs.size))/\∃aa c',s'.heap.get? s.heap.objs.size=some (dj aa c')/\Q aa s')
   {s with heap:=h'}):aj (av prog w) A (A9 (.ref m)) Q E s:=by
 have BK:s.heap.objs.size≠m:=gF (cF hm);have h1:Nc (.ref s.heap.objs.size) (.ref m)=false:=by simp[Nc,BK]
 unfold A9;refine ag (wpAny_runValue (ij F.entry_proto_collect ?_));erw[iz F.plain_proto_collect _];show aj _ A.in1 (AG [] >>= λl=>again (.builtin "list.__iadd__" ⟨[l,.ref m],[]⟩)) _ _ s;refine ag (gG ?_);refine am ⟨ii Nf _,ij F.entry_list_iadd ?_⟩;erw[iz Nf _];have xB:(s.heap.push {cls:=.type "list",data:=.seq ([]:List Value).toArray}).get? m=some (gw t f):=du _ hm;have mW:(s.heap.push {cls:=.type "list",data:=.seq ([]:List Value).toArray}).get? s.heap.objs.size=some {cls:=.type "list",data:=.seq ([]:List Value).toArray}:=co _ rfl;have hT:∀{h':Heap},h'.get? m=some (gw t f)->({s with heap:=h'}:Shared).TypeIs (.ref m) "map":=λe=>⟨_,e,rfl⟩
 show aj _ A.in1 (Ng (.ref s.heap.objs.size) (.ref m) (.ref s.heap.objs.size)) _ _ _;unfold Ng;refine ag (tR (hT xB) ?_);have h2:(nH "map"==nH "list")=false:=by decide
 have h3:(nH "map"==nH "tuple")=false:=by decide
 simp only[h1,h2,h3,Ez,eG,if_false];refine ag (W0 xB ?_);refine ag (cu ?_);unfold Aey;refine ag (A5 (hT xB) MF.map_no_len ?_);show aj _ A.in1 (specialOf (rm m) (l8 "__length_hint__") >>= _) _ _ _;refine ag (A5 (hT xB) MF.map_no_hint ?_);refine am ?_;show aj _ A.in1 (rule "list.extend.makes-room" >>= λzz=>Aez (.ref s.heap.objs.size) >>= λzz=>
  again (.builtin "list.extend.loop" ⟨[.ref s.heap.objs.size,.ref m,.ref s.heap.objs.size],[]⟩)) _ _ _
 refine ag (mf ?_);refine ag ?_;show aj _ A.in1 (tU s.heap.objs.size (·.push .none) >>= λzz=>tU s.heap.objs.size (·.pop)) _ _ _;refine ag (nS mW rfl ?_);have pv:=gY (ma (·.push nL)) mW rfl;refine nS pv rfl ?_;refine am ⟨ii Am _,?_⟩;have Gz:=gY (ma (·.pop)) pv rfl;refine tN (hl _ _ (λb o e=>?_) ?_ Gz) λr s' ⟨e1,aa,c',g,q⟩=>?_
 ·have hb:s.heap.objs.size≠b:=gF (cF e);exact (jC _ _ hb).trans ((jC _ _ hb).trans (du _ e))
 ·refine bk (cF (h:=_) Gz)
 subst e1;show aj _ A (load s.heap.objs.size >>= _) _ _ s';refine ag (pi g ?_);exact am (by simpa using q)
end
section
variable{Γ:Gam}{k:Nat}{cx:Cx}{σ σ₁:St}
theorem W8{y m z:Str}{p1 p2 p3 p4 p5:Pos}{v:aY}{f n:Nat}{l:List AV}{xs:List Cps}(hk:6<=k)(mr:∀H c,FnSpec Γ 2 f [.str c] H (.str c) H)
  (hy:Ev Γ k cx σ (.Name y p1) (.typ "tuple") σ) (hm:Ev Γ k cx σ (.Name m p2) (.typ "map") σ) (hz:Ev Γ k cx σ (.Name z p3) (.fn f) σ) (gq:dA v=false) (hv:Ev Γ k cx σ v (.loc n) σ₁) (hl:σ₁.heap[n]?=some (.list l)) (uR:gM l=some xs) (cN:okL l.length=true) :
  Ev Γ k cx σ (.Call (.Name y p1) [.Call (.Name m p2) [.Name z p3,v] [] p4] [] p5) (.tup l) σ₁:=λA env s ρ R x=>by
 have pI:=dm cN;have Ov:∀s ρ,Sim Γ A.frames cx ρ σ env s->Rn Γ A (ownOf cx env) ρ s (eval (.Call (.Name m p2) [.Name z p3,v] [] p4) env) λu ae s'=>∃ai la,Step (frs A) (ownOf cx env) ρ ae s.heap ai.heap/\Sim Γ A.frames cx ae σ₁ env ai/\ae[n]?=some la/\u=.ref (ai.heap.objs.size+1+1)/\s'={ai with heap:=((ai.heap.push (jg la 0)).push (jp ai.heap.objs.size)).push (gw (ai.heap.objs.size+1) f)}:=λs ρ x=>by
  erw[AI];refine Rn.bind (hm A env s ρ R x) λw az ai aV q7=>e02 q7 λap aU=>?_;cases (show w=_ from aU);have hp:gt [Nh z p3,v]=true:=by simp[gt,gq];rfl
  refine xY (first:=[]) Callee.type hp ?_
  have es:Es Γ k cx σ [Nh z p3,v] [.fn f,.loc n] σ₁:=Es.cons hz (Es.cons hv Es.nil gq) rfl;refine Rn.mono (es A env ai az p4 R ap) λvs aP ay aX q7=>e02 q7 λaH b6=>⟨aH.h.base,?_⟩;refine e23 (gO b6) λa b aC ea aI=>?_;subst aC;refine e12 aI λla aS i9=>?_;subst aS;cases (show a=_ from ea);refine e22 (aH.h.hp.list hl i9) λws j g rx=>?_;refine WZ (dk g) ⟨aP,(SLe.trans (SLe.trans (SLe.push ay _ ay.toks) (SLe.push _ _ ay.toks)) (SLe.push _ _ ay.toks)).step,ay,la,aV.trans aX,aH,i9,rfl,rfl⟩
 erw[AI];refine Rn.bind (hy A env s ρ R x) λw az ai aV q7=>e02 q7 λap aU=>?_;cases (show w=_ from aU);show aj (av Γ.prog Γ.w) A (rJ p5 (.type "tuple") [] [(false,eval (.Call (.Name m p2) [.Name z p3,v] [] p4) env)] []) _ _ ai;refine PySem.callWith_type rfl (LY (LU (Rn.to (Ov ai az ap) λu aP bS zz qq=>?_)));refine e23 qq ?_;clear qq;intro ay la aX aH be;refine e03 be λi9 eu es=>?_;subst eu es;show aj (av Γ.prog Γ.w) A (pure []) _ _ _;refine am ?_;clear zz;obtain ⟨bv,gg,dd,tt,oo⟩:=ay;have z0:∀a,bv.objs.size<=a->mC Γ aP a:=λa ha=>⟨λq=>absurd (aH.h.hp.lt q) (bQ.mpr ha),by
  cases e:Γ.base.get? a with
  |none=>rfl
  |some o=>exact absurd (cF (aH.h.base _ _ e)) (bQ.mpr ha)⟩
 dsimp only at *;have g1:(bv.push (jg la 0)).get? bv.objs.size=some (jg la 0):=co _ rfl;have g2:((bv.push (jg la 0)).push (jp bv.objs.size)).get? (bv.objs.size+1)=some (jp bv.objs.size):=by
  have:=co (bv.push (jg la 0)) (o:=jp bv.objs.size) rfl
  rwa[dS] at this
 generalize ug:((bv.push (jg la 0)).push (jp bv.objs.size)).push (gw (bv.objs.size+1) f)=fi;have GX:fi.objs.size=bv.objs.size+1+1+1:=by erw[<- ug,dS,dS,dS]
 have g3:fi.get? (bv.objs.size+1+1)=some (gw (bv.objs.size+1) f):=by
  have:=co ((bv.push (jg la 0)).push (jp bv.objs.size)) (o:=gw (bv.objs.size+1) f) rfl
  rwa[dS,dS,ug] at this
 have p8:fi.get? (bv.objs.size+1)=some (jp bv.objs.size):=by erw[<- ug];exact du _ g2
 have pC:fi.get? bv.objs.size=some (jg la 0):=by erw[<- ug];exact du _ (du _ g1)
 have QV:Le bv fi:=by erw[<- ug];exact ((Le.push _ _).trans (Le.push _ _)).trans (Le.push _ _)
 refine W6 g3 (W7 g3 λh' c ue Hi gS=>?_);dsimp only at ue Hi gS;have R3:Room 3 A.in1.in1:=⟨by have:=R.depth;simp;exact ah (cr (fH (ah (bL rfl) hk) _)) this,by have:=R.units;simp;lia,λzz=>R.none_ (by lia),R.fr⟩;have le:=QV.trans ue;have OS:bv.objs.size<=h'.objs.size:=ah (bk (bk (bk (aE GX.symm)))) Hi;refine W5 (A:=A.in1.in1) (s₀:=⟨bv,gg,dd,tt,oo⟩) (ρ₀:=aP) (H:=σ₁.heap) (l:=l) (m:=bv.objs.size+1+1) (t:=bv.objs.size+1) (f:=f) (it:=bv.objs.size) (la:=la) (S:=fi.objs.size) (n:=n) R3 (mr _) hl uR pI
  (λq=>b5 (bK _ _) q) (by lia) (by lia) (by lia) (by lia) _ l.length 0 aP ⟨h',gg,dd,tt,oo⟩ [] c rfl (bW _) i9
  ⟨.of_le le OS,aH.h.le le rfl rfl,aH.tr.le le,ue _ _ g3,ue _ _ p8,⟨_,ue _ _ pC,rfl,rfl⟩,gS,VReps.nil,z0 _ (bk (bK _ _)),z0 _ (bK _ _),z0 _ (by lia),z0 _ (by lia)⟩ λae s' je c' ee S' Px uJ oS'=>⟨rfl,je,c',Px,?_,?_⟩
 ·erw[uJ.length];exact pI
 ·have sl:=SLe.push s' {cls:=.type "tuple",data:=.seq je.toArray} s'.toks;have Q9:Step (frs A) [bv.objs.size,fi.objs.size] aP ae bv s'.heap:=ee;have PV:Step (frs A) [] aP ae bv s'.heap:=Ci (.refl _) (aq _) (λa ha=>by
   simp at ha;rcases ha with rfl|rfl
   ·exact aq _
   ·exact bk (bk (bk (aE GX.symm)))) (λa ha=>.inl ha) Q9
  have stC:Step (frs A) [] aP ae bv (s'.heap.push {cls:=.type "tuple",data:=.seq je.toArray}):=PV.trans sl.step;refine ⟨ae,aX.trans stC.widen,aH.step stC (by simp) (sl.h S'),_,je,0,rfl,co _ rfl,VReps.mono (.refl _) sl.le.imm _ _ uJ⟩
end
noncomputable abbrev Dd(b:Bool):Obj:={cls:=.type "set",dict:=none,data:=.set #[] 0 (.fresh 0 0 (!b))}
noncomputable def nq(b:Bool):SetTable:={mask:=7,place:=#[1],dummies:=#[],finger:=0,led:=!b,moves:=0,plain:=true}
theorem W9(b:Bool):layNew (.fresh 0 0 (!b)) #[] 1 (.bool true)=(#[(1,.bool true)],nq b,false,false):=by cases b<;>rfl
theorem Xa(b:Bool):(nq b).tooFull=false:=by cases b<;>rfl
section
variable{prog:gf}{w:gh}{A:Around}{E:Value->Shared->Prop}{s:Shared}
theorem Jy{Q:Int->Shared->Prop}(hu:A.units+1<fO)(h:∀tk,Q 1 {s with toks:=tk}):aj (av prog w) A (pyHash (.bool true)) Q E s :=
 pyHash_laid (.bool true) _ A s Q rfl (.bool true) (by simp only[WData.depth];exact bk hu) h
theorem Xb{Q:Bool->Shared->Prop}(h:Q true s):aj (av prog w) A (AT (.bool true) (.bool true)) Q E s:=by
 unfold AT;exact cu (ag (mf (am h)))
theorem Xc{D:Addr}{b:Bool}{Q:Value->Shared->Prop}(hu:A.units+10<fO)(hD:s.heap.get? D=some (Dd b))(h:∀tk,Q .none {s with heap:=s.heap.update D (Fh #[(1,.bool true)] (nq b)),toks:=tk}) :
  aj (av prog w) A (call (.builtin "set.add") [.ref D,.bool true]) Q E s:=by
 have hT:s.TypeIs (.ref D) "set":=⟨_,hD,rfl⟩;refine mh Ni hT Nj ?_ (Nk _ _);show aj _ A.in1 (Ba D (.bool true) >>= λzz=>ret .none) _ _ s;refine ag ?_;unfold Ba;refine cu (ag (Jy (by simp;exact ah (cr (fH (bL rfl) _)) hu) λtk=>?_));unfold setAddHashed On;refine cu (ag (tZ hD rfl rfl ?_));dsimp only;erw[show byScan (.bool true) #[]=true from by decide +kernel];simp only[↓reduceIte];unfold setAddByScan;refine ag (ag (mf ?_));refine ag (am ?_);dsimp only;erw[W9];dsimp only;have hp:(nq b).plain=true:=rfl;refine ag (am ?_);erw[hp];simp only[↓reduceIte];refine ag (am ?_);simp only[↓reduceIte,Xa,qY,eG];refine ag (wpAny_storeSet_of hD rfl (am ?_) (by decide));dsimp only;exact am (am ⟨_,rfl,h tk⟩)
theorem Xd{h:Heap}{D:Addr}{b:Bool}(hD:h.get? D=some (Dd b)):∃ep,(h.update D (Fh #[(1,.bool true)] (nq b))).get? D=some {cls:=.type "set",dict:=none,data:=.set #[(1,.bool true)] ep (nq b)} :=
 ⟨_,gY _ hD rfl⟩
noncomputable abbrev jZ(b:Bool)(ep:Nat):Obj:={cls:=.type "set",dict:=none,data:=.set #[(1,.bool true)] ep (nq b)}
theorem mD(b:Bool):(nq b).fits 1=true:=by cases b<;>rfl
theorem Xe{D:Addr}{b:Bool}{ep:Nat}{Q:Value->Shared->Prop}(hu:A.units+10<fO)(hD:s.heap.get? D=some (jZ b ep))(h:∀tk,Q .none {s with toks:=tk}) :
  aj (av prog w) A (call (.builtin "set.add") [.ref D,.bool true]) Q E s:=by
 have hT:s.TypeIs (.ref D) "set":=⟨_,hD,rfl⟩;refine mh Ni hT Nj ?_ (Nk _ _);show aj _ A.in1 (Ba D (.bool true) >>= λzz=>ret .none) _ _ s;refine ag ?_;unfold Ba;refine cu (ag (Jy (by simp;exact ah (cr (fH (bL rfl) _)) hu) λtk=>?_));unfold setAddHashed On;refine cu (ag (tZ hD rfl (mD b) ?_));dsimp only;erw[show byScan (.bool true) #[(1,.bool true)]=true from by decide +kernel];simp only[↓reduceIte];unfold setAddByScan;refine ag (ag (mf ?_));refine ag (m:=setScan _ _ _ _ _) ?_;show aj _ _ (setScanFrom D (.bool true) 1 true [(1,.bool true)] 0) _ _ _;unfold setScanFrom;simp only[beq_self_eq_true,↓reduceIte];refine ag (Oo hD rfl (mD b) (ag (Xb ?_)));simp only[Bool.and_self,↓reduceIte];refine am (am ?_);dsimp only;exact am (am ⟨_,rfl,h tk⟩)
end
namespace SI
theorem z0j:Slot "set_iterator" "__iter__" "set_iterator.__iter__" :=
 .of (owner:="set_iterator") (n:="__iter__") (by erw[kq,kt];kernel_rfl) (by decide +kernel) (by decide +kernel) (by decide +kernel)
  (by first|exact .inl (by decide +kernel)|exact .inr (by decide +kernel)) (by erw[iD];kernel_rfl)
theorem slot_si_next:Slot "set_iterator" "__next__" "set_iterator.__next__" :=
 .of (owner:="set_iterator") (n:="__next__") (by erw[kq,kt];kernel_rfl) (by decide +kernel) (by decide +kernel) (by decide +kernel)
  (by first|exact .inl (by decide +kernel)|exact .inr (by decide +kernel)) (by erw[iD];kernel_rfl)
theorem entry_set_iter:nP nQ "set.__iter__"=some Builtin.«frozenset.__iter__» :=
 Ol (id':="frozenset.__iter__") (by kernel_rfl) (by first|rfl|decide +kernel|(unfold M9;simp +decide [Na])) (by decide +kernel) (by kernel_rfl)
theorem entry_si_next:nP nQ "set_iterator.__next__"=some Builtin.«set_iterator.__next__»:=rN (by kernel_rfl)
theorem args_set_iter(a:Value):lp "set.__iter__" ⟨[a],[]⟩:=by unfold lp;kernel_rfl
theorem args_si_next(a:Value):lp "set_iterator.__next__" ⟨[a],[]⟩:=by unfold lp;kernel_rfl
end SI
noncomputable abbrev vI(D:Addr)(slot i:Int)(ep:Nat):Obj:={cls:=.type "set_iterator",data:=.fields #[kg slot,kg i,.ref D,kg 1,kg ep]}
section
variable{prog:gf}{w:gh}{A:Around}{E:Value->Shared->Prop}{s:Shared}
theorem Xf(b:Bool){Q:Bool->Shared->Prop}{D:Addr}{ep:Nat}(hD:s.heap.get? D=some (jZ b ep))(h:Q false s):aj (av prog w) A (setDrawn D) Q E s:=by
 unfold setDrawn;refine ag (tZ hD rfl (mD b) ?_);unfold Bb;refine ag (ag (pr (am ?_)));refine am ?_;show Q (_&&false) s;erw[qY];exact h
theorem Xg{b:Bool}{Q:Value->Shared->Prop}{D:Addr}{ep:Nat}(hD:s.heap.get? D=some (jZ b ep))(h:Q (.ref s.heap.objs.size) {s with heap:=s.heap.push (vI D 0 0 ep)}):aj (av prog w) A (rH (.ref D)) Q E s:=by
 have hT:s.TypeIs (.ref D) "set":=⟨_,hD,rfl⟩;refine Om hT Fi (mh Fi hT SI.entry_set_iter ?_ (SI.args_set_iter _));show aj _ A.in1 (Nl D >>= _) _ _ s;unfold Nl;refine ag (ag (FR hD rfl (mD b) (am ?_)));refine ag (Xf b hD ?_);simp only[eG,↓reduceIte];refine ag (am (ag (Oo hD rfl (mD b) (ag ?_))));unfold newFields;refine gG ?_ (by size_fits);exact am ⟨_,rfl,"set_iterator",_,⟨_,co _ rfl,rfl⟩,SI.slot_si_next.lookup,h⟩
end
theorem Xh{α:Type}(f:Nat->Nat)(x:α):pickOrder f #[x]=#[x]:=by
 unfold pickOrder;simp[pickOrder.go,Nat.mod_one]
noncomputable def nx1(b:Bool):Int:=if b then 0 else 2
section
variable{prog:gf}{w:gh}{A:Around}{E:Value->Shared->Prop}{s:Shared}
theorem Jz{b:Bool}{D:Addr}{ep:Nat}{Q:Array (Int × Value)->Shared->Prop}(hb:w.params.followText "set-order"=b) (hD:s.heap.get? D=some (jZ b ep)) (h:Q #[(1,.bool true)] s):aj (av prog w) A (setWalk D) Q E s:=by
 unfold setWalk;refine ag (tZ hD rfl (mD b) ?_);unfold Bb;refine ag (ag (pr (am ?_)));show aj _ _ (if w.params.followText "set-order"=true then _ else _) _ _ _
 erw[hb];induction b using dN with
 |true=>
  simp only[↓reduceIte];refine ag (pr (am ?_));erw[Xh];exact h
 |false=>
  simp only[eG,↓reduceIte];show aj _ _ (if false=true then _ else (pure () >>= λzz=>_)) _ _ _
  erw[if_neg (by decide)];exact ag (am (am h))
theorem Xi{b:Bool}{D:Addr}{ep:Nat}{Q:Option (Value × Nat)->Shared->Prop}(hb:w.params.followText "set-order"=b) (hD:s.heap.get? D=some (jZ b ep)) (h:Q (some (.bool true,(nx1 b).toNat)) s):aj (av prog w) A (Bc D 0 0 ep) Q E s:=by
 unfold Bc;refine ag (tZ hD rfl (mD b) ?_);unfold Bb;refine ag (ag (pr (am ?_)));show aj _ _ (if w.params.followText "set-order"=true then _ else _) _ _ _
 erw[hb];induction b using dN with
 |true=>
  simp only[↓reduceIte,bne_self_eq_false,eG];exact ag (Jz hb hD (am h))
 |false=>
  simp only[eG,↓reduceIte];show aj _ _ (if false=true then _ else (pure () >>= λzz=>pure _)) _ _ _
  erw[if_neg (by decide)];exact ag (am (am h))
theorem Xj{b:Bool}{D:Addr}{ep:Nat}{Q:Option (Value × Nat)->Shared->Prop}(hb:w.params.followText "set-order"=b) (hD:s.heap.get? D=some (jZ b ep)) (h:Q none s):aj (av prog w) A (Bc D (nx1 b).toNat 1 ep) Q E s:=by
 unfold Bc;refine ag (tZ hD rfl (mD b) ?_);unfold Bb;refine ag (ag (pr (am ?_)));show aj _ _ (if w.params.followText "set-order"=true then _ else _) _ _ _
 erw[hb];induction b using dN with
 |true=>
  simp only[↓reduceIte,bne_self_eq_false,eG];exact ag (Jz hb hD (am h))
 |false=>
  simp only[eG,↓reduceIte];show aj _ _ (if false=true then _ else (pure () >>= λzz=>pure _)) _ _ _
  erw[if_neg (by decide)];exact ag (am (am h))
theorem Xk{b:Bool}{D I:Addr}{ep:Nat}{Q:Option Value->Shared->Prop}(hb:w.params.followText "set-order"=b) (hDI:D≠I) (hD:s.heap.get? D=some (jZ b ep)) (hI:s.heap.get? I=some (vI D 0 0 ep))
  (h:∀h',h'.get? I=some (vI D (nx1 b) 1 ep)->fK I s.heap h'->Q (some (.bool true)) {s with heap:=h'}):aj (av prog w) A (fP (.ref I)) Q E s:=by
 have hT:s.TypeIs (.ref I) "set_iterator":=⟨_,hI,rfl⟩;unfold fP;refine ag (A8 (tQ (name:=l8 "__next__") hT SI.slot_si_next
  (mh SI.slot_si_next hT SI.entry_si_next ?_ (SI.args_si_next _))))
 show aj _ A.in1 (Be (.ref I) >>= _) _ _ s;unfold Be;refine ag (ag (pi hI (am ?_)));dsimp only;refine ag (FR hD rfl (mD b) ?_);erw[if_neg (by decide)];refine ag (Xi hb hD ?_);dsimp only;refine ag (tY hI rfl (by simp) ?_);have p9:=gY (Aj (·.setIfInBounds 0 (kg (nx1 b).toNat))) hI rfl;refine ag (tY p9 rfl (by simp) ?_);have n6:=gY (Aj (·.setIfInBounds 1 (kg (0+1)))) p9 rfl;refine am ⟨.bool true,rfl,am (h _ ?_ ((mc ..).trans (mc ..)))⟩;refine n6.trans ?_;induction b using dN<;>rfl
theorem Xl{b:Bool}{D I:Addr}{ep:Nat}{Q:Option Value->Shared->Prop}(hh:A.handled=none)(hb:w.params.followText "set-order"=b) (hD:s.heap.get? D=some (jZ b ep)) (hI:s.heap.get? I=some (vI D (nx1 b) 1 ep))
  (h:∀h',mO I s.heap h'->Q none {s with heap:=h'}):aj (av prog w) A (fP (.ref I)) Q E s:=by
 have hT:s.TypeIs (.ref I) "set_iterator":=⟨_,hI,rfl⟩;unfold fP;refine ag (A8 (tQ (name:=l8 "__next__") hT SI.slot_si_next
  (mh SI.slot_si_next hT SI.entry_si_next ?_ (SI.args_si_next _))))
 show aj _ A.in1 (Be (.ref I) >>= _) _ _ s;unfold Be;refine ag (ag (pi hI (am ?_)));dsimp only;refine ag (FR hD rfl (mD b) ?_);erw[if_neg (by decide)];refine ag (Xj hb hD ?_);dsimp only;refine ag (tY hI rfl (by simp) ?_);show aj _ _ (A6 (.type "StopIteration") [] >>= _) _ _ _;refine ag ?_;simp only[A6,tI];refine ag (gG ?_ (by size_fits));refine ag (m:=A7 _ _) (lm (a:=nL) (by first|rfl|(simp only[A7];rfl)) ?_)
 refine gG ?_ (by size_fits);simp only[raiseNew];refine ag (wpAny_handled ?_);erw[show A.in1.handled=none from hh];refine ag (am (wpAny_throw ?_));refine ag (FP (T:="StopIteration") (b:=true) ⟨_,co _ rfl,rfl⟩ isSubtype_stop ?_);exact am (h _ (((mc ..).extBut.push _).push _))
theorem Xm{b:Bool}{D:Addr}{ep:Nat}{Q:List Value->Shared->Prop}(hh:A.handled=none)(hb:w.params.followText "set-order"=b) (hD:s.heap.get? D=some (jZ b ep))
  (h:∀h',(∀a o,s.heap.get? a=some o->h'.get? a=some o)->Q [.bool true] {s with heap:=h'}):aj (av prog w) A (FS (.ref D) 1 none) Q E s:=by
 have hT:s.TypeIs (.ref D) "set":=⟨_,hD,rfl⟩;have aM:=cF hD;unfold FS;refine ag ?_;unfold Oi;refine ag (A5 hT Fi.lookup ?_);refine am ?_;simp only[eG,if_false];refine ag (cu (Xg hD ?_));have F9:(s.heap.push (vI D 0 0 ep)).get? D=some (jZ b ep):=du _ hD;refine ag (cu ?_);show aj _ _ (fP (.ref s.heap.objs.size) >>= _) _ _ _;refine ag (Xk hb (b5 aM) F9 (co _ rfl) λbf p9 pW=>?_);refine ag (cu (am (am ?_)));erw[if_neg (by simp)];have PO:bf.get? D=some (jZ b ep):=(pW.2 D (b5 aM)).trans F9;refine ag (cu (Xl hh hb PO p9 λbv xH=>?_));simp only[Option.isSome_none,eG,if_false];refine am (h bv λa o e=>?_);have bB:a≠s.heap.objs.size:=b5 (cF e);exact xH a o bB ((pW.2 a bB).trans (du _ e))
end
theorem Xn(elt target iter:aY)(scope:dg)(pos:Pos)(it aa:Value)(env:Env) :
  AM (.SetComp elt [⟨target,iter,[],0⟩] scope pos) 0 it aa env=(standAt iter.pos >>= λzz=>fP it >>= λr=>match r with
   |none=>pure (.done .next)
   |some v=>tJ target it v >>= λzz=>assign target env v >>= λzz=>
    (eval elt env >>= λx=>standAt elt.pos >>= λzz=>call (.builtin "set.add") [aa,x] >>= λzz=>pure ()) >>= λzz=>
     again (.compLoop (.SetComp elt [⟨target,iter,[],0⟩] scope pos) 0 it aa env)):=by rfl
def SetSt(b:Bool)(D:Addr)(n:Nat)(h:Heap):Prop:=(n=0/\h.get? D=some (Dd b))\/(0<n/\∃ep,h.get? D=some (jZ b ep))
section
variable{Γ:Gam}{k:Nat}[NeZero k]{cx ci:Cx}{σ bE σ₁ aw cJ:St}{A:Around}{env:Env}{s:Shared}{ρ:List Addr}{scope:dg}
theorem Xo{prog:gf}{w:gh}{R:gH->Shared->Prop}{elt target iter:aY}{ifs:List aY}{rest:List ik}{pos:Pos}{it aa:Value}
  (h0:cM (av prog w) A (.compLoop (.SetComp elt (⟨target,iter,ifs,0⟩::rest) scope pos) 0 it aa env) R s)
  (h:aj (av prog w) A (rH it) (λuN s'=>cM (av prog w) A (.compLoop (.SetComp elt (⟨target,iter,ifs,0⟩::rest) scope pos) 0 uN aa env) R s')
   (notedBy (av prog w) A env λx s'=>R (.error x) s') s) :
  cM (av prog w) A (.compStart (.SetComp elt (⟨target,iter,ifs,0⟩::rest) scope pos) 0 it aa env) R s:=by
 refine pj ?_;show aj _ A ((compStart (.SetComp elt (⟨target,iter,ifs,0⟩::rest) scope pos) 0 it aa env).onRaise (λx=>do rM x env;standAt theWindowsPlace)) _ _ s
 refine wpAny_notedAt ?_;unfold compStart;show aj _ _ (ask >>= _) _ _ s;refine ag (pr (wpAny_ite ?_));split
 ·first
   |exact ag (am (am (cV rfl h0)))
   |exact am (cV rfl h0)
 ·first
   |exact ag (mf (ag (gZ (ag (ba h (λuN s' h'=>am (cV rfl h')) λzz zz x=>x)))))
   |(refine ag (mf ?_);show aj _ _ (standAt iter.pos >>= _) _ _ s;exact ag (gZ (ag (ba h (λuN s' h'=>am (cV rfl h')) λzz zz x=>x))))
theorem SetSt.obj{b:Bool}{D:Addr}{n:Nat}{h:Heap}(x:SetSt b D n h):∃o es ep t,h.get? D=some o/\o.data=.set es ep t:=by
 rcases x with ⟨_,e⟩|⟨_,ep,e⟩
 ·exact Ca _ _ _ _ e rfl
 ·exact Ca _ _ _ _ e rfl
theorem SetSt.keep{b:Bool}{D:Addr}{n:Nat}{h h':Heap}(x:SetSt b D n h)(hk:∀o,h.get? D=some o->h'.get? D=some o):SetSt b D n h' :=
 x.imp (λq=>⟨q.1,hk _ q.2⟩) λq=>⟨q.1,q.2.imp λzz e=>hk _ e⟩
def vJ(b:Bool)(aa:List AV)(D:Addr)(ρ:List Addr)(h:Heap):Prop:=SetSt b D aa.length h
noncomputable def yI(Γ:Gam)(elt:aY):ov:=λA D env P s=>
 aj (av Γ.prog Γ.w) A (eval elt env) (λx cj=>aj (av Γ.prog Γ.w) A (call (.builtin "set.add") [.ref D,x]) (λzz s₅=>P s₅) (λzz zz=>False) cj) (λzz zz=>False) s
theorem Xp{elt target iter:aY}{pos:Pos}(ht:vg target=true):CK Γ (.SetComp elt [⟨target,iter,[],0⟩] scope pos) target iter [] (newSet (.type "set")) (yI Γ elt) (vJ (Γ.w.params.followText "set-order")) [] where
 cl:=rfl
 new A s Q h:=ag (ag (pr (am (gG (h _ rfl λρ h D e=>.inl ⟨rfl,e⟩) (by size_fits)))))
 keep h _ _ hk:=SetSt.keep h hk
 obj h:=let ⟨o,_,_,_,e,_⟩:=SetSt.obj h;⟨o,e⟩
 start A it aa env R s:=Xo
 turn A I D env R s h:=by
  refine pj ?_;show aj _ A ((AM (.SetComp elt [⟨target,iter,[],0⟩] scope pos) 0 (.ref I) (.ref D) env).onRaise (λx=>do rM x env;FK x)) _ _ s
  refine tK ?_;erw[Xn];refine ag (gZ (ag (wk (ba h (λr ai bf=>?_) λzz zz q=>q))));induction r using dF with
  |none=>exact am bf
  |some v=>
   exact ag (lm (Cp ht _ v) (ag (wk (ba bf (λzz ay bv=>ag (ag (wk (ba bv (λx cj fj=>ag (gZ (ag (wk (ba fj (λzz s₅ uo=>am (am ⟨rfl,uo⟩)) λzz zz q=>q))))) λzz zz q=>q)))) λzz zz q=>q))))
theorem Xq{b:Bool}{elt:aY}{aa:List AV}(he:Ev Γ k cx σ elt (.bool true) σ₁):kG Γ k cx (vJ b) (yI Γ elt) σ aa σ₁ (aa++[.bool true]):=λA env s ρ D P R x d kk h=>by
 refine Rn.to (he A env s ρ R x) λw az ai st q=>?_;cases (show w=.bool true from q.2);have uA:SetSt b D aa.length ai.heap:=SetSt.keep kk λo e=>d.keep st e;refine e42 (SetSt.obj kk) λ_ _ _ _ e0 _=>?_;have dX:=d.step st e0;refine e42 uA.obj λoD esD epD tD eD dD=>?_;have nI:∀o,ai.heap.get? D=some o->¬ cz o:=λo e=>by rw[eD] at e;(injection e with aC;subst aC);unfold cz;erw[dD];exact id
 have hu:A.units+10<fO:=by have:=R.units;exact ah (cr (aF (bK _ _) (bL rfl))) this
 have fin:∀{s₅:Shared},SBut D ai s₅->SetSt b D (aa.length+1) s₅.heap->P s₅:=λ{s₅} sb' k₅=>by
  refine h az _ ⟨(st.widen' λa ha=>aL D ha).trans (sb'.step aG),dX.sim q.1 sb' λv c=>?_,dX,?_⟩
  ·refine e12 c ?_;intro o f1 f2;rw[eD] at f1;(injection f1 with aI;subst aI);rw[dD] at f2;injection f2
  ·unfold vJ;erw[bx];exact k₅
 rcases uA with ⟨hz,e0⟩|⟨hz,ep,e0⟩
 ·exact Xc hu e0 λtk=>fin (s₅:={ai with heap:=ai.heap.update D (Fh #[(1,.bool true)] (nq b)),toks:=tk}) (SBut.sb (mc ..) nI) (.inr ⟨Ag _,Xd e0⟩)
 ·exact Xe hu e0 λtk=>fin (s₅:={ai with toks:=tk}) (SBut.sb (h':=ai.heap) (Ae0 ..) nI) (.inr ⟨Ag _,ep,e0⟩)
end
section
variable{Γ:Gam}{k:Nat}[NeZero k]{cx ci:Cx}{σ bE σ₁ aw cJ:St}{A:Around}{env:Env}{s:Shared}{ρ:List Addr}{scope:dg}
theorem Xr{x:Str}{i tn ep:Nat}{p1 p2:Pos}{D:Addr}{H:List AO}(R:Room k A)(hD:s.heap.get? D=some (jZ (Γ.w.params.followText "set-order") ep)) (ap:Sim Γ A.frames cx ρ ⟨σ.vars,H⟩ env s) (mT:dK cx x=some i) :
  Rn Γ A (ownOf cx env) ρ s (do qW (.Tuple [.Name x p1] tn p2) env (.ref D);pure EC) λf ae s'=>Sim Γ A.frames cx ae ⟨σ.vars.set i (some (.bool true)),H⟩ env s'/\oq ae s'.heap Fl.next f:=by
 erw[N8];refine ag (ag (gZ ?_));unfold unpack;show aj _ A (holding [.ref D] (FS (.ref D) 1 none) >>= _) _ _ s;refine ag (cu (ba (jT (E:=λzz zz=>False) (Q:=λus s'=>us=[.bool true]/\∃h',s'={s with heap:=h'}/\Le s.heap h') (Xm R.handled rfl hD λh' hk=>⟨rfl,h',rfl,hk⟩)) (λus ay qq=>?_) λzz zz q=>q.2.elim))
 refine e03 qq ?_;clear qq;intro bz e1 aC;refine e12 aC λh' e2 le=>?_;subst e1 e2;have sl:SLe s {s with heap:=h'}:=⟨le,bz,rfl,rfl⟩
 refine e02 (vF mT) λs1 s2=>?_;show aj _ A (do holding [] (qW (.Name _ p1) env (.bool true));assignInOrder [] []) _ _ _
 refine ag (cu (Rn.to (As.name (k:=k) (pos:=p1) s1 s2 A env _ ρ (.bool true) R (sl.sim ap) (show VRep ρ h' (.bool true) (.bool true) from rfl)) λzz dz bS cK cD=>?_));refine am (am ⟨dz,sl.step.trans cK,cD,rfl⟩)
theorem Xs{x:Str}{i tn:Nat}{target elt iter:aY}{p1 p2 pos jc:Pos}{d:AV}{items out:List AV}{cv:List AO->Prop}(C:su cx scope ci)(h1:Ev Γ k cx σ iter d σ₁)(hi:IterP Γ d σ₁.heap items cv)
  (hv:∀y i,(y,i)∈ci.vis->((y,NameKind.local)∈scope.names\/(y,eF)∈scope.names)->∀d:AV,σ₁.vars[i]?≠some (some d)) (L:Tn Γ k ci target cv (kG Γ k ci (vJ (Γ.w.params.followText "set-order")) (yI Γ elt)) items [] σ₁ out aw) (bB:out.length≠0)
  (ht:vg target=true) (hs:∀env x,rI iter env x=pure x) (mT:dK cx x=some i) :
  Ex1 Γ k cx σ (.Assign [.Tuple [.Name x p1] tn p2] (.SetComp elt [⟨target,iter,[],0⟩] scope pos) jc) .next ⟨σ₁.vars.set i (some (.bool true)),aw.heap⟩:=λA env s ρ R x=>by
 erw[w5];refine ag (gZ ?_);have sw:AJ [.Tuple [.Name ‹Str› p1] tn p2] (.SetComp elt [⟨target,iter,[],0⟩] scope pos) jc.line env=pure false:=rfl;erw[sw];refine ag (am ?_);simp only[eG,if_false];have Bw:eval (.SetComp elt [⟨target,iter,[],0⟩] scope pos) env=AL (.SetComp elt [⟨target,iter,[],0⟩] scope pos) scope env (FL [⟨target,iter,[],0⟩] pos) (newSet (.type "set")) false (eval iter env) none:=rfl;erw[Bw];refine ag (Cr (Xp ht) C h1 hi hv L hs R x λD Cc s' ae h kk=>⟨h.ns.choose,h.ns.choose_spec,λh' aW=>?_⟩);refine e13 (h.none.then_ aW) λaz aV ap _=>?_;obtain ⟨q,_⟩|⟨_,ep,hD⟩:=kk
 ·exact absurd q bB
 erw[vf rfl];refine ag (am ?_);exact Rn.to (Xr (p1:=p1) (p2:=p2) (tn:=tn) R ((aW.2 _ (b5 h.dC)).trans hD) ap mT) λf aP ay aX q=>⟨aP,aV.trans aX,q⟩
end
section
variable{Γ:Gam}{k:Nat}[NeZero k]{S:Sys}
theorem JA(mr:∀f,S.T.idf=some f->6<=k/\∀H c,FnSpec Γ 2 f [.str c] H (.str c) H):Apart Γ k S :=
 ⟨λn l i H h=>WF h,λcx σ σ₁ y m z p1 p2 p3 p4 p5 v f n l xs hf hy hm hz gq hv hl uR cN=>W8 (mr f hf).1 (mr f hf).2 (qz hy) (qz hm) (qz hz) gq hv hl uR cN⟩
theorem Xt{d:AV}{f:Nat->Prop}(h:d.onN f):∃i,d=.nxt i/\f i:=by induction d using Mine.AV.casesOn<;>first|exact aB _ rfl h|exact h.elim
theorem Xu{o:Option AO}{f:Nat->Nat->Prop}(h:x9 o f):∃m j,o=some (.iter m j)/\f m j:=by
 rcases o with _|o
 ·exact h.elim
 ·induction o using Mine.AO.casesOn<;>first|exact bZ _ _ rfl h|exact h.elim
theorem JB(TO:eX Γ.K S.T):sN Γ k S:=by
 refine ⟨λn cx nx x y p0 p1 p2 p3 p4 p5 p6 p7 f1 f2 hb i d s t vs H P I hx hy hp h=>?_,λn cx nx x y p1 p2 p4 p5 p6 tn elt iter scope i j vs H P I hc rT hx hy h=>?_⟩
 ·refine e32 (I.v h) ?_;clear h;intro w bT bO h1 h;refine e12 (Xt h) ?_;clear h;intro n' aC h;subst aC;refine e22 (Xu h) ?_;clear h;intro m jj hn h;refine e12 (iS h) ?_;clear h;intro l hl h;by_cases hj:jj<l.length
  ·rw[dif_pos hj,sA] at h;exact bc _ _ _ (WU (σ₁:=⟨bT,bO⟩) hx h1 hn hl (eE hj)) h
  ·rw[dif_neg hj] at h;refine e22 (WG (Γ:=Γ) (k:=0) TO hp h) ?_;clear h;intro cw bY h2 h;exact bc _ _ _ (WV (σ₁:=⟨bT,bO⟩) TO hy hp h1 hn hl (qV (bQ.mp hj)) h2) h
 ·refine e32 (I.v h) ?_;clear h;intro d1 bT bO h1 h;refine e13 (IterP.of (Γ:=Γ) h) ?_;clear h;intro src aI hb h;refine e02 aI λi1 i2=>?_;obtain ⟨out,cw,bY,h2,rfl,h⟩:=Ji (k:=k) (T:=kG Γ k _ (vJ (Γ.w.params.followText "set-order")) (yI Γ elt)) (λσ d=>qy (k:=k) (p:=p4) hy) (λ{aa vs H Q} _ h=>by
   refine e33 (I.v h) ?_;clear h;intro y cw bY h2 aS h;subst aS;exact bc (some _) cw bY (Xq (k:=k) h2) h) src.items [] (by erw[fu,i0];exact ah i2 (by decide)) h
  rw[sA] at h;exact bc _ _ _ (Xs (sM hc) h1 i1 (vG hb hc) h2 (by decide) rfl (qx rT) hx) h
end
structure Pd(fd:i8)(t:Addr):Prop where
 po:fd.params.posonlyargs=[]
 ar:fd.params.args.map (·.arg)=[("self":Str),"graph"]
 va:fd.params.vararg=none
 ko:fd.params.kwonlyargs=[]
 kw:fd.params.kwarg=none
 df:fd.defaults=.ref t
theorem Xv{M:me}{A:Around}{E:Value->Shared->Prop}{s:Shared}{nm qu:Str}{a1 a2:Option aY}{p1 p2:Pos}{kd:List (Option aY)}{df:List aY}{bd:FuncBody}{sc:dg}{gl t:Addr}{cl:List (Str × Addr)}{uF d1 d2:Value}{an:Option Addr}{c1 c2:Value}{bl:Addr}{v:Value}{Q:List (Str × Value)->Shared->Prop}
  {o:Obj} {n:Nat} (ht:s.heap.get? t=some o) (hd:o.data=.seq #[.none] n) (hq:Q [("self",v),("graph",.none)] s) :
  aj M A (wZ ⟨nm,qu,⟨[],[⟨"self",a1,p1⟩,⟨"graph",a2,p2⟩],none,[],kd,none,df⟩,bd,sc,gl,cl,.ref t,uF,d1,d2,an,c1,c2,bl⟩ ⟨[v],[]⟩) Q E s:=by
 show aj _ _ (nR (.ref t) >>= _) _ _ _;exact ag (ln ht hd (am hq))
theorem Xw{M:me}{A:Around}{E:Value->Shared->Prop}{s:Shared}{fd:i8}{t:Addr}{o:Obj}{n:Nat}{v:Value}{Q:List (Str × Value)->Shared->Prop}(h:Pd fd t)(ht:s.heap.get? t=some o)(hd:o.data=.seq #[.none] n)(hq:Q [("self",v),("graph",.none)] s) :
  aj M A (wZ fd ⟨[v],[]⟩) Q E s:=by
 obtain ⟨h1,h2,h3,h4,h5,h6⟩:=h;obtain ⟨nm,qu,⟨po,ar,F7,ko,kd,kw,df⟩,bd,sc,gl,cl,Q6,uF⟩:=fd;subst h1;subst h3;subst h4;subst h5;subst h6;rcases ar with _|⟨⟨x,_,_⟩,_|⟨⟨y,_,_⟩,_|⟨z,r⟩⟩⟩
 ·exact nomatch h2
 ·exact nomatch (wI h2).2
 ·refine e02 (wI h2) λe1 e2=>?_;subst e1;cases (wI e2).1;exact Xv ht hd hq
 ·exact nomatch (wI (wI h2).2).2
section
variable{Γ:Gam}
theorem BindR.dflt{fd:i8}{t:Addr}{o:Obj}{n:Nat}{x:AV}{H:List AO}(h:Pd fd t)(hK:Γ.K.lookup t=some o)(hd:o.data=.seq #[.none] n):BindR Γ fd [x] H [("self",x),("graph",.none)]:=λA s ρ vs R S r=>by
 refine e12 (gN r) λv aC rv=>?_;subst aC;exact Xw h (S.base _ _ (Γ.inK _ _ hK)) hd ⟨.refl _,v,_,rfl,rv,.none,_,rfl,rfl,rfl⟩
end
noncomputable section
structure cn where
 ps:List Str
 va:Option Str
 df:Bool
 vis:List (Str × Nat)
 n:Nat
 body:MB
noncomputable def JC:Value->Bool
 |.none=>true
 |_=>false
theorem Xx{v:Value}(h:JC v=true):v=.none:=by
 induction v using Ai<;>first|rfl|(injection h;done)
noncomputable def Xy:Data->Option Bool
 |.seq a _=>(iU a.toList).bind λv=>ogd (JC v) true
 |_=>none
noncomputable def De(K:Frag)(d:Value):Option Bool:=match d with
 |.none=>some false
 |.ref t=>(K.lookup t).bind λo=>Xy o.data
 |_=>none
noncomputable def sQ(K:Frag)(a:Nat):Option cn:=(vC K a).bind λfd=>(De K fd.defaults).bind λdf=>
 ogd (Da K a&&fd.params.posonlyargs.isEmpty&&fd.params.kwonlyargs.isEmpty&&fd.params.kwarg.isNone&&jm (fd.params.args.map (·.arg)++(fd.params.vararg.map (·.arg)).toList) &&
    (fd.params.args.map (·.arg)++(fd.params.vararg.map (·.arg)).toList).all (λx=>(fX fd.scope.names).contains x))
  ⟨fd.params.args.map (·.arg),fd.params.vararg.map (·.arg),df,(oF fd.scope).vis,(oF fd.scope).n,yF K a⟩
noncomputable def sR(I:cn)(args:List AV):Option (List (Str × AV)):=match I.va with
 |none=>if I.df=true then (iU args).bind λx=>ogd (decide (I.ps=[("self":Str),"graph"])) [("self",x),("graph",.none)] else ogd (decide (args.length=I.ps.length)) (I.ps.zip args)
 |some v=>ogd (!I.df&&decide (I.ps.length<=args.length)&&okL args.length) (I.ps.zip args++[(v,.tup (args.drop I.ps.length))])
noncomputable def Df(vis:List (Str × Nat))(n:Nat)(ds:List (Str × AV)):List (Option AV):=(bn n).map λi=>(vis.find? (·.2==i)).bind λp=>ds.lookup p.1
def sS(S:Sys)(I:cn)(args:List AV)(H:List AO)(P:AV->List AO->Prop):Prop:=Wp (sR I args) λds=>WB S I.body (Df I.vis I.n ds) H (sP P)
noncomputable abbrev Cls:=Nat->Option (Nat × Bool)
def nr(F:Nat->Option cn)(T:eW)(C:Cls):Nat->Nat->List AV->List AO->(AV->List AO->Prop)->Prop
 |0,_,_,_,_=>False
 |n+1,a,args,H,P=>match C a with
  |some fb=>Wp (F fb.1) λI=>sS ⟨nr F T C n,T⟩ I (.loc (H.length+1)::args) (H++[.ns [],if fb.2 then .inst a H.length else .slots a H.length []]) λd H'=>d=.none/\P (.loc (H.length+1)) H'
  |none=>Wp (F a) λI=>sS ⟨nr F T C n,T⟩ I args H P
structure JD(K:Frag)(C:Cls):Prop where
 ok:∀c f b,C c=some (f,b)->makesIn K c=true/\ki K (.ref c) "__init__"=some (some (.ref f))/\AY K (.ref f)=some (.type "function")/\(∃oc od cd sl,K.lookup c=some ⟨oc,od,.cls cd,sl⟩)/\rO K (.ref c) "__call__"=some (some (.builtin "type.__call__"))
section
variable{Γ:Gam}{k:Nat}[NeZero k]{S:Sys}
theorem Xz{α:Type}[BEq α][LawfulBEq α]:∀{a b:List α},jm (a++b)=true->jm a=true:=λ{a}=>by
 induction a with
 |nil=>
  intro _ _;exact rfl
 |cons x a ih=>
  intro b h;simp only[Fj,jm,ie,mP] at h ⊢;refine ⟨?_,ih h.2⟩;cases hc:a.contains x with
  |false=>rfl
  |true=>
   have h1:=h.1;have:(a++b).contains x=true:=by simp at hc ⊢;exact .inl hc
   rw[this] at h1;injection h1
theorem JE{K:Frag}{d:Value}(h:De K d=some false):d=.none:=by
 induction d using Ai<;>first|rfl|(injection h;done)|skip
 refine e12 (bg h) ?_;clear h;intro o _ h;obtain ⟨oc,od,dt,sl⟩:=o;induction dt using Fe<;>first|(injection h;done)|skip
 refine e12 (bg h) ?_;clear h;intro v _ h;exact nomatch (gu h).2
theorem XA{K:Frag}{d:Value}(h:De K d=some true):∃t oc od m sl,d=.ref t/\K.lookup t=some ⟨oc,od,.seq ⟨[.none]⟩ m,sl⟩:=by
 induction d using Ai<;>first|((first|(injection h with zq;injection zq)|injection h);done)|skip
 refine e12 (bg h) ?_;clear h;intro o h1 h;obtain ⟨oc,od,dt,sl⟩:=o;induction dt using Fe<;>first|(injection h;done)|skip
 rename_i a m;refine e12 (bg h) ?_;clear h;intro v h2 h;cases Xx (gu h).1;obtain ⟨l⟩:=a;cases (show l=[.none] from jo h2);exact ⟨_,_,_,_,_,rfl,h1⟩
theorem Dg{a:Nat}{I:cn}{args:List AV}{H:List AO}{P:AV->List AO->Prop}(jK:qw Γ k S)(TO:eX Γ.K S.T)(TF:nb Γ.K S.T)(AP:Apart Γ k S)(AS:sN Γ k S)(hI:sQ Γ.K a=some I)(h:sS S I args H P):∃d H',FnSpec Γ (k+1) a args H d H'/\P d H':=by
 refine e12 (bg hI) ?_;clear hI;intro fd e1 hI;refine e12 (bg hI) ?_;clear hI;intro df e8 hI;refine e02 (gu hI) λg aI=>?_;subst aI;refine e02 (gR g) ?_;clear g;intro g e7;refine e02 (gR g) ?_;clear g;intro g e6;refine e02 (gR g) ?_;clear g;intro g e5;refine e02 (gR g) ?_;clear g;intro g e4;refine e02 (gR g) λe2 e3=>?_;replace e3:=i6.mp e3;replace e4:=i6.mp e4;replace e5:=M5.mp e5;refine e12 (c7 h) ?_;clear h;intro ds fS h;have fin:=λhB hn hp=>FnSpec.run (ds:=ds) (args:=args) (P:=P) jK TO TF AP AS e1 e2 hB hn hp h;unfold sR at fS;dsimp only at fS;cases uw:fd.params.vararg.map (·.arg) with
 |none=>
  rw[uw] at fS e6 e7;rw[Option.toList_none,c9] at e6 e7;induction df using dN with
  |false=>
   refine e02 (gu fS) ?_;clear fS;intro hl fS;clear h;subst fS;have hl:=of_decide_eq_true hl;have hm:(wv (·.1) ((fd.params.args.map (·.arg)).zip args))=fd.params.args.map (·.arg):=Nm (aE hl.symm);exact fin (BindR.pos ⟨e3,rfl,uw,e4,e5,JE e8⟩ e6 hl) (hm.symm▸e6) (hm.symm▸e7)
  |true=>
   refine e12 (bg fS) ?_;clear fS;intro x hx fS;clear h;refine e02 (gu fS) λjM aS=>?_;subst aS;cases jo hx;have jM:=of_decide_eq_true jM;refine e41 (XA e8) λt oc od m be=>?_;refine e12 be λsl ht hK=>?_;rw[jM] at e6 e7;exact fin (BindR.dflt ⟨e3,jM,Fa.mp uw,e4,e5,ht⟩ hK rfl) e6 e7
 |some v=>
  rw[uw] at fS e6 e7;refine e02 (gu fS) ?_;clear fS;intro hc fS;subst fS;refine e02 (gR hc) ?_;clear hc;intro hc hz;refine e02 (gR hc) λhf hl=>?_;cases kM hf;have hl:=of_decide_eq_true hl;have hm:(wv (·.1) ((fd.params.args.map (·.arg)).zip args++[(v,AV.tup (args.drop (fd.params.args.map (·.arg)).length))]))=fd.params.args.map (·.arg)++[v]:=by
   erw[cf,Nm hl];rfl
  exact fin (BindR.var ⟨e3,rfl,uw,e4,e5,JE e8⟩ (Xz e6) hl (ah (dm hz) (by decide))) (hm.symm▸e6) (hm.symm▸e7)
end
end
section
variable{Γ:Gam}{T:eW}{C:Cls}
theorem XB{a:Nat}{I:cn}(h:sQ Γ.K a=some I):Callee Γ (.ref a):=by
 refine e12 (bg h) λfd e1 _=>?_;refine e31 (Jm e1) λoc od mX hK=>?_;exact Callee.fn hK
noncomputable def vK(T:eW):eW:={T with idf:=none}
theorem XC{F:Nat->Option cn}(hF:∀a I,F a=some I->sQ Γ.K a=some I)(mr:∀f,T.idf=some f->∀H c,FnSpec Γ 2 f [.str c] H (.str c) H)(TO:eX Γ.K T)(TF:nb Γ.K T)(CO:JD Γ.K C):∀n,qw Γ (2*n+6) ⟨nr F T C n,T⟩:=λn=>by
 induction n with
 |zero=>exact  λa args H P h=>h.elim
 |succ n ih=>
  have ih:=ih;have AP:Apart Γ (2*n+6) ⟨nr F T C n,T⟩:=JA λf hf=>⟨zF _ _,mr f hf⟩;have AS:sN Γ (2*n+6) ⟨nr F T C n,T⟩:=JB TO;intro a args H P h;dsimp only at h;unfold nr at h;cases hc:C a with
  |some fb=>
   obtain ⟨f,b⟩:=fb;rw[hc] at h;refine e05 (CO.ok _ _ _ hc) λc1 c2 c3 aC c5=>?_;refine e41 aC λoc od cd sl c4=>?_;refine e12 (c7 h) ?_;clear h;intro I hI h;refine e23 (Dg ih TO TF AP AS (hF _ _ hI) h) ?_;clear h;intro d H2 fs aI h;subst aI;refine bZ _ _ ⟨(FnSpec.cls c1 c2 c3 ?_ fs trivial).le (aq (2*n+8)),Callee.cls c4 c5⟩ h;induction b using dN
   ·exact .inr rfl
   ·exact .inl rfl
  |none=>
   rw[hc] at h;refine e12 (c7 h) ?_;clear h;intro I hI h;refine e22 (Dg ih TO TF AP AS (hF _ _ hI) h) ?_;clear h;intro d H2 fs h;exact bZ _ _ ⟨fs.le (jD _),XB (hF _ _ hI)⟩ h
theorem XD{f:Nat}{I:cn}{args:List AV}{H:List AO}{P:AV->List AO->Prop}(TO:eX Γ.K (vK T))(TF:nb Γ.K (vK T))(hI:sQ Γ.K f=some I)(h:sS ⟨λzz zz zz zz=>False,vK T⟩ I args H P):∃d H',FnSpec Γ 2 f args H d H'/\P d H' :=
 Dg (k:=1) (λa args H P h=>False.elim h) TO TF (JA λf hf=>by injection hf) (JB TO) hI h
end
noncomputable abbrev i28:cn:={ps:=["a","b"],va:=none,df:=false,vis:=[("a",0),("b",1)],n:=10,body:=(.cons (.ret (.bin .Add (.var 0) (.var 1)))
  .nil)}
noncomputable abbrev i35:cn:={ps:=["a","b"],va:=none,df:=false,vis:=[("a",0),("b",1)],n:=10,body:=(.cons (.ret (.bin .BitXor (.var 0) (.var 1)))
  .nil)}
noncomputable abbrev i42:cn:={ps:=["a","b"],va:=none,df:=false,vis:=[("a",0),("b",1)],n:=10,body:=(.cons (.ret (.idx (.var 0) (.var 1)))
  .nil)}
noncomputable abbrev i49:cn:={ps:=["a","b","c"],va:=none,df:=false,vis:=[("a",0),("b",1),("c",2)],n:=11,body:=(.cons (.asg (.ix (.var 0) (.var 1)) (.var 2))
  .nil)}
noncomputable abbrev i242:cn:={ps:=["path"],va:=none,df:=false,vis:=[("path",0),("kind",1),("hook",2),("given",3)],n:=12,body:=(.cons (.asg (.nm 1) (.call (.typ "type") (.cons (.var 0) .nil)))
  (.cons (.ite (.val (.call (.bi "issubclass") (.cons (.var 1) (.cons (.tup (.cons (.glb (.typ "str")) (.cons (.glb (.typ "bytes")) .nil))) .nil)))) (.cons (.ret (.var 0))
   .nil) .nil)
  (.cons (.exp (.call (.fn 235) (.cons (.var 1) .nil)))
  (.cons (.asg (.nm 2) (.call (.bi "getattr") (.cons (.var 1) (.cons (.cst (.str [95,95,102,115,112,97,116,104,95,95])) (.cons (.cst (.none)) .nil)))))
  (.cons (.ite (.cmp (.var 2) .Is (.cst (.none))) (.cons .bad
   .nil) .nil)
  (.cons (.ite (.cmp (.call (.typ "type") (.cons (.var 2) .nil)) .IsNot (.call (.typ "type") (.cons (.glb (.fn 176)) .nil))) (.cons (.exp (.call (.fn 21) (.cons (.cst (.int 6)) .nil)))
   .nil) .nil)
  (.cons (.asg (.nm 3) .bad)
  (.cons (.ite (.val (.call (.bi "issubclass") (.cons (.call (.typ "type") (.cons (.var 3) .nil)) (.cons (.tup (.cons (.glb (.typ "str")) (.cons (.glb (.typ "bytes")) .nil))) .nil)))) (.cons (.ret (.var 3))
   .nil) .nil)
  (.cons (.ite (.cmp (.call (.bi "len") (.cons (.mth (.att (.var 1) "__name__") "encode" (.cons (.cst (.str [117,116,102,45,56])) .nil)) .nil)) .Gt (.cst (.int 200))) (.cons (.exp (.call (.fn 21) (.cons (.cst (.int 7)) .nil)))
   .nil) .nil)
  (.cons .bad
  .nil))))))))))}
noncomputable abbrev XE:cn:={ps:=["path"],va:=none,df:=false,vis:=[("path",0)],n:=9,body:=(.cons (.ite (.val (.call (.bi "isinstance") (.cons (.var 0) (.cons (.glb (.typ "bytes")) .nil)))) (.cons (.ret .bad)
   .nil) (.cons (.ret (.cst (.str [47])))
   .nil))
  .nil)}
noncomputable abbrev XF:cn:={ps:=["a"],va:=some "p",df:=false,vis:=[("a",0),("p",1),("sep",2),("path",3),("b",4)],n:=13,body:=(.cons (.asg (.nm 0) (.call (.fn 242) (.cons (.var 0) .nil)))
  (.cons (.asg (.nm 2) (.call (.fn 256) (.cons (.var 0) .nil)))
  (.cons (.asg (.nm 3) (.var 0))
  (.cons (.tryB (.cons (.for_ (.nm 4) (.var 1) (.cons (.asg (.nm 4) (.call (.fn 242) (.cons (.var 4) .nil)))
    (.cons (.ite (.all .Or (.cons (.val (.mth (.var 4) "startswith" (.cons (.var 2) .nil))) (.cons (.not (.val (.var 3))) .nil))) (.cons (.asg (.nm 3) (.var 4))
     .nil) (.cons (.ite (.val (.mth (.var 3) "endswith" (.cons (.var 2) .nil))) (.cons (.aug 3 .Add (.var 4))
      .nil) (.cons (.aug 3 .Add (.bin .Add (.var 2) (.var 4)))
      .nil))
     .nil))
    .nil)) .nil)
   .nil))
  (.cons (.ret (.var 3))
  .nil)))))}
noncomputable abbrev XG:cn:={ps:=["p"],va:=none,df:=false,vis:=[("p",0),("sep",1),("empty",2)],n:=11,body:=(.cons (.asg (.nm 0) (.call (.fn 242) (.cons (.var 0) .nil)))
  (.cons (.ite (.val (.call (.bi "isinstance") (.cons (.var 0) (.cons (.glb (.typ "bytes")) .nil)))) (.cons (.asg (.nm 1) .bad)
   (.cons (.asg (.nm 2) .bad)
   .nil)) (.cons (.asg (.nm 1) (.cst (.str [47])))
   (.cons (.asg (.nm 2) (.cst (.str [])))
   .nil)))
  (.cons (.ite (.cmp (.slc (.var 0) .no (.so (.cst (.int 1))) .no) .NotEq (.var 1)) (.cons (.ret (.tup (.cons (.var 2) (.cons (.var 2) (.cons (.var 0) .nil)))))
   .nil) (.cons (.ite (.all .Or (.cons (.cmp (.slc (.var 0) (.so (.cst (.int 1))) (.so (.cst (.int 2))) .no) .NotEq (.var 1)) (.cons (.cmp (.slc (.var 0) (.so (.cst (.int 2))) (.so (.cst (.int 3))) .no) .Eq (.var 1)) .nil))) (.cons (.ret (.tup (.cons (.var 2) (.cons (.var 1) (.cons (.slc (.var 0) (.so (.cst (.int 1))) .no .no) .nil)))))
    .nil) (.cons (.ret (.tup (.cons (.var 2) (.cons (.slc (.var 0) .no (.so (.cst (.int 2))) .no) (.cons (.slc (.var 0) (.so (.cst (.int 2))) .no .no) .nil)))))
    .nil))
   .nil))
  .nil)))}
noncomputable abbrev XH:cn:={ps:=["p"],va:=none,df:=false,vis:=[("p",0),("sep",1),("i",2),("head",3)],n:=12,body:=(.cons (.asg (.nm 0) (.call (.fn 242) (.cons (.var 0) .nil)))
  (.cons (.asg (.nm 1) (.call (.fn 256) (.cons (.var 0) .nil)))
  (.cons (.asg (.nm 2) (.bin .Add (.mth (.var 0) "rfind" (.cons (.var 1) .nil)) (.cst (.int 1))))
  (.cons (.asg (.nm 3) (.slc (.var 0) .no (.so (.var 2)) .no))
  (.cons (.ite (.all .And (.cons (.val (.var 3)) (.cons (.cmp (.var 3) .NotEq (.bin .Mult (.var 1) (.call (.bi "len") (.cons (.var 3) .nil)))) .nil))) (.cons (.asg (.nm 3) (.mth (.var 3) "rstrip" (.cons (.var 1) .nil)))
   .nil) .nil)
  (.cons (.ret (.var 3))
  .nil))))))}
noncomputable abbrev i284:cn:={ps:=["path"],va:=none,df:=false,vis:=[("path",0),("sep",1),("dot",2),("dotdot",3),("_",4),("initial_slashes",5),("comps",6),("new_comps",7),("comp",8)],n:=17,body:=(.cons (.asg (.nm 0) (.call (.fn 242) (.cons (.var 0) .nil)))
  (.cons (.ite (.val (.call (.bi "isinstance") (.cons (.var 0) (.cons (.glb (.typ "bytes")) .nil)))) (.cons (.asg (.nm 1) .bad)
   (.cons (.asg (.nm 2) .bad)
   (.cons (.asg (.nm 3) .bad)
   .nil))) (.cons (.asg (.nm 1) (.cst (.str [47])))
   (.cons (.asg (.nm 2) (.cst (.str [46])))
   (.cons (.asg (.nm 3) (.cst (.str [46,46])))
   .nil))))
  (.cons (.ite (.not (.val (.var 0))) (.cons (.ret (.var 2))
   .nil) .nil)
  (.cons (.asg (.tp [4,5,0]) (.call (.fn 270) (.cons (.var 0) .nil)))
  (.cons (.asg (.nm 6) (.mth (.var 0) "split" (.cons (.var 1) .nil)))
  (.cons (.asg (.nm 7) (.lst .nil))
  (.cons (.for_ (.nm 8) (.var 6) (.cons (.ite (.all .Or (.cons (.not (.val (.var 8))) (.cons (.cmp (.var 8) .Eq (.var 2)) .nil))) (.cons .cont
    .nil) .nil)
   (.cons (.ite (.all .Or (.cons (.cmp (.var 8) .NotEq (.var 3)) (.cons (.all .And (.cons (.not (.val (.var 5))) (.cons (.not (.val (.var 7))) .nil))) (.cons (.all .And (.cons (.val (.var 7)) (.cons (.cmp (.idx (.var 7) (.un .USub (.cst (.int 1)))) .Eq (.var 3)) .nil))) .nil)))) (.cons (.exp (.mth (.var 7) "append" (.cons (.var 8) .nil)))
    .nil) (.cons (.ite (.val (.var 7)) (.cons (.exp (.mth (.var 7) "pop" .nil))
     .nil) .nil)
    .nil))
   .nil)) .nil)
  (.cons (.asg (.nm 6) (.var 7))
  (.cons (.asg (.nm 0) (.bin .Add (.var 5) (.mth (.var 1) "join" (.cons (.var 6) .nil))))
  (.cons (.ret (.bop .Or (.var 0) (.var 2)))
  .nil))))))))))}
noncomputable abbrev i289:cn:={ps:=["paths"],va:=none,df:=false,vis:=[("paths",0),("sep",1),("curdir",2),("split_paths",3),("isabs",4),("c",5),("s1",6),("s2",7),("common",8),("i",9),("prefix",10)],n:=19,body:=(.cons (.asg (.nm 0) (.tmap 242 (.var 0)))
  (.cons (.ite (.not (.val (.var 0))) (.cons .bad
   .nil) .nil)
  (.cons (.ite (.val (.call (.bi "isinstance") (.cons (.idx (.var 0) (.cst (.int 0))) (.cons (.glb (.typ "bytes")) .nil)))) (.cons (.asg (.nm 1) .bad)
   (.cons (.asg (.nm 2) .bad)
   .nil)) (.cons (.asg (.nm 1) (.cst (.str [47])))
   (.cons (.asg (.nm 2) (.cst (.str [46])))
   .nil)))
  (.cons (.tryB (.cons (.asg (.nm 3) (.lcp (.mth (.var 11) "split" (.cons (.var 1) .nil)) 11 (.var 0) .no [11]))
   (.cons (.tryB (.cons (.setU 4 (.mth (.var 11) "startswith" (.cons (.var 1) .nil)) 11 (.var 0) [11])
    .nil))
   (.cons (.asg (.nm 3) (.lcp (.lcp (.var 12) 12 (.var 11) (.so (.all .And (.cons (.val (.var 12)) (.cons (.cmp (.var 12) .NotEq (.var 2)) .nil)))) [12]) 11 (.var 3) .no [11]))
   (.cons (.asg (.nm 6) (.call (.bi "min") (.cons (.var 3) .nil)))
   (.cons (.asg (.nm 7) (.call (.bi "max") (.cons (.var 3) .nil)))
   (.cons (.asg (.nm 8) (.var 6))
   (.cons (.forE 9 5 (.var 6) (.cons (.ite (.cmp (.var 5) .NotEq (.idx (.var 7) (.var 9))) (.cons (.asg (.nm 8) (.slc (.var 6) .no (.so (.var 9)) .no))
     (.cons .brk
     .nil)) .nil)
    .nil))
   (.cons (.asg (.nm 10) (.ife (.val (.var 4)) (.var 1) (.slc (.var 1) .no (.so (.cst (.int 0))) .no)))
   (.cons (.ret (.bin .Add (.var 10) (.mth (.var 1) "join" (.cons (.var 8) .nil))))
   .nil))))))))))
  .nil))))}
noncomputable abbrev XI:cn:={ps:=["names"],va:=none,df:=false,vis:=[("names",0)],n:=9,body:=(.cons (.ret (.bin .Add (.cst (.str [47])) (.mth (.cst (.str [47])) "join" (.cons (.var 0) .nil))))
  .nil)}
noncomputable abbrev i301:cn:={ps:=["script"],va:=none,df:=false,vis:=[("script",0),("known",1),("draws",2),("place",3),("left",4),("lead",5),("elder",6),("more",7),("first",8),("pieces",9),("step",10),("later",11),("start",12),("names",13),("piece",14),("k",15),("fresh",16),("let_in",17)],n:=26,body:=(.cons (.asg (.nm 1) (.lst (.cons (.tup .nil) .nil)))
  (.cons (.asg (.nm 2) (.lst .nil))
  (.cons (.for_ (.nm 3) (.call (.typ "range") (.cons (.cst (.int 6)) .nil)) (.cons (.asg (.nm 4) (.bin .Add (.idx (.lst (.cons (.cst (.int 640)) (.cons (.cst (.int 247)) (.cons (.cst (.int 5721)) (.cons (.cst (.int 3583)) (.cons (.cst (.int 2264)) (.cons (.cst (.int 19913)) .nil))))))) (.var 3)) (.call (.bi "sum") (.cons (.lcp (.bin .Mod (.var 18) (.bin .Pow (.cst (.int 10)) (.cst (.int 6)))) 18 (.slc (.slc (.var 0) .no (.so (.cst (.int 63))) .no) (.so (.var 3)) .no (.so (.cst (.int 6)))) .no [18]) .nil))))
   (.cons (.asg (.tp [4,5]) (.call (.bi "divmod") (.cons (.var 4) (.cons (.cst (.int 5)) .nil))))
   (.cons (.asg (.tp [4,6]) (.call (.bi "divmod") (.cons (.var 4) (.cons (.cst (.int 8)) .nil))))
   (.cons (.asg (.tp [4,7]) (.call (.bi "divmod") (.cons (.var 4) (.cons (.cst (.int 3)) .nil))))
   (.cons (.asg (.tp [4,8]) (.call (.bi "divmod") (.cons (.var 4) (.cons (.cst (.int 5)) .nil))))
   (.cons (.asg (.nm 9) (.lst (.cons (.idx (.lst (.cons (.cst (.str [97])) (.cons (.cst (.str [46,97])) (.cons (.cst (.str [97,98])) (.cons (.cst (.str [46,46])) (.cons (.cst (.str [46])) .nil)))))) (.var 8)) .nil)))
   (.cons (.for_ (.nm 10) (.call (.typ "range") (.cons (.var 7) .nil)) (.cons (.asg (.tp [4,11]) (.call (.bi "divmod") (.cons (.var 4) (.cons (.cst (.int 6)) .nil))))
    (.cons (.exp (.mth (.var 9) "append" (.cons (.idx (.lst (.cons (.cst (.str [97])) (.cons (.cst (.str [46,97])) (.cons (.cst (.str [97,98])) (.cons (.cst (.str [46,46])) (.cons (.cst (.str [46])) (.cons (.cst (.str [])) .nil))))))) (.var 11)) .nil)))
    .nil)) .nil)
   (.cons (.asg (.nm 12) (.idx (.var 1) (.bin .Mod (.var 6) (.call (.bi "len") (.cons (.var 1) .nil)))))
   (.cons (.asg (.nm 13) (.ife (.cmp (.var 5) .Gt (.cst (.int 1))) (.call (.typ "list") (.cons (.var 12) .nil)) (.lst .nil)))
   (.cons (.for_ (.nm 14) (.var 9) (.cons (.ite (.cmp (.var 14) .Eq (.cst (.str [46,46]))) (.cons (.asg (.nm 13) (.slc (.var 13) .no (.so (.un .USub (.cst (.int 1)))) .no))
     .nil) (.cons (.ite (.cmp (.var 14) .NotIn (.lst (.cons (.cst (.str [])) (.cons (.cst (.str [46])) .nil)))) (.cons (.asg (.nm 13) (.bin .Add (.var 13) (.lst (.cons (.var 14) .nil))))
      .nil) .nil)
     .nil))
    .nil) .nil)
   (.cons (.asg (.nm 13) (.call (.typ "tuple") (.cons (.var 13) .nil)))
   (.cons (.asg (.nm 16) (.lcp (.var 18) 18 (.call (.typ "range") (.cons (.cst (.int 1)) (.cons (.bin .Add (.call (.bi "len") (.cons (.var 13) .nil)) (.cst (.int 1))) .nil))) (.so (.cmp (.slc (.var 13) .no (.so (.var 18)) .no) .NotIn (.var 1))) [18]))
   (.cons (.asg (.nm 17) (.cmp (.bin .Add (.call (.bi "len") (.cons (.var 1) .nil)) (.call (.bi "len") (.cons (.var 16) .nil))) .Lt (.cst (.int 8))))
   (.cons (.exp (.mth (.var 2) "append" (.cons (.tup (.cons (.var 12) (.cons (.idx (.lst (.cons (.cst (.str [47])) (.cons (.cst (.str [47,47,47])) (.cons (.cst (.str [])) (.cons (.cst (.str [])) (.cons (.cst (.str [])) .nil)))))) (.var 5)) (.cons (.var 9) (.cons (.var 13) (.cons (.var 17) .nil)))))) .nil)))
   (.cons (.ite (.val (.var 17)) (.cons (.for_ (.nm 15) (.call (.typ "range") (.cons (.call (.bi "len") (.cons (.var 13) .nil)) (.cons (.cst (.int 0)) (.cons (.un .USub (.cst (.int 1))) .nil)))) (.cons (.exp (.mth (.var 1) "extend" (.cons (.lcp (.var 18) 18 (.lst (.cons (.slc (.var 13) .no (.so (.bin .Sub (.var 15) (.cst (.int 1)))) .no) (.cons (.slc (.var 13) .no (.so (.var 15)) .no) .nil))) (.so (.cmp (.var 18) .NotIn (.var 1))) [18]) .nil)))
     .nil) .nil)
    .nil) .nil)
   .nil))))))))))))))) .nil)
  (.cons (.ret (.tup (.cons (.var 1) (.cons (.var 2) .nil))))
  .nil))))}
noncomputable abbrev i308:cn:={ps:=["lead","pieces"],va:=none,df:=false,vis:=[("lead",0),("pieces",1),("names",2),("piece",3)],n:=12,body:=(.cons (.asg (.nm 2) (.lst .nil))
  (.cons (.for_ (.nm 3) (.var 1) (.cons (.ite (.all .And (.cons (.cmp (.var 3) .Eq (.cst (.str [46,46]))) (.cons (.all .Or (.cons (.cmp (.var 0) .NotEq (.cst (.str []))) (.cons (.all .And (.cons (.cmp (.var 2) .NotEq (.lst .nil)) (.cons (.cmp (.idx (.var 2) (.un .USub (.cst (.int 1)))) .NotEq (.cst (.str [46,46]))) .nil))) .nil))) .nil))) (.cons (.asg (.nm 2) (.slc (.var 2) .no (.so (.un .USub (.cst (.int 1)))) .no))
    .nil) (.cons (.ite (.cmp (.var 3) .NotIn (.lst (.cons (.cst (.str [])) (.cons (.cst (.str [46])) .nil)))) (.cons (.asg (.nm 2) (.bin .Add (.var 2) (.lst (.cons (.var 3) .nil))))
     .nil) .nil)
    .nil))
   .nil) .nil)
  (.cons (.ite (.cmp (.var 0) .NotEq (.cst (.str []))) (.cons (.ret (.call (.fn 296) (.cons (.var 2) .nil)))
   .nil) .nil)
  (.cons (.ret (.ife (.cmp (.var 2) .NotEq (.lst .nil)) (.mth (.cst (.str [47])) "join" (.cons (.var 2) .nil)) (.cst (.str [46]))))
  .nil))))}
noncomputable abbrev i315:cn:={ps:=["rows"],va:=none,df:=false,vis:=[("rows",0),("sorter",1),("worths",2),("path",3),("depth",4),("step",5),("top",6),("rounds",7),("turn",8),("group",9)],n:=18,body:=(.cons (.asg (.nm 1) (.call (.fn 165) .nil))
  (.cons (.exp (.mth (.var 1) "add" (.cons (.cst (.str [47])) .nil)))
  (.cons (.asg (.nm 2) .dct)
  (.cons (.exp (.call (.fn 49) (.cons (.var 2) (.cons (.cst (.str [47])) (.cons (.cst (.int 0)) .nil)))))
  (.cons (.for_ (.tp [3,4]) (.var 0) (.cons (.for_ (.nm 5) (.call (.typ "range") (.cons (.var 4) .nil)) (.cons (.asg (.nm 6) (.call (.fn 277) (.cons (.var 3) .nil)))
    (.cons (.exp (.mth (.var 1) "add" (.cons (.var 6) (.cons (.var 3) .nil))))
    (.cons (.exp (.call (.fn 49) (.cons (.var 2) (.cons (.var 3) (.cons (.cst (.int 0)) .nil)))))
    (.cons (.asg (.nm 3) (.var 6))
    .nil)))) .nil)
   (.cons (.ite (.cmp (.var 3) .NotEq (.cst (.str [47]))) (.cons (.ret (.cst (.none)))
    .nil) .nil)
   .nil)) .nil)
  (.cons (.exp (.mth (.var 1) "prepare" .nil))
  (.cons (.asg (.nm 7) (.lst .nil))
  (.cons (.for_ (.nm 8) (.call (.typ "range") (.cons (.cst (.int 8)) .nil)) (.cons (.ite (.not (.val (.mth (.var 1) "is_active" .nil))) (.cons .brk
    .nil) .nil)
   (.cons (.asg (.nm 9) (.mth (.var 1) "get_ready" .nil))
   (.cons (.exp (.mth (.var 7) "append" (.cons (.var 9) .nil)))
   (.cons (.for_ (.nm 3) (.var 9) (.cons (.ite (.cmp (.var 3) .NotEq (.cst (.str [47]))) (.cons (.asg (.nm 6) (.call (.fn 277) (.cons (.var 3) .nil)))
     (.cons (.exp (.call (.fn 49) (.cons (.var 2) (.cons (.var 6) (.cons (.call (.fn 35) (.cons (.call (.fn 42) (.cons (.var 2) (.cons (.var 6) .nil))) (.cons (.call (.fn 28) (.cons (.call (.fn 42) (.cons (.var 2) (.cons (.var 3) .nil))) (.cons (.cst (.int 1)) .nil))) .nil))) .nil)))))
     .nil)) .nil)
    .nil) .nil)
   (.cons (.exp (.mthS (.var 1) "done" (.var 9)))
   .nil))))) .nil)
  (.cons (.ret (.tup (.cons (.var 7) (.cons (.var 2) (.cons (.mth (.var 1) "is_active" .nil) .nil)))))
  .nil)))))))))}
noncomputable abbrev i320:cn:={ps:=["known"],va:=none,df:=false,vis:=[("known",0),("deep",1),("rounds",2),("height",3),("tops",4)],n:=13,body:=(.cons (.asg (.nm 1) (.dcp (.call (.fn 296) (.cons (.var 5) .nil)) (.call (.bi "max") (.cons (.lcp (.bin .Sub (.call (.bi "len") (.cons (.var 6) .nil)) (.call (.bi "len") (.cons (.var 5) .nil))) 6 (.var 0) (.so (.cmp (.slc (.var 6) .no (.so (.call (.bi "len") (.cons (.var 5) .nil))) .no) .Eq (.var 5))) [6]) .nil)) 5 (.var 0) [5]))
  (.cons (.asg (.nm 2) (.lst (.cons (.lcp (.var 5) 5 (.var 0) (.so (.cmp (.idx (.var 1) (.call (.fn 296) (.cons (.var 5) .nil))) .Eq (.cst (.int 0)))) [5]) .nil)))
  (.cons (.for_ (.nm 3) (.call (.typ "range") (.cons (.cst (.int 1)) (.cons (.bin .Add (.idx (.var 1) (.cst (.str [47]))) (.cst (.int 1))) .nil))) (.cons (.asg (.nm 4) (.lcp (.slc (.var 5) .no (.so (.un .USub (.cst (.int 1)))) .no) 5 (.idx (.var 2) (.un .USub (.cst (.int 1)))) .no [5]))
   (.cons (.exp (.mth (.var 2) "append" (.cons (.lcp (.idx (.var 4) (.var 5)) 5 (.call (.typ "range") (.cons (.call (.bi "len") (.cons (.var 4) .nil)) .nil)) (.so (.all .And (.cons (.cmp (.idx (.var 1) (.call (.fn 296) (.cons (.idx (.var 4) (.var 5)) .nil))) .Eq (.var 3)) (.cons (.cmp (.idx (.var 4) (.var 5)) .NotIn (.slc (.var 4) (.so (.bin .Add (.var 5) (.cst (.int 1)))) .no .no)) .nil)))) [5]) .nil)))
   .nil)) .nil)
  (.cons (.ret (.lcp (.call (.typ "tuple") (.cons (.lcp (.call (.fn 296) (.cons (.var 6) .nil)) 6 (.var 5) .no [6]) .nil)) 5 (.var 2) .no [5]))
  .nil))))}
noncomputable abbrev i325:cn:={ps:=["known"],va:=none,df:=false,vis:=[("known",0),("folders",1),("below",2),("games",3),("mask",4),("after",5),("due",6)],n:=15,body:=(.cons (.asg (.nm 1) (.slc (.var 0) (.so (.cst (.int 1))) .no .no))
  (.cons (.asg (.nm 2) (.lcp (.call (.bi "sum") (.cons (.lcp (.bin .Pow (.cst (.int 2)) (.var 8)) 8 (.call (.typ "range") (.cons (.call (.bi "len") (.cons (.var 1) .nil)) .nil)) (.so (.cmp (.slc (.idx (.var 1) (.var 8)) .no (.so (.call (.bi "len") (.cons (.var 7) .nil))) .no) .Eq (.var 7))) [8]) .nil)) 7 (.var 1) .no [7]))
  (.cons (.asg (.nm 3) (.lst .nil))
  (.cons (.for_ (.nm 4) (.call (.typ "range") (.cons (.bin .Pow (.cst (.int 2)) (.call (.bi "len") (.cons (.var 1) .nil))) .nil)) (.cons (.asg (.nm 5) (.lcp (.idx (.var 3) (.bin .Sub (.var 4) (.bin .BitAnd (.var 4) (.idx (.var 2) (.var 7))))) 7 (.call (.typ "range") (.cons (.call (.bi "len") (.cons (.var 1) .nil)) .nil)) (.so (.cmp (.bin .Mod (.bin .FloorDiv (.var 4) (.bin .Pow (.cst (.int 2)) (.var 7))) (.cst (.int 2))) .Eq (.cst (.int 1)))) [7]))
   (.cons (.exp (.mth (.var 3) "append" (.cons (.call (.bi "min") (.cons (.lcp (.var 7) 7 (.call (.typ "range") (.cons (.bin .Add (.call (.bi "len") (.cons (.var 5) .nil)) (.cst (.int 1))) .nil)) (.so (.cmp (.var 7) .NotIn (.var 5))) [7]) .nil)) .nil)))
   .nil)) .nil)
  (.cons (.asg (.nm 6) (.dcp (.call (.fn 296) (.cons (.idx (.var 1) (.var 7)) .nil)) (.idx (.var 3) (.bin .Sub (.idx (.var 2) (.var 7)) (.bin .Pow (.cst (.int 2)) (.var 7)))) 7 (.call (.typ "range") (.cons (.call (.bi "len") (.cons (.var 1) .nil)) .nil)) [7]))
  (.cons (.asg (.ix (.var 6) (.cst (.str [47]))) (.idx (.var 3) (.un .USub (.cst (.int 1)))))
  (.cons (.ret (.var 6))
  .nil)))))))}
noncomputable abbrev i332:cn:={ps:=["known"],va:=none,df:=false,vis:=[("known",0),("j",1),("i",2),("same",3),("pair",4)],n:=13,body:=(.cons (.for_ (.nm 1) (.call (.typ "range") (.cons (.call (.bi "len") (.cons (.var 0) .nil)) .nil)) (.cons (.for_ (.nm 2) (.call (.typ "range") (.cons (.var 1) .nil)) (.cons (.asg (.nm 3) (.cst (.int 0)))
    (.cons (.whl (.cmp2 (.slc (.idx (.var 0) (.var 2)) (.so (.var 3)) (.so (.bin .Add (.var 3) (.cst (.int 1)))) .no) .Eq (.slc (.idx (.var 0) (.var 1)) (.so (.var 3)) (.so (.bin .Add (.var 3) (.cst (.int 1)))) .no) .NotEq (.tup .nil)) (.cons (.aug 3 .Add (.cst (.int 1)))
     .nil) .nil)
    (.cons (.asg (.nm 4) (.lst (.cons (.call (.fn 296) (.cons (.idx (.var 0) (.var 2)) .nil)) (.cons (.bin .Add (.bin .Add (.cst (.str [47,46])) (.call (.fn 296) (.cons (.idx (.var 0) (.var 1)) .nil))) (.cst (.str [47,47]))) .nil))))
    (.cons (.ite (.cmp (.call (.fn 289) (.cons (.ife (.cmp (.bin .Mod (.bin .Add (.var 2) (.var 1)) (.cst (.int 2))) .Eq (.cst (.int 0))) (.var 4) (.lst (.cons (.idx (.var 4) (.cst (.int 1))) (.cons (.idx (.var 4) (.cst (.int 0))) .nil)))) .nil)) .NotEq (.call (.fn 296) (.cons (.slc (.idx (.var 0) (.var 1)) .no (.so (.var 3)) .no) .nil))) (.cons (.ret (.cst (.bool false)))
     .nil) .nil)
    .nil)))) .nil)
   .nil) .nil)
  (.cons (.ret (.cst (.bool true)))
  .nil))}
noncomputable abbrev i339:cn:={ps:=["script"],va:=none,df:=false,vis:=[("script",0),("known",1),("draws",2),("rows",3),("start",4),("lead",5),("pieces",6),("names",7),("let_in",8),("text",9),("told",10)],n:=19,body:=(.cons (.asg (.tp [1,2]) (.call (.fn 301) (.cons (.var 0) .nil)))
  (.cons (.asg (.nm 3) (.lst .nil))
  (.cons (.for_ (.tp [4,5,6,7,8]) (.var 2) (.cons (.asg (.nm 9) (.bin .Add (.var 5) (.mth (.cst (.str [47])) "join" (.cons (.var 6) .nil))))
   (.cons (.asg (.nm 10) (.call (.fn 284) (.cons (.call (.fn 263) (.cons (.call (.fn 296) (.cons (.var 4) .nil)) (.cons (.var 9) .nil))) .nil)))
   (.cons (.ite (.all .Or (.cons (.cmp (.var 10) .NotEq (.call (.fn 296) (.cons (.var 7) .nil))) (.cons (.cmp (.call (.fn 284) (.cons (.call (.fn 263) (.cons (.cst (.str [])) (.cons (.var 9) .nil))) .nil)) .NotEq (.call (.fn 308) (.cons (.var 5) (.cons (.var 6) .nil)))) .nil))) (.cons (.ret (.cst (.bool false)))
    .nil) .nil)
   (.cons (.ite (.val (.var 8)) (.cons (.exp (.mth (.var 3) "append" (.cons (.tup (.cons (.var 10) (.cons (.call (.bi "len") (.cons (.var 7) .nil)) .nil))) .nil)))
    .nil) .nil)
   .nil)))) .nil)
  (.cons (.ret (.bop .And (.cmp (.call (.fn 315) (.cons (.var 3) .nil)) .Eq (.tup (.cons (.call (.fn 320) (.cons (.var 1) .nil)) (.cons (.call (.fn 325) (.cons (.var 1) .nil)) (.cons (.cst (.bool false)) .nil))))) (.call (.fn 332) (.cons (.var 1) .nil))))
  .nil))))}
noncomputable abbrev XJ:cn:={ps:=["self","graph"],va:=none,df:=true,vis:=[("self",0),("graph",1),("node",2),("predecessors",3)],n:=12,body:=(.cons (.asg (.at (.var 0) "_node2info") .dct)
  (.cons (.asg (.at (.var 0) "_ready_nodes") (.cst (.none)))
  (.cons (.asg (.at (.var 0) "_npassedout") (.cst (.int 0)))
  (.cons (.asg (.at (.var 0) "_nfinished") (.cst (.int 0)))
  (.cons (.ite (.cmp (.var 1) .IsNot (.cst (.none))) (.cons (.for_ (.tp [2,3]) (.mth (.var 1) "items" .nil) (.cons (.exp .bad)
    .nil) .nil)
   .nil) .nil)
  .nil)))))}
noncomputable abbrev XK:cn:={ps:=["self","node"],va:=none,df:=false,vis:=[("self",0),("node",1),("result",2)],n:=11,body:=(.cons (.ite (.cmp (.nam 2 (.mth (.att (.var 0) "_node2info") "get" (.cons (.var 1) .nil))) .Is (.cst (.none))) (.cons (.asg2 (.ix (.att (.var 0) "_node2info") (.var 1)) (.nm 2) (.call (.fn 68) (.cons (.var 1) .nil)))
   .nil) .nil)
  (.cons (.ret (.var 2))
  .nil))}
noncomputable abbrev i115:cn:={ps:=["self","node"],va:=some "predecessors",df:=false,vis:=[("self",0),("node",1),("predecessors",2),("nodeinfo",3),("pred",4),("pred_info",5)],n:=14,body:=(.cons (.ite (.cmp (.att (.var 0) "_ready_nodes") .IsNot (.cst (.none))) (.cons .bad
   .nil) .nil)
  (.cons (.asg (.nm 3) (.mth (.var 0) "_get_nodeinfo" (.cons (.var 1) .nil)))
  (.cons (.augA (.var 3) "npredecessors" .Add (.call (.bi "len") (.cons (.var 2) .nil)))
  (.cons (.for_ (.nm 4) (.var 2) (.cons (.asg (.nm 5) (.mth (.var 0) "_get_nodeinfo" (.cons (.var 4) .nil)))
   (.cons (.exp (.mth (.att (.var 5) "successors") "append" (.cons (.var 1) .nil)))
   .nil)) .nil)
  .nil))))}
noncomputable abbrev XM:cn:={ps:=["self"],va:=none,df:=false,vis:=[("self",0),("cycle",1)],n:=10,body:=(.cons (.ite (.cmp (.att (.var 0) "_ready_nodes") .IsNot (.cst (.none))) (.cons .bad
   .nil) .nil)
  (.cons (.asg (.at (.var 0) "_ready_nodes") (.lcp (.att (.var 2) "node") 2 (.mth (.att (.var 0) "_node2info") "values" .nil) (.so (.cmp (.att (.var 2) "npredecessors") .Eq (.cst (.int 0)))) [2]))
  (.cons (.asg (.nm 1) (.mth (.var 0) "_find_cycle" .nil))
  (.cons (.ite (.val (.var 1)) (.cons .bad
   .nil) .nil)
  .nil))))}
noncomputable abbrev i127:cn:={ps:=["self"],va:=none,df:=false,vis:=[("self",0),("result",1),("n2i",2),("node",3)],n:=12,body:=(.cons (.ite (.cmp (.att (.var 0) "_ready_nodes") .Is (.cst (.none))) (.cons .bad
   .nil) .nil)
  (.cons (.asg (.nm 1) (.call (.typ "tuple") (.cons (.att (.var 0) "_ready_nodes") .nil)))
  (.cons (.asg (.nm 2) (.att (.var 0) "_node2info"))
  (.cons (.for_ (.nm 3) (.var 1) (.cons (.asg (.at (.idx (.var 2) (.var 3)) "npredecessors") (.glb (.int (-1))))
   .nil) .nil)
  (.cons (.exp (.mth (.att (.var 0) "_ready_nodes") "clear" .nil))
  (.cons (.augA (.var 0) "_npassedout" .Add (.call (.bi "len") (.cons (.var 1) .nil)))
  (.cons (.ret (.var 1))
  .nil)))))))}
noncomputable abbrev XN:cn:={ps:=["self"],va:=none,df:=false,vis:=[("self",0)],n:=9,body:=(.cons (.ite (.cmp (.att (.var 0) "_ready_nodes") .Is (.cst (.none))) (.cons .bad
   .nil) .nil)
  (.cons (.ret (.bop .Or (.cmp (.att (.var 0) "_nfinished") .Lt (.att (.var 0) "_npassedout")) (.call (.typ "bool") (.cons (.att (.var 0) "_ready_nodes") .nil))))
  .nil))}
noncomputable abbrev i148:cn:={ps:=["self"],va:=some "nodes",df:=false,vis:=[("self",0),("nodes",1),("n2i",2),("node",3),("nodeinfo",4),("stat",5),("successor",6),("successor_info",7)],n:=16,body:=(.cons (.ite (.cmp (.att (.var 0) "_ready_nodes") .Is (.cst (.none))) (.cons .bad
   .nil) .nil)
  (.cons (.asg (.nm 2) (.att (.var 0) "_node2info"))
  (.cons (.for_ (.nm 3) (.var 1) (.cons (.ite (.cmp (.nam 4 (.mth (.var 2) "get" (.cons (.var 3) .nil))) .Is (.cst (.none))) (.cons .bad
    .nil) .nil)
   (.cons (.asg (.nm 5) (.att (.var 4) "npredecessors"))
   (.cons (.ite (.cmp (.var 5) .NotEq (.glb (.int (-1)))) (.cons (.ite (.cmp (.var 5) .GtE (.cst (.int 0))) (.cons .bad
     .nil) (.cons (.ite (.cmp (.var 5) .Eq (.glb (.int (-2)))) (.cons .bad
      .nil) (.cons .bad
      .nil))
     .nil))
    .nil) .nil)
   (.cons (.asg (.at (.var 4) "npredecessors") (.glb (.int (-2))))
   (.cons (.for_ (.nm 6) (.att (.var 4) "successors") (.cons (.asg (.nm 7) (.idx (.var 2) (.var 6)))
    (.cons (.augA (.var 7) "npredecessors" .Sub (.cst (.int 1)))
    (.cons (.ite (.cmp (.att (.var 7) "npredecessors") .Eq (.cst (.int 0))) (.cons (.exp (.mth (.att (.var 0) "_ready_nodes") "append" (.cons (.var 6) .nil)))
     .nil) .nil)
    .nil))) .nil)
   (.cons (.augA (.var 0) "_nfinished" .Add (.cst (.int 1)))
   .nil)))))) .nil)
  .nil)))}
noncomputable abbrev i155:cn:={ps:=["self"],va:=none,df:=false,vis:=[("self",0),("n2i",1),("stack",2),("itstack",3),("seen",4),("node2stacki",5),("node",6)],n:=15,body:=(.cons (.asg (.nm 1) (.att (.var 0) "_node2info"))
  (.cons (.asg (.nm 2) (.lst .nil))
  (.cons (.asg (.nm 3) (.lst .nil))
  (.cons (.asg (.nm 4) (.call (.typ "set") .nil))
  (.cons (.asg (.nm 5) .dct)
  (.cons (.for_ (.nm 6) (.var 1) (.cons (.ite (.cmp (.var 6) .In (.var 4)) (.cons .cont
    .nil) .nil)
   (.cons (.whl (.val (.cst (.bool true))) (.cons (.ite (.cmp (.var 6) .In (.var 4)) (.cons (.ite (.cmp (.var 6) .In (.var 5)) (.cons (.ret (.bin .Add (.slc (.var 2) (.so (.idx (.var 5) (.var 6))) .no .no) (.lst (.cons (.var 6) .nil))))
      .nil) .nil)
     .nil) (.cons (.exp (.mth (.var 4) "add" (.cons (.var 6) .nil)))
     (.cons (.exp (.mth (.var 3) "append" (.cons (.att (.call (.bi "iter") (.cons (.att (.idx (.var 1) (.var 6)) "successors") .nil)) "__next__") .nil)))
     (.cons (.asg (.ix (.var 5) (.var 6)) (.call (.bi "len") (.cons (.var 2) .nil)))
     (.cons (.exp (.mth (.var 2) "append" (.cons (.var 6) .nil)))
     .nil)))))
    (.cons (.whl (.val (.var 2)) (.cons (.tryN 6 (.idx (.var 3) (.un .USub (.cst (.int 1)))) 5 2 3)
     .nil) (.cons .brk
     .nil))
    .nil)) .nil)
   .nil)) .nil)
  (.cons (.ret (.cst (.none)))
  .nil)))))))}
noncomputable abbrev i64:cn:={ps:=["self","node"],va:=none,df:=false,vis:=[("self",0),("node",1)],n:=10,body:=(.cons (.asg (.at (.var 0) "node") (.var 1))
  (.cons (.asg (.at (.var 0) "npredecessors") (.cst (.int 0)))
  (.cons (.asg (.at (.var 0) "successors") (.lst .nil))
  .nil)))}
noncomputable def tab0:List (Nat × cn):=[(28,i28),(35,i35),(42,i42),(49,i49),(242,i242),(256,XE),(263,XF),(270,XG),(277,XH),(284,i284),(289,i289),(296,XI),(301,i301),(308,i308),(315,i315),(320,i320),(325,i325),(332,i332),(339,i339),(101,XJ),(108,XK),(115,i115),(120,XM),(127,i127),(134,XN),(148,i148),(155,i155),(64,i64)]
def qA{α:Type}(P:α->Prop):List α->Prop
 |[]=>True
 |q::l=>P q/\qA P l
theorem sT{α:Type}{P:α->Prop}{q:α}:∀{l:List α},qA P l->q∈l->P q
 |_::_,h,hq=>(bu.mp hq).elim (λe=>e▸h.1) (sT h.2)
theorem XO(p:wS):qA (λq=>sQ (K0 p) q.1=some q.2) tab0:=⟨by kernel_rfl,by kernel_rfl,by kernel_rfl,by kernel_rfl,by kernel_rfl,by kernel_rfl,by kernel_rfl,by kernel_rfl,by kernel_rfl,by kernel_rfl,by kernel_rfl,by kernel_rfl,by kernel_rfl,by kernel_rfl,by kernel_rfl,by kernel_rfl,by kernel_rfl,by kernel_rfl,by kernel_rfl,by kernel_rfl,by kernel_rfl,by kernel_rfl,by kernel_rfl,by kernel_rfl,by kernel_rfl,by kernel_rfl,by kernel_rfl,by kernel_rfl,trivial⟩
noncomputable def F0(a:Nat):Option cn:=tab0.lookup a
theorem JF(p:wS)(a:Nat)(I:cn)(h:F0 a=some I):sQ (K0 p) a=some I:=sT (q:=(a,I)) (XO p) (sE h)
noncomputable def meths:List (Str × Nat):=[("_get_nodeinfo",108),("add",115),("prepare",120),("get_ready",127),("is_active",134),("done",148),("_find_cycle",155)]
noncomputable def sltab:List (Str × Nat):=[("node",0),("npredecessors",1),("successors",2)]
noncomputable def owns:List Str:=["_node2info","_ready_nodes","_npassedout","_nfinished"]
noncomputable def T0:eW:={meth:=λc x=>if c=165 then meths.lookup x else none,slot:=λc x=>if c=68 then sltab.lookup x else none,own:=λc x=>c==165&&owns.contains x,idf:=some 242}
noncomputable def C0:Cls:=λc=>if c=165 then some (101,true) else if c=68 then some (64,false) else none
theorem yJ{α:Type}{c n:Nat}{o:Option α}{a:α}(h:(if c=n then o else none)=some a):c=n/\o=some a:=by
 by_cases q:c=n
 ·rw[if_pos q] at h;exact ⟨q,h⟩
 ·rw[if_neg q] at h;injection h
section
variable(p:wS)
theorem XP:qA (λq:Str × Nat=>tV (K0 p) 165 q.1=true/\ki (K0 p) (.ref 165) q.1=some (some (.ref q.2))/\isFn (K0 p) (.ref q.2)=true) meths:=⟨⟨by kernel_rfl,by kernel_rfl,by kernel_rfl⟩,⟨by kernel_rfl,by kernel_rfl,by kernel_rfl⟩,⟨by kernel_rfl,by kernel_rfl,by kernel_rfl⟩,⟨by kernel_rfl,by kernel_rfl,by kernel_rfl⟩,⟨by kernel_rfl,by kernel_rfl,by kernel_rfl⟩,⟨by kernel_rfl,by kernel_rfl,by kernel_rfl⟩,⟨by kernel_rfl,by kernel_rfl,by kernel_rfl⟩,trivial⟩
theorem XQ:qA (λq:Str × Nat=>∃d,tV (K0 p) 68 q.1=true/\AX (K0 p) 68=true/\ki (K0 p) (.ref 68) q.1=some (some (.ref d))/\rO (K0 p) (.ref d) "__get__"=some (some (.builtin "member_descriptor.__get__"))/\w9 (K0 p) (.ref d)=some true/\slotIn (K0 p) d 68=some q.2 /\
  ki (K0 p) (.ref 68) "__setattr__"=some (some (.builtin "object.__setattr__"))/\xa (K0 p) 68=true/\xb (K0 p) 68 q.1=some (some (.ref d))/\AY (K0 p) (.ref d)=some (.type "member_descriptor")/\q.2<1000) sltab:=⟨⟨69,by kernel_rfl,by kernel_rfl,by kernel_rfl,by kernel_rfl,by kernel_rfl,by kernel_rfl,by kernel_rfl,by kernel_rfl,by kernel_rfl,by kernel_rfl,show 0<1000 by decide⟩,⟨70,by kernel_rfl,by kernel_rfl,by kernel_rfl,by kernel_rfl,by kernel_rfl,by kernel_rfl,by kernel_rfl,by kernel_rfl,by kernel_rfl,by kernel_rfl,show 1<1000 by decide⟩,⟨71,by kernel_rfl,by kernel_rfl,by kernel_rfl,by kernel_rfl,by kernel_rfl,by kernel_rfl,by kernel_rfl,by kernel_rfl,by kernel_rfl,by kernel_rfl,show 2<1000 by decide⟩,trivial⟩
theorem XR:qA (λx:Str=>tV (K0 p) 165 x=true/\xc (K0 p) 165=true/\ki (K0 p) (.ref 165) x=some none/\ki (K0 p) (.ref 165) "__setattr__"=some (some (.builtin "object.__setattr__"))/\xa (K0 p) 165=true/\xb (K0 p) 165 x=some none) owns:=⟨⟨by kernel_rfl,by kernel_rfl,by kernel_rfl,by kernel_rfl,by kernel_rfl,by kernel_rfl⟩,⟨by kernel_rfl,by kernel_rfl,by kernel_rfl,by kernel_rfl,by kernel_rfl,by kernel_rfl⟩,⟨by kernel_rfl,by kernel_rfl,by kernel_rfl,by kernel_rfl,by kernel_rfl,by kernel_rfl⟩,⟨by kernel_rfl,by kernel_rfl,by kernel_rfl,by kernel_rfl,by kernel_rfl,by kernel_rfl⟩,trivial⟩
theorem XS:qA (λq:Str × Nat=>AX (K0 p) 165=true/\xc (K0 p) 165=true/\rO (K0 p) (.ref q.2) "__get__"=some (some (.builtin "function.__get__"))/\w9 (K0 p) (.ref q.2)=some false/\copiedNames.contains q.1=false/\fnIn (K0 p) q.2=true) meths:=⟨⟨by kernel_rfl,by kernel_rfl,by kernel_rfl,by kernel_rfl,by kernel_rfl,by kernel_rfl⟩,⟨by kernel_rfl,by kernel_rfl,by kernel_rfl,by kernel_rfl,by kernel_rfl,by kernel_rfl⟩,⟨by kernel_rfl,by kernel_rfl,by kernel_rfl,by kernel_rfl,by kernel_rfl,by kernel_rfl⟩,⟨by kernel_rfl,by kernel_rfl,by kernel_rfl,by kernel_rfl,by kernel_rfl,by kernel_rfl⟩,⟨by kernel_rfl,by kernel_rfl,by kernel_rfl,by kernel_rfl,by kernel_rfl,by kernel_rfl⟩,⟨by kernel_rfl,by kernel_rfl,by kernel_rfl,by kernel_rfl,by kernel_rfl,by kernel_rfl⟩,⟨by kernel_rfl,by kernel_rfl,by kernel_rfl,by kernel_rfl,by kernel_rfl,by kernel_rfl⟩,trivial⟩
theorem JG(T:eW)(h1:T.meth=T0.meth)(h2:T.slot=T0.slot)(h3:T.own=T0.own):eX (K0 p) T where
 meth:=λc x a h=>by
  have q:=yJ (h1▸h);cases q.1;exact (sT (XP p) (sE q.2):)
 slot:=λc x i h=>by
  have q:=yJ (h2▸h);cases q.1;exact (sT (XQ p) (sE q.2):)
 own:=λc x h=>by
  have q:=i3.mp (h3▸h);cases eq_of_beq q.1;exact (sT (XR p) (zU.mp q.2):)
theorem JH(T:eW)(h1:T.meth=T0.meth):nb (K0 p) T where
 fn:=λc x a h=>by
  have q:=yJ (h1▸h);cases q.1;exact (sT (XS p) (sE q.2):)
noncomputable def JI(K:Frag)(c:Nat):Bool:=match K.lookup c with|some ⟨_,_,.cls _,_⟩=>true|_=>false
theorem JJ{K:Frag}{c:Nat}(h:JI K c=true):∃oc od cd sl,K.lookup c=some ⟨oc,od,.cls cd,sl⟩:=by
 unfold JI at h;split at h
 ·rename_i oc od cd sl hK;exact RJ oc od cd sl hK
 ·injection h
theorem XT:JD (K0 p) C0:=⟨λc f b h=>by
 unfold C0 at h;by_cases q:c=165
 ·rw[if_pos q] at h;(injection h with aC;injection aC with aI aS;subst aS;subst aI);subst q;exact ⟨by kernel_rfl,by kernel_rfl,by kernel_rfl,JJ (by kernel_rfl),by kernel_rfl⟩
 ·rw[if_neg q] at h;have q:=yJ h;cases q.1;cases q.2;exact ⟨by kernel_rfl,by kernel_rfl,by kernel_rfl,JJ (by kernel_rfl),by kernel_rfl⟩⟩
end
noncomputable abbrev Φ(n:Nat):=nr F0 T0 C0 n
noncomputable abbrev Sy(n:Nat):Sys:=⟨Φ n,T0⟩
theorem dP{n a:Nat}{I:cn}{args:List AV}{H:List AO}{ds:List (Str × AV)}{vs:Vs}{P:AV->List AO->Prop}(hC:C0 a=none)(hF:F0 a=some I)(hb:sR I args=some ds)
  (hv:Df I.vis I.n ds=vs) (h:WB (Sy n) I.body vs H (sP P)):Φ (n+1) a args H P:=by
 subst hv;unfold Φ nr;erw[hC];erw[hF];show Wp (sR I args) _;erw[hb];exact h
section
variable{A B:Prop}{b:Bool}
theorem cI(k:b=true)(h:A):if b=true then A else B:=by subst k;exact h
theorem b8(k:b=false)(h:B):if b=true then A else B:=by subst k;exact h
theorem Dh(k:b=false)(h:A):if b=false then A else B:=by subst k;exact h
theorem yK(k:b=true)(h:B):if b=false then A else B:=by subst k;exact h
theorem ifb(h:b=true->A)(g:b=false->B):if b=true then A else B:=by
 induction b using dN
 ·exact g rfl
 ·exact h rfl
theorem ifn(h:b=false->A)(g:b=true->B):if b=false then A else B:=by
 induction b using dN
 ·exact h rfl
 ·exact g rfl
end
theorem cA{α:Type}{r:Option α}{x:α}{P:α->Prop}(h:r=some x)(hp:P x):Wp r P:=h▸hp
theorem fq{o:Option AO}{l:List AV}{f:List AV->Prop}(h:o=some (.list l))(hp:f l):d6 o f:=h▸hp
theorem sU{o:Option AO}{l:List (Str × AV)}{f:List (Str × AV)->Prop}(h:o=some (.ns l))(hp:f l):qm o f:=h▸hp
theorem sV{o:Option AO}{es:List (Cps × AV)}{v:Option Nat}{f:List (Cps × AV)->Option Nat->Prop}(h:o=some (.dict es v))(hp:f es v):oA o f:=h▸hp
theorem XU{o:Option AO}{l:List Cps}{f:List Cps->Prop}(h:o=some (.set l))(hp:f l):Cz o f:=h▸hp
section
variable{H:List AO}{P:AV->List AO->Prop}{Q:AV->Prop}{B:Bool->Prop}
theorem iV{b:Bool}(h:B b):m8 H (.bool b) B:=h
theorem ybr{i:Int}(h:B (decide (i≠0))):m8 H (.int i) B:=h
theorem qB{s:Cps}(k:okL s.length=true)(h:B (!s.isEmpty)):m8 H (.str s) B:=⟨k,h⟩
theorem XV{l:List AV}(k:okL l.length=true)(h:B (!l.isEmpty)):m8 H (.tup l) B:=⟨k,h⟩
theorem XW(h:B false):m8 H .none B:=h
theorem sW{n:Nat}{l:List AV}(hn:H[n]?=some (.list l))(k:okL l.length=true)(h:B (!l.isEmpty)):m8 H (.loc n) B:=fq hn ⟨k,h⟩
theorem lR{x y:Int}(k:inB (x+y)=true)(h:P (.int (x+y)) H):kH .Add (.int x) (.int y) H P:=⟨k,h⟩
theorem yL{x y:Int}(k:inB (x-y)=true)(h:P (.int (x-y)) H):kH .Sub (.int x) (.int y) H P:=⟨k,h⟩
theorem XX{x y:Int}(k:0<y/\y<=1000000)(h:P (.int (j6 x y)) H):kH .FloorDiv (.int x) (.int y) H P:=⟨k,h⟩
theorem yM{x y:Int}(k:0<y/\y<=1000000)(h:P (.int (j7 x y)) H):kH .Mod (.int x) (.int y) H P:=⟨k,h⟩
theorem vL{x y:Int}(k:0<=x/\x<=10/\0<=y/\y<=16)(h:P (.int (x ^ y.toNat)) H):kH .Pow (.int x) (.int y) H P:=⟨k,h⟩
theorem XY{x y:Int}(h:P (.int (zR x y)) H):kH .BitAnd (.int x) (.int y) H P:=h
theorem XZ{x y:Int}(h:P (.int (wy x y)) H):kH .BitXor (.int x) (.int y) H P:=h
theorem oK{x y:Cps}(k:okL (x.length+y.length)=true)(h:P (.str (x++y)) H):kH .Add (.str x) (.str y) H P:=⟨rfl,k,h⟩
theorem X0{x:Cps}{y:Int}(k:0<=y/\y<=100000/\okL (x.length*y.toNat)=true)(h:P (.str (j8 y.toNat x).flatten) H):kH .Mult (.str x) (.int y) H P:=⟨rfl,k,h⟩
theorem X1{i j:Nat}{l r:List AV}(hi:H[i]?=some (.list l))(hj:H[j]?=some (.list r))(k:okL (l.length+r.length)=true)(h:P (.loc H.length) (H++[.list (l++r)])):kH .Add (.loc i) (.loc j) H P:=fq hi (fq hj ⟨rfl,k,h⟩)
theorem yN{x y:Int}(k:inB (x+y)=true)(h:Q (.int (x+y))):sy .Add (.int x) (.int y) Q:=⟨k,h⟩
theorem X2{x y:Int}(k:inB (x-y)=true)(h:Q (.int (x-y))):sy .Sub (.int x) (.int y) Q:=⟨k,h⟩
theorem JK{x y:Cps}(k:okL (x.length+y.length)=true)(h:Q (.str (x++y))):sy .Add (.str x) (.str y) Q:=⟨rfl,k,h⟩
theorem JL{x y:Int}(h:B (decide (x<y))):fW .Lt (.int x) (.int y) H B:=h
theorem X3{x y:Int}(h:B (decide (y<x))):fW .Gt (.int x) (.int y) H B:=h
theorem yek{x y:Int}(h:B (decide (y<=x))):fW .GtE (.int x) (.int y) H B:=h
theorem sX{a:AV}{r:Bool}(k:isNone a=some r)(h:B r):fW .Is a .none H B:=⟨rfl,cA k h⟩
theorem Di{a:AV}{r:Bool}(k:isNone a=some r)(h:B (!r)):fW .IsNot a .none H B:=⟨rfl,cA k h⟩
theorem sY{x y:Int}(h:B (x==y)):fW .Eq (.int x) (.int y) H B:=h
theorem vM{x y:Cps}(h:B (x==y)):fW .Eq (.str x) (.str y) H B:=h
theorem X4{x y:Int}(h:B (!(x==y))):fW .NotEq (.int x) (.int y) H B:=h
theorem jq{x y:Cps}(h:B (!(x==y))):fW .NotEq (.str x) (.str y) H B:=h
theorem yO{a b:AV}{r:Bool}(k:eqF H a b=some r)(h:B r):fW .Eq a b H B:=cA k h
theorem Dj{a b:AV}{r:Bool}(k:aeq H 8 a b=some r)(h:B (!r)):fW .NotEq a b H B:=cA k h
theorem z88{n:Nat}{l:List AV}{a:AV}{r:Bool}(hn:H[n]?=some (.list l))(k:inL H a l=some r)(h:B r):fW .In a (.loc n) H B:=by
 show inW a H H[n]? B;erw[hn];exact cA k h
theorem JM{n:Nat}{l:List Cps}{s:Cps}(hn:H[n]?=some (.set l))(h:B (l.contains s)):fW .In (.str s) (.loc n) H B:=by
 show inW (.str s) H H[n]? B;erw[hn];exact h
theorem X5{n:Nat}{es:List (Cps × AV)}{v:Option Nat}{s:Cps}(hn:H[n]?=some (.dict es v))(h:B (es.any (·.1==s))):fW .In (.str s) (.loc n) H B:=by
 show inW (.str s) H H[n]? B;erw[hn];exact h
theorem vN{n:Nat}{l:List AV}{a:AV}{r:Bool}(hn:H[n]?=some (.list l))(k:inL H a l=some r)(h:B (!r)):fW .NotIn a (.loc n) H B:=fq hn (cA k h)
theorem X6{l:List AV}{i:Int}{d:AV}(k:inB i=true)(hd:((cZ l.length i).bind λj=>l[j]?)=some d)(h:Q d):vp (.tup l) (.int i) H Q:=⟨k,cA hd h⟩
theorem d7{n:Nat}{l:List AV}{i:Int}{d:AV}(hn:H[n]?=some (.list l))(k:inB i=true)(hd:((cZ l.length i).bind λj=>l[j]?)=some d)(h:Q d):vp (.loc n) (.int i) H Q:=⟨k,fq hn (cA hd h)⟩
theorem qC{n:Nat}{es:List (Cps × AV)}{v:Option Nat}{s:Cps}{d:AV}(hn:H[n]?=some (.dict es v))(hd:es.lookup s=some d)(h:Q d):vp (.loc n) (.str s) H Q:=sV hn (cA hd h)
theorem oL{s:Cps}{lo hi:AV}{a b:Option Int}(k:okL s.length=true)(ha:eA lo=some a)(hb:eA hi=some b)(h:P (.str (bh s a b)) H):lP (.str s) lo hi .none H P:=⟨rfl,k,cA ha (cA hb h)⟩
theorem nu{s:List AV}{lo hi:AV}{a b:Option Int}(k:okL s.length=true)(ha:eA lo=some a)(hb:eA hi=some b)(h:P (.tup (bh s a b)) H):lP (.tup s) lo hi .none H P:=⟨rfl,k,cA ha (cA hb h)⟩
theorem sZ{n:Nat}{s:List AV}{lo hi:AV}{a b:Option Int}(hn:H[n]?=some (.list s))(k:okL s.length=true)(ha:eA lo=some a)(hb:eA hi=some b)(h:P (.loc H.length) (H++[.list (bh s a b)])):lP (.loc n) lo hi .none H P:=by
 unfold lP;dsimp only;rw[hn];exact ⟨k,cA ha (cA hb h)⟩
theorem X7{n:Nat}{s:List AV}{lo hi:AV}{a b:Option Int}(hn:H[n]?=some (.pin s))(k:okL s.length=true)(ha:eA lo=some a)(hb:eA hi=some b)(h:P (.loc H.length) (H++[.list (bh s a b)])):lP (.loc n) lo hi .none H P:=by
 unfold lP;dsimp only;rw[hn];exact ⟨rfl,k,cA ha (cA hb h)⟩
theorem X8{n:Nat}{s:List AV}{lo:AV}{a:Option Int}{j:Int}(hn:H[n]?=some (.list s))(k:okL s.length=true)(ha:eA lo=some a)(hj:0<j/\j<=100)(h:P (.loc H.length) (H++[.list (ow s a j)])):lP (.loc n) lo .none (.int j) H P:=by
 unfold lP;dsimp only;erw[hn];exact ⟨k,rfl,cA ha ⟨hj,h⟩⟩
theorem eB{i:Int}(k:inB i=true):eA (.int i)=some (some i):=if_pos k
theorem yas:eA .none=some none:=rfl
theorem yb6{t:List (String × (List AV->List AO->(AV->List AO->Prop)->Prop))}{id:String}{f:List AV->List AO->(AV->List AO->Prop)->Prop}{args:List AV}(h:t.lookup id=some f)(k:f args H P):cE t id args H P:=cA h k
theorem X9{s:Cps}(k:okL s.length=true)(h:P (.int s.length) H):cE biT "len" [.str s] H P:=⟨k,h⟩
theorem nv{s:List AV}(k:okL s.length=true)(h:P (.int s.length) H):cE biT "len" [.tup s] H P:=⟨k,h⟩
theorem lS{n:Nat}{l:List AV}(hn:H[n]?=some (.list l))(k:okL l.length=true)(h:P (.int l.length) H):cE biT "len" [.loc n] H P:=fq hn ⟨k,h⟩
theorem JN{n:Nat}{l:List AV}{xs:List Int}(hn:H[n]?=some (.list l))(k:jU l=some xs)(h:P (.int (jV xs)) H):cE biT "sum" [.loc n] H P:=fq hn (cA k h)
theorem JO{n:Nat}{l:List AV}{d:AV}(hn:H[n]?=some (.list l))(k:vm H l=some d)(h:P d H):cE biT "max" [.loc n] H P:=fq hn (cA k h)
theorem JP{n:Nat}{l:List AV}{d:AV}(hn:H[n]?=some (.list l))(k:sv H l=some d)(h:P d H):cE biT "min" [.loc n] H P:=fq hn (cA k h)
theorem JQ{x y:Int}(k:0<y/\y<=1000000)(h:P (.tup [.int (j6 x y),.int (j7 x y)]) H):cE biT "divmod" [.int x,.int y] H P:=⟨k,h⟩
theorem yP{s:Cps}(h:P (.bool false) H):cE biT "isinstance" [.str s,.typ "bytes"] H P:=⟨rfl,h⟩
theorem Ya{n:Nat}{l:List AV}(hn:H[n]?=some (.list l))(h:P (.loc H.length) (H++[.iter n 0])):cE biT "iter" [.loc n] H P:=fq hn h
theorem vO{sep:Cps}{n:Nat}{l:List AV}{xs:List Cps}(hn:H[n]?=some (.list l))(hx:gM l=some xs)(k:okL ((xs.map b9).sum+xs.length*sep.length)=true)(h:P (.str (bq sep xs)) H):cE biT "str.join" [.str sep,.loc n] H P:=fq hn (cA hx ⟨k,h⟩)
theorem Yb{sep:Cps}{l:List AV}{xs:List Cps}(hx:gM l=some xs)(k:okL ((xs.map b9).sum+xs.length*sep.length)=true)(h:P (.str (bq sep xs)) H):cE biT "str.join" [.str sep,.tup l] H P:=by
 show x7 sep l λz=>P z H;exact cA hx ⟨k,h⟩
theorem Dk{s p:Cps}(h:P (.bool (eg p s)) H):cE biT "str.startswith" [.str s,.str p] H P:=h
theorem Yc{s p:Cps}(h:P (.bool (eg p.reverse s.reverse)) H):cE biT "str.endswith" [.str s,.str p] H P:=h
theorem Dl{s:Cps}{c:Nat}(k:okL s.length=true)(h:P (.loc H.length) (H++[.list ((bF c s).map .str)])):cE biT "str.split" [.str s,.str [c]] H P:=⟨k,h⟩
theorem Yd{s:Cps}{c:Nat}(k:okL s.length=true)(h:P (.int (iq c s)) H):cE biT "str.rfind" [.str s,.str [c]] H P:=⟨k,h⟩
theorem Ye{s:Cps}{c:Nat}(k:okL s.length=true)(h:P (.str (qk c s)) H):cE biT "str.rstrip" [.str s,.str [c]] H P:=⟨k,h⟩
theorem j0{n:Nat}{l:List AV}{d:AV}(hn:H[n]?=some (.list l))(k:okL l.length=true)(h:P .none (H.set n (.list (l++[d])))):cE biT "list.append" [.loc n,d] H P:=fq hn ⟨k,h⟩
theorem Yf{n m:Nat}{l r:List AV}(hn:H[n]?=some (.list l))(hm:H[m]?=some (.list r))(k:okL (l.length+r.length)=true)(h:P .none (H.set n (.list (l++r)))):cE biT "list.extend" [.loc n,.loc m] H P:=fq hn (fq hm ⟨k,h⟩)
theorem Yg{n:Nat}{l:List AV}{d:AV}(hn:H[n]?=some (.list l))(hd:l.getLast?=some d)(k:okL l.length=true)(h:P d (H.set n (.list l.dropLast))):cE biT "list.pop" [.loc n] H P:=fq hn (cA hd ⟨k,h⟩)
theorem Yh{n:Nat}{l:List AV}(hn:H[n]?=some (.list l))(k:okL l.length=true)(h:P .none (H.set n (.list []))):cE biT "list.clear" [.loc n] H P:=fq hn ⟨k,h⟩
theorem JR{n:Nat}{es:List (Cps × AV)}{v:Option Nat}{s:Cps}(hn:H[n]?=some (.dict es v))(h:P ((es.lookup s).getD .none) H):cE biT "dict.get" [.loc n,.str s] H P:=sV hn h
theorem Yi{n:Nat}{es:List (Cps × AV)}{v:Option Nat}(hn:H[n]?=some (.dict es v))(h:P (.vw n) H):cE biT "dict.values" [.loc n] H P:=sV hn h
theorem Yj{n:Nat}{l:List Cps}{s:Cps}(hn:H[n]?=some (.set l))(k:l.length<=1000)(h:P .none (if l.contains s then H else H.set n (.set (l++[s])))):cE biT "set.add" [.loc n,.str s] H P:=XU hn ⟨k,h⟩
theorem JS(h:P (.bool true) H):cE biT "issubclass" [.typ "str",.tup [.typ "str",.typ "bytes"]] H P:=⟨rfl,h⟩
theorem kQ{b:Int}(k:inB b=true)(h:P (.rng 0 b 1) H):cE tyT "range" [.int b] H P:=⟨k,h⟩
theorem JT{a b:Int}(k:inB a=true)(k':inB b=true)(h:P (.rng a b 1) H):cE tyT "range" [.int a,.int b] H P:=⟨k,k',h⟩
theorem Yk{a b c:Int}(k:inB a=true/\inB b=true/\(c=1\/c=-1))(h:P (.rng a b c) H):cE tyT "range" [.int a,.int b,.int c] H P:=⟨k,h⟩
theorem Dm{n:Nat}{l:List AV}(hn:H[n]?=some (.list l))(k:okL l.length=true)(h:P (.tup l) H):cE tyT "tuple" [.loc n] H P:=fq hn ⟨k,h⟩
theorem Yl{l:List AV}(k:okL l.length=true)(h:P (.loc H.length) (H++[.list l])):cE tyT "list" [.tup l] H P:=⟨k,h⟩
theorem Ym{n:Nat}{l:List AV}(hn:H[n]?=some (.list l))(k:okL l.length=true)(h:P (.bool (!l.isEmpty)) H):cE tyT "bool" [.loc n] H P:=fq hn ⟨k,h⟩
theorem Yn(h:P (.loc H.length) (H++[.set []])):cE tyT "set" [] H P:=⟨rfl,h⟩
theorem JU{s:Cps}(h:P (.typ "str") H):cE tyT "type" [.str s] H P:=h
theorem yeq{S:Sys}{id:String}{args:List AV}(h:cE biT id args H P):vy S (.bi id) args H P:=h
theorem yep{S:Sys}{a:Nat}{args:List AV}(h:S.Φ a args H P):vy S (.fn a) args H P:=h
theorem iW{s:Cps}{x:Str}{i:String}(k:strM.lookup x=some i)(h:Q (.bi i)):lQ T0 (.str s) x H Q:=cA k h
theorem ir{n:Nat}{l:List AV}{x:Str}{i:String}(hn:H[n]?=some (.list l))(k:listM.lookup x=some i)(h:Q (.bi i)):lQ T0 (.loc n) x H Q:=by
 show vt T0 x H H[n]? Q;rw[hn];exact cA k h
theorem Dn{n:Nat}{es:List (Cps × AV)}{v:Option Nat}{x:Str}{i:String}(hn:H[n]?=some (.dict es v))(k:dictM.lookup x=some i)(h:Q (.bi i)):lQ T0 (.loc n) x H Q:=by
 show vt T0 x H H[n]? Q;erw[hn];exact cA k h
theorem Yo{n:Nat}{l:List Cps}{x:Str}{i:String}(hn:H[n]?=some (.set l))(k:setM.lookup x=some i)(h:Q (.bi i)):lQ T0 (.loc n) x H Q:=by
 show vt T0 x H H[n]? Q;rw[hn];exact cA k h
theorem Yp{n c m:Nat}{fs:List (Str × AV)}{x:Str}{f:Nat}(hn:H[n]?=some (.inst c m))(hm:H[m]?=some (.ns fs))(k:fs.lookup x=none)(k':T0.meth c x=some f)(h:Q (.fn f)):lQ T0 (.loc n) x H Q:=by
 show vt T0 x H H[n]? Q;erw[hn];exact sU hm ⟨k,cA k' h⟩
theorem yQ{n c m:Nat}{fs:List (Str × AV)}{x:Str}{d:AV}(hn:H[n]?=some (.inst c m))(hm:H[m]?=some (.ns fs))(ho:T0.own c x=true)(k:fs.lookup x=some d)(kb:oz d=true)(h:Q d):ji T0 (.loc n) x H Q:=by
 show x4 T0 n x H H[n]? Q;erw[hn];exact ⟨ho,sU hm (cA k ⟨kb,h⟩)⟩
theorem Do{n c m i:Nat}{vs:List AV}{fs:List (Str × AV)}{x:Str}{d:AV}(hn:H[n]?=some (.slots c m vs))(hm:H[m]?=some (.ns fs))(ho:T0.slot c x=some i)(k:vs[i]?=some d)(kb:oz d=true)(h:Q d):ji T0 (.loc n) x H Q:=by
 show x4 T0 n x H H[n]? Q;erw[hn];exact cA ho (sU hm (cA k ⟨kb,h⟩))
theorem Yq{n m j:Nat}(hn:H[n]?=some (.iter m j))(h:Q (.nxt n)):ji T0 (.loc n) "__next__" H Q:=by
 show x4 T0 n _ H H[n]? Q;erw[hn];exact ⟨rfl,h⟩
theorem qD{n c m:Nat}{fs:List (Str × AV)}{x:Str}{d:AV}{R:List AO->Prop}(hn:H[n]?=some (.inst c m))(hm:H[m]?=some (.ns fs))(ho:T0.own c x=true)(k:fs.length<=50)(h:R (H.set m (.ns (eV x d fs)))):mx T0 (.loc n) x d H R:=by
 show x5 T0 n x d H H[n]? R;erw[hn];exact ⟨ho,sU hm ⟨k,h⟩⟩
theorem Yr{n c m i:Nat}{vs:List AV}{fs:List (Str × AV)}{x:Str}{d:AV}{R:List AO->Prop}(hn:H[n]?=some (.slots c m vs))(hm:H[m]?=some (.ns fs))(ho:T0.slot c x=some i)(k:i<vs.length)(h:R (H.set n (.slots c m (vs.set i d)))):mx T0 (.loc n) x d H R:=by
 show x5 T0 n x d H H[n]? R;erw[hn];refine cA ho (sU hm ?_);rw[if_pos k];exact h
theorem Dp{n c m:Nat}{vs:List AV}{fs:List (Str × AV)}{x:Str}{d:AV}{R:List AO->Prop}(hn:H[n]?=some (.slots c m vs))(hm:H[m]?=some (.ns fs))(ho:T0.slot c x=some vs.length)(h:R (H.set n (.slots c m (vs++[d])))):mx T0 (.loc n) x d H R:=by
 show x5 T0 n x d H H[n]? R;erw[hn];refine cA ho (sU hm ?_);rw[if_neg (lc _)];exact ⟨rfl,h⟩
theorem yR{n:Nat}{es:List (Cps × AV)}{v:Option Nat}{s:Cps}{d:AV}{R:List AO->Prop}(hn:H[n]?=some (.dict es v))(k:es.length<=1000)(h:R (H.set n (.dict (b7 s d es) (if es.any (·.1==s) then v else v.map (·+1))))):CA (.loc n) (.str s) d H R:=sV hn ⟨k,h⟩
theorem Ys{n:Nat}{es:List (Cps × AV)}{v:Option Nat}{s:Cps}{R:List AO->Prop}(hn:H[n]?=some (.dict es v))(k:es.any (·.1==s)=true)(k':es.length<=1000)(h:R (H.set n (.dict (es.filter λe=>!(e.1==s)) none))):x6 (.loc n) (.str s) H R:=sV hn ⟨k,k',h⟩
theorem qE{l:List AV}{C:Src->Prop}(k:okL l.length=true)(h:C (.fix l)):jY (.tup l) H C:=⟨k,h⟩
theorem gT{n:Nat}{l:List AV}{C:Src->Prop}(hn:H[n]?=some (.list l))(k:okL l.length=true)(h:C (.list n l)):jY (.loc n) H C:=by
 show CB n H[n]? C;erw[hn];exact ⟨k,h⟩
theorem Yt{n e:Nat}{es:List (Cps × AV)}{C:Src->Prop}(hn:H[n]?=some (.dict es (some e)))(k:okL es.length=true)(h:C (.keys n es e)):jY (.loc n) H C:=by
 show CB n H[n]? C;erw[hn];exact ⟨k,h⟩
theorem Yu{n e:Nat}{es:List (Cps × AV)}{C:Src->Prop}(hn:H[n]?=some (.dict es (some e)))(k:okL es.length=true)(h:C (.vals n es e)):jY (.vw n) H C:=sV hn ⟨k,h⟩
section
variable{as:AV->Vs->List AO->PrS->Prop}{bd:TrF}{src:Src}{vs:Vs}{H:List AO}{R:Option Fl->PrS}
theorem eY(hs:src.ok H)(h:R none vs H):foW as bd src R [] vs H:=⟨hs,h⟩
theorem fE{d:AV}{l:List AV}(hs:src.ok H)(h:as d vs H (HI bd (my (foW as bd src R l) R))):foW as bd src R (d::l) vs H:=⟨hs,h⟩
theorem Yv{i j n m:Nat}{l:List AV}(hs:H[n]?=some (.list l))(h:R none vs H):feW i j bd n l R m [] vs H:=⟨hs,h⟩
theorem Yw{i j n m:Nat}{l r:List AV}{d:AV}(hs:H[n]?=some (.list l))(h:bd (dB (dB vs i (.int m)) j d) H (my (feW i j bd n l R (m+1) r) R)):feW i j bd n l R m (d::r) vs H:=⟨hs,h⟩
theorem Dq{ts:TrB}{n:Nat}(h:ts vs H (whB bd (whW ts bd R n) R)):whW ts bd R (n+1) vs H:=h
end
section
variable{ts:TrB}{el ek ev:TrV}{t:Nat}{src:Src}{vs:Vs}{H:List AO}
theorem gU{R:List AV->PrS}(hs:src.ok H)(h:R [] vs H):lcW ts el t src [] R vs H:=⟨hs,h⟩
theorem fF{d:AV}{l:List AV}{R:List AV->PrS}(hs:src.ok H)(h:ts (dB vs t d) H (lcB el (lcW ts el t src l) R)):lcW ts el t src (d::l) R vs H:=⟨hs,h⟩
theorem JV{aa:List (Cps × AV)}{R:List (Cps × AV)->PrS}(hs:src.ok H)(h:R aa vs H):dcW ek ev t src R [] aa vs H:=⟨hs,h⟩
theorem JW{d:AV}{l:List AV}{aa:List (Cps × AV)}{R:List (Cps × AV)->PrS}(hs:src.ok H)(h:ek (dB vs t d) H (dcB ev (dcW ek ev t src R l) aa)):dcW ek ev t src R (d::l) aa vs H:=⟨hs,h⟩
theorem yd6{c:Cps}{f:Cps->Prop}(h:f c):(AV.str c).onS f:=h
theorem ycl{c:Nat}{f:Nat->Prop}(h:f c):(AV.loc c).onL f:=h
end
end
theorem ce{n:Nat}(h:n<=100000):okL n=true:=decide_eq_true h
section
variable{α:Type}{a b c d:α}
theorem jr:okL ([]:List α).length=true:=rfl
theorem vP:okL [a].length=true:=rfl
theorem js:okL [a,b].length=true:=rfl
theorem s0:okL [a,b,c].length=true:=rfl
theorem yel:okL [a,b,c,d].length=true:=rfl
end
noncomputable abbrev nth:MB->Nat->MS
 |.cons s _,0=>s
 |.cons _ r,n+1=>nth r n
 |.nil,_=>.pass
noncomputable abbrev eh:MS->MB
 |.for_ _ _ b _=>b
 |.forE _ _ _ b=>b
 |.whl _ b _=>b
 |.tryB b=>b
 |_=>.nil
noncomputable def gz(a b:Cps):Cps:=if eg [47] b=true\/a=[] then b else if eg [47] a.reverse=true then a++b else a++(47::b)
theorem vQ{n:Nat}{c:Cps}{H:List AO}{P:AV->List AO->Prop}(h:P (.str c) H):Φ (n+1) 242 [.str c] H P:=by
 refine dP rfl rfl (ds:=[("path",.str c)]) rfl (vs:=[some (.str c),none,none,none,none,none,none,none,none,none,none,none]) rfl ?_;exists JU;exists cV js;exists JS;exists iV;exists cI rfl;exact h
theorem JX{n:Nat}{c:Cps}{H:List AO}{P:AV->List AO->Prop}(h:P (.str [47]) H):Φ (n+1) 256 [.str c] H P:=by
 refine dP rfl rfl (ds:=[("path",.str c)]) rfl (vs:=[some (.str c),none,none,none,none,none,none,none,none]) rfl ?_;exists yP;exists iV;exists b8 rfl;exact h
theorem JY{n:Nat}{a b:Cps}{H:List AO}{P:AV->List AO->Prop}(hz:a.length+b.length<100000)(h:P (.str (gz a b)) H):Φ (n+2) 263 [.str a,.str b] H P:=by
 refine dP rfl rfl (ds:=[("a",.str a),("p",.tup [.str b])]) rfl (vs:=[some (.str a),some (.tup [.str b]),none,none,none,none,none,none,none,none,none,none,none]) rfl ?_;exists vQ;exists JX;exists qE vP;refine fE trivial ?_;exists vQ;exists iW (i:="str.startswith") rfl;exists Dk;exists iV;have ka:okL a.length=true:=ce (le2 (dR (bk hz)) rfl);refine ifb (λc1=>?_) (λc1=>?_)
 ·exists cI c1;refine eY trivial ?_;rw[gz,if_pos (.inl c1)] at h;exact h
 exists qB ka;refine ifb (λc2=>?_) (λc2=>?_)
 ·exists cI c2;refine eY trivial ?_;rw[gz,if_pos (.inr (by induction a using bI<;>first|rfl|injection c2))] at h
  exact h
 have c3:¬ (eg [47] b=true\/a=[]):=by
  rintro (q|q)
  ·rw[c1] at q;injection q
  ·clear hz ka h;subst q;injection c2
 rw[gz,if_neg c3] at h;exists b8 rfl;exists iW (i:="str.endswith") rfl;exists Yc;exists iV;refine ifb (λc4=>?_) (λc4=>?_)
 ·exists JK (ce (bk hz));refine eY trivial ?_;rw[if_pos (show eg [47] a.reverse=true from c4)] at h;exact h
 ·exists oK (ce (show 1+b.length<=_ by exact ac2 (dL hz)));exists JK (ce (show a.length+(b.length+1)<=_ by lia));refine eY trivial ?_;rw[if_neg (E8 _▸(show eg [47] a.reverse=false from c4))] at h;exact h
noncomputable def eL(p:Cps):Cps × Cps:=if bh p none (some 1)≠[47] then ([],p) else if bh p (some 1) (some 2)≠[47]\/bh p (some 2) (some 3)=[47] then ([47],bh p (some 1) none) else (bh p none (some 2),bh p (some 2) none)
theorem nw{α:Type}[BEq α][LawfulBEq α]{a b:α}(h:(!(a==b))=true):a≠b:=λe=>by subst e;simp at h
theorem ny{α:Type}[BEq α][LawfulBEq α]{a b:α}(h:(!(a==b))=false):a=b:=by simpa using h
theorem Yx{n:Nat}{p:Cps}{H:List AO}{P:AV->List AO->Prop}(hz:p.length<=100000)(h:P (.tup [.str [],.str (eL p).1,.str (eL p).2]) H):Φ (n+2) 270 [.str p] H P:=by
 refine dP rfl rfl (ds:=[("p",.str p)]) rfl (vs:=[some (.str p),none,none,none,none,none,none,none,none,none,none]) rfl ?_;have k:=ce hz;exists vQ;exists yP;exists iV;exists b8 rfl;exists oL k rfl (eB rfl);exists jq;refine ifb (λc1=>?_) (λc1=>?_)
 ·exists cV s0;rw[eL,if_pos (nw c1)] at h;exact h
 rw[eL,if_neg (λq=>q (ny c1))] at h;exists oL k (eB rfl) (eB rfl);exists jq;refine ifb (λc2=>?_) (λc2=>?_)
 ·exists cI c2;exists oL k (eB rfl) rfl;exists cV s0;rw[if_pos (.inl (nw c2))] at h;exact h
 exists oL k (eB rfl) (eB rfl);exists vM;refine ifb (λc3=>?_) (λc3=>?_)
 ·exists cI c3;exists oL k (eB rfl) rfl;exists cV s0;rw[if_pos (.inr (eq_of_beq c3))] at h;exact h
 exists b8 rfl;exists oL k rfl (eB rfl);exists oL k (eB rfl) rfl;exists cV s0;rw[if_neg (λq=>q.elim (λq=>q (ny c2)) (λq=>by rw[q] at c3;injection c3))] at h;exact h
noncomputable def iu(p:Cps):Cps:=let uS:=bh p none (some (iq 47 p+1));if uS≠[]/\uS≠j8 uS.length 47 then qk 47 uS else uS
theorem bJ{z:Int}(h1:-1000000<=z)(h2:z<=1000000):inB z=true:=by
 unfold inB;erw[ie,decide_eq_true_eq,decide_eq_true_eq];exact ⟨EH (by decide) h1,q0 h2 (by decide)⟩
theorem JZ{p:Cps}(hz:p.length<=100000):inB (iq 47 p+1)=true:=by
 have:=List.findIdx_le_length (p:=λx=>x==47) (xs:=p.reverse);rw[z7] at this;unfold iq;apply bJ<;>lia
theorem J0{n:Nat}{p:Cps}{H:List AO}{P:AV->List AO->Prop}(hz:p.length<=100000)(h:P (.str (iu p)) H):Φ (n+2) 277 [.str p] H P:=by
 refine dP rfl rfl (ds:=[("p",.str p)]) rfl (vs:=[some (.str p),none,none,none,none,none,none,none,none,none,none,none]) rfl ?_;have k:=ce hz;have hl:=CI p none (some (iq 47 p+1));have k2:okL (bh p none (some (iq 47 p+1))).length=true:=ce (ah hl hz);exists vQ;exists JX;exists iW (i:="str.rfind") rfl;exists Yd k;exists lR (JZ hz);exists oL k rfl (eB (JZ hz));exists qB k2;have hc:(0:Int)<=((bh p none (some (iq 47 p+1))).length:Int)/\((bh p none (some (iq 47 p+1))).length:Int)<=100000/\okL ([47].length*((bh p none (some (iq 47 p+1))).length:Int).toNat)=true:=⟨by exact dw _,by exact upI (ah hl hz) rfl,by erw[j9,eR,Nat.one_mul];exact k2⟩;unfold iu at h;generalize bh p none (some (iq 47 p+1))=q at *;have c0:(j8 (q.length:Int).toNat [47]).flatten=j8 q.length 47:=by simp
 refine ifn (λc1=>?_) (λc1=>?_)
 ·exists b8 c1;rw[if_neg (λw=>w.1 (by induction q using bI<;>first|rfl|injection c1))] at h
  exact h
 exists X9 k2;exists X0 hc;erw[c0];exists jq;refine ifn (λc2=>?_) (λc2=>?_)
 ·exists b8 c2;rw[if_neg (λw=>w.2 (ny c2))] at h;exact h
 exists cI rfl;exists iW (i:="str.rstrip") rfl;exists Ye k2;rw[if_pos ⟨λe=>(by clear c0 k2 h hc hl c2;subst e;injection c1),nw c2⟩] at h;exact h
noncomputable def aA(names:List Cps):Cps:=47::bq [47] names
theorem qF:∀(l:List Cps),gM (l.map AV.str)=some l:=λl=>by
 induction l with
 |nil=>exact  rfl
 |cons x l ih=>
  erw[bX,gM,ih];rfl
theorem qG:∀l:List Cps,(bq [47] l).length<=(l.map b9).sum+l.length
 |[]=>bW _
 |[x]=>by simp[bq]
 |x::y::r=>by
  have:=qG (y::r);simp only[bq,bx,bX,Nn,bC,fu] at this ⊢;lia
theorem Yy{n:Nat}{l:List Cps}{H:List AO}{P:AV->List AO->Prop}(hz:(l.map b9).sum+l.length<100000)(h:P (.str (aA l)) H):Φ (n+1) 296 [.tup (l.map AV.str)] H P:=by
 refine dP rfl rfl (ds:=[("names",.tup (l.map AV.str))]) rfl (vs:=[some (.tup (l.map AV.str)),none,none,none,none,none,none,none,none]) rfl ?_;have:=qG l;exists iW (i:="str.join") rfl
 with_reducible refine Yb (qF l) (ce (by erw[eR];lia)) ?_
 with_reducible refine oK (ce (by erw[eR];lia)) ?_
 exact h
theorem Yz{n k:Nat}{l:List Cps}{H:List AO}{P:AV->List AO->Prop}(hk:H[k]?=some (.list (l.map AV.str)))(hz:(l.map b9).sum+l.length<100000)(h:P (.str (aA l)) H):Φ (n+1) 296 [.loc k] H P:=by
 refine dP rfl rfl (ds:=[("names",.loc k)]) rfl (vs:=[some (.loc k),none,none,none,none,none,none,none,none]) rfl ?_;have:=qG l;exists iW (i:="str.join") rfl
 with_reducible refine vO hk (qF l) (ce (by erw[eR];lia)) ?_
 with_reducible refine oK (ce (by erw[eR];lia)) ?_
 exact h
theorem YA{n:Nat}{a b:Int}{H:List AO}{P:AV->List AO->Prop}(k:inB (a+b)=true)(h:P (.int (a+b)) H):Φ (n+1) 28 [.int a,.int b] H P:=by
 refine dP rfl rfl (ds:=[("a",.int a),("b",.int b)]) rfl (vs:=[some (.int a),some (.int b),none,none,none,none,none,none,none,none]) rfl ?_;exists lR k;exact h
theorem YB{n:Nat}{a b:Int}{H:List AO}{P:AV->List AO->Prop}(h:P (.int (wy a b)) H):Φ (n+1) 35 [.int a,.int b] H P:=by
 refine dP rfl rfl (ds:=[("a",.int a),("b",.int b)]) rfl (vs:=[some (.int a),some (.int b),none,none,none,none,none,none,none,none]) rfl ?_;exists XZ;exact h
theorem J1{n k:Nat}{s:Cps}{d:AV}{es:List (Cps × AV)}{v:Option Nat}{H:List AO}{P:AV->List AO->Prop}(hk:H[k]?=some (.dict es v))(hd:es.lookup s=some d)(h:P d H):Φ (n+1) 42 [.loc k,.str s] H P:=by
 refine dP rfl rfl (ds:=[("a",.loc k),("b",.str s)]) rfl (vs:=[some (.loc k),some (.str s),none,none,none,none,none,none,none,none]) rfl ?_;exists qC hk hd;exact h
theorem Dr{n k:Nat}{s:Cps}{d:AV}{es:List (Cps × AV)}{v:Option Nat}{H:List AO}{P:AV->List AO->Prop}(hk:H[k]?=some (.dict es v))(hz:es.length<=1000)(h:P .none (H.set k (.dict (b7 s d es) (if es.any (·.1==s) then v else v.map (·+1))))):Φ (n+1) 49 [.loc k,.str s,d] H P:=by
 refine dP rfl rfl (ds:=[("a",.loc k),("b",.str s),("c",d)]) rfl (vs:=[some (.loc k),some (.str s),some d,none,none,none,none,none,none,none,none]) rfl ?_;exists yR hk hz;exact h
noncomputable def dQ(cX:Cps)(aa:List Cps)(c:Cps):List Cps :=
 if c=[]\/c=[46] then aa
 else if c≠[46,46]\/(cX=[]/\aa=[])\/(aa≠[]/\aa.getLast?=some [46,46]) then aa++[c]
 else aa.dropLast
noncomputable def iX(p:Cps):Cps:=if p=[] then [46] else
 let new:=(bF 47 (eL p).2).foldl (dQ (eL p).1) []
 let rU:=(eL p).1++bq [47] new
 if rU=[] then [46] else rU
theorem J2(cX:Cps)(aa:List Cps)(c:Cps):(dQ cX aa c).length<=aa.length+1:=by
 unfold dQ;split
 ·exact bK _ _
 ·split
  ·simp
  ·simp;exact bk (bK _ _)
noncomputable abbrev Ds:MB:=eh (nth i284.body 6)
theorem J3(l:List Cps)(x:Cps)(h:l.getLast?=some x):((cZ l.length (-1)).bind λj=>(l.map AV.str)[j]?)=some (.str x):=by
 induction l using bI with
 |nil=>simp at h
 |cons a r=>
  have:cZ ((a::r).length) (-1)=some r.length:=by
   unfold cZ;simp;lia
  erw[this];simp only[rq,ga];rw[MG] at h;simp at h;simp[h]
noncomputable def bP(l:List Cps):Nat:=(l.map b9).sum
theorem J4(a b:List Cps):bP (a++b)=bP a+bP b:=by simp[bP]
theorem j2(a:Cps)(b:List Cps):bP (a::b)=a.length+bP b:=by simp[bP]
theorem J5(a:List Cps):bP a.dropLast<=bP a:=by
 induction a with
 |nil=>simp
 |cons x r ih=>induction r using bI with
  |nil=>simp[bP]
  |cons y r=>erw[List.dropLast_cons_cons,j2,j2];exact fH ih _
theorem YC(cX:Cps)(aa:List Cps)(c:Cps):bP (dQ cX aa c)<=bP aa+c.length:=by
 unfold dQ;split
 ·exact bK _ _
 ·split
  ·erw[J4];simp[bP]
  ·have:=J5 aa;exact gE this
theorem YD(cX:Cps):∀(l aa:List Cps),bP (l.foldl (dQ cX) aa)<=bP aa+bP l:=λl=>by
 induction l with
 |nil=>
  intro aa;simp[bP]
 |cons c l ih=>
  intro aa;have:=ih (dQ cX aa c);have h2:=YC cX aa c;erw[j2];simp only[cB];exact lH this h2
theorem YE(cX:Cps):∀(l aa:List Cps),(l.foldl (dQ cX) aa).length<=aa.length+l.length:=λl=>by
 induction l with
 |nil=>
  intro aa;simp
 |cons c l ih=>
  intro aa;have:=ih (dQ cX aa c);have h2:=J2 cX aa c;simp only[cB,bC];exact lG this h2
theorem yS(c:Nat):∀s:Cps,bP (bF c s)+(bF c s).length=s.length+1/\bF c s≠[]:=λs=>by
 induction s with
 |nil=>
  simp[bF,bP]
 |cons x r ih=>
  refine e02 ih ?_;clear ih;intro h1 h2;unfold bF;split
  ·erw[j2];simp;exact fJ (cr (aE h1)) (cr (aE h1.symm))
  ·cases hs:bF c r with
   |nil=>exact absurd hs h2
   |cons y t=>rw[hs] at h1;rw[j2] at h1 ⊢;simp at h1 ⊢;exact (congrArg (Fk · _) (gC _ _ _)).trans ((gC _ _ _).trans (congrArg nG h1))
theorem yT:∀{l:List Cps},x∈l->x.length<=bP l
 |y::l,h=>by
  erw[j2];rcases bu.mp h with rfl|h
  ·exact bK _ _
  ·have:=yT h;exact wD this
theorem YF(p:Cps):(eL p).1.length<=2/\(eL p).2.length<=p.length:=by
 have h1:∀a b:Option Int,(bh p a b).length<=p.length:=λa b=>by unfold bh;simp only[i5,tv];exact ah (rf _ _) (gb _ _)
 unfold eL;split
 ·simp
 ·split
  ·exact ⟨by simp,h1 _ _⟩
  ·refine ⟨?_,h1 _ _⟩;unfold bh;simp[jh];exact MA _ _
theorem YG{α:Type}{l:List α}{i:Nat}{a:α}(h:l[i]?=some a):l.set i a=l:=by
 refine e11 (ei.mp h) λh1 h2=>?_;erw[<- h2,MK]
theorem J6{α:Type}{l:List α}{i:Nat}{a b:α}(h:l[i]?=some a):(l.set i b)[i]?=some b:=by erw[wr (ei.mp h).1]
theorem J7{α:Type}{l:List α}{i j:Nat}{a b:α}(h:l[j]?=some a)(hn:i≠j):(l.set i b)[j]?=some a:=by erw[mN hn];exact h
theorem isE{α:Type}{l:List α}(h:l.isEmpty=true):l=[]:=i6.mp h
theorem isN{α:Type}{l:List α}(h:l.isEmpty=false):l≠[]:=λe=>by rw[e] at h;injection h
theorem Dt{l:List Cps}(h:(!(l.map AV.str).isEmpty)=false):l=[]:=by induction l using bI<;>first|rfl|injection h
theorem yU{l:List Cps}(h:(!(l.map AV.str).isEmpty)=true):l≠[]:=λe=>by subst e;injection h
theorem nt{b:Bool}(h:(!b)=true):b=false:=by induction b using dN<;>first|rfl|injection h
theorem nf{b:Bool}(h:(!b)=false):b=true:=by induction b using dN<;>first|rfl|injection h
theorem iv{vs:Vs}{i:Nat}{d:AV}{Q:AV->Prop}(h:hY vs i=some d)(k:Q d):vrW vs i Q:=by unfold vrW;erw[h];exact k
theorem YH{n m:Nat}{aa:List Cps}{x:Cps}{vs:Vs}{H:List AO}{P:Bool->PrS}(h7:hY vs 7=some (.loc m))(h3:hY vs 3=some (.str [46,46]))(hm:H[m]?=some (.list (aa.map .str)))(ka:okL (aa.map AV.str).length=true)(hx:aa.getLast?=some x)(h:P (x==[46,46]) vs H) :
  WAl (Sy n) .Or (.cons (.all .And (.cons (.val (.var 7)) (.cons (.cmp (.idx (.var 7) (.un .USub (.cst (.int 1)))) .Eq (.var 3)) .nil))) .nil) vs H P:=by
 have hi:=J3 _ _ hx;rw[<- aK (f:=AV.str)] at hi;have ha:(!(aa.map AV.str).isEmpty)=true:=by induction aa using bI<;>first|rfl|injection hx
 refine iv h7 (sW hm ka ?_);refine yK ha (iv h7 ⟨rfl,rfl,d7 hm rfl hi (iv h3 (vM ?_))⟩);cases hb:x==[46,46]
 ·rw[hb] at h;exact h
 ·rw[hb] at h;exact h
theorem YI{n m:Nat}{aa:List Cps}{x c:Cps}{vs:Vs}{H:List AO}{P:Fl->PrS}(h7:hY vs 7=some (.loc m))(h3:hY vs 3=some (.str [46,46]))(h8:hY vs 8=some (.str c))(hm:H[m]?=some (.list (aa.map .str)))(ka:okL (aa.map AV.str).length=true)(hx:aa.getLast?=some x)
  (hT:(x==[46,46])=true->P .next vs (H.set m (.list (aa.map AV.str++[.str c])))) (hF:(x==[46,46])=false->P .next vs (H.set m (.list (aa.map AV.str).dropLast))) :
  WAl (Sy n) .Or (.cons (.all .And (.cons (.val (.var 7)) (.cons (.cmp (.idx (.var 7) (.un .USub (.cst (.int 1)))) .Eq (.var 3)) .nil))) .nil) vs H (HL (WB (Sy n) (.cons (.exp (.mth (.var 7) "append" (.cons (.var 8) .nil))) .nil)) (WB (Sy n) (.cons (.ite (.val (.var 7)) (.cons (.exp (.mth (.var 7) "pop" .nil)) .nil) .nil) .nil)) P):=by
 refine YH h7 h3 hm ka hx ?_;have ha:(!(aa.map AV.str).isEmpty)=true:=by induction aa using bI<;>first|rfl|injection hx
 refine ifb (λc1=>?_) (λc1=>?_)
 ·exact iv h7 (ir hm rfl (iv h8 (j0 hm ka (hT c1))))
 ·refine iv h7 (sW hm ka ?_);refine cI ha (iv h7 (ir hm rfl (Yg hm (by erw[List.getLast?_map,hx];rfl) ka (hF c1))))
theorem YJ{n k m:Nat}{rU cX:Cps}{rV:List Cps}{v4:Option AV}{R:Option Fl->PrS}(hw:∀c∈rV,c.length<=100000)(hr:cX.length<=100000)(GM:m≠k) :
  ∀(l aa:List Cps) (v8:Option AV) (H:List AO),(∀c∈l,c∈rV)->aa.length+l.length<=100000->H[k]?=some (.list (rV.map .str))->H[m]?=some (.list (aa.map .str)) ->
   (∀v8,R none [some (.str rU),some (.str [47]),some (.str [46]),some (.str [46,46]),v4,some (.str cX),some (.loc k),some (.loc m),v8,none,none,none,none,none,none,none,none] (H.set m (.list ((l.foldl (dQ cX) aa).map .str)))) ->
   foW (WA (Sy n) (.nm 8)) (WB (Sy n) Ds) (.list k (rV.map .str)) R (l.map .str) [some (.str rU),some (.str [47]),some (.str [46]),some (.str [46,46]),v4,some (.str cX),some (.loc k),some (.loc m),v8,none,none,none,none,none,none,none,none] H:=λl=>by
 induction l with
 |nil=>exact λaa v8 H zz zz hk hm hR=>eY hk (by have:=hR v8;rw[List.foldl_nil,YG hm] at this;exact this)
 |cons c l ih=>
  intro aa v8 H hl hz hk hm hR;refine fE hk ?_;have kc:okL c.length=true:=ce (hw c (hl c aG));have ka:okL (aa.map AV.str).length=true:=ce (by erw[aK];exact ah (bK _ _) hz);have kr:okL cX.length=true:=ce hr;have hs:=J2 cX aa c;rw[bC] at hz;have go:=λH' h1 h2 (h3:∀X,H'.set m X=H.set m X)=>ih (dQ cX aa c) (some (.str c)) H' (λx hx=>hl x (aL _ hx)) (lF hz hs) h1 h2 λv=>by erw[h3];exact hR v
  have keep:dQ cX aa c=aa->_:=λe=>go H hk (e.symm▸hm) λzz=>rfl;have app:dQ cX aa c=aa++[c]->_:=λe=>go (H.set m (.list (aa.map AV.str++[.str c]))) (J7 hk GM) (by erw[e,cf];exact J6 hm) λX=>No ..;have pop:dQ cX aa c=aa.dropLast->_:=λe=>go (H.set m (.list (aa.map AV.str).dropLast)) (J7 hk GM) (by erw[e,An];exact J6 hm) λX=>No ..;clear go hR;exists qB kc;refine ifb (λc1=>?_) (λc1=>?_)
  ·exists cI c1;exact keep (if_pos (.inl (isE (nf (nt c1)))))
  exists vM;have d1:=isN (nt (nf c1));refine ifb (λc2=>?_) (λc2=>?_)
  ·exists cI c2;exact keep (if_pos (.inr (eq_of_beq c2)))
  have s1:dQ cX aa c=_:=if_neg λq=>q.elim d1 λq=>absurd (beq_iff_eq.mpr q) (by erw[c2];exact zQ);exists b8 rfl;exists jq;refine ifb (λc3=>?_) (λc3=>?_)
  ·exists cI c3;exists ir hm rfl;exists j0 hm ka;exact app (s1.trans (if_pos (.inl (nw c3))))
  have d3:¬ c≠[46,46]:=λq=>q (ny c3);exists qB kr;have OG:aa≠[]->∃x,aa.getLast?=some x/\((x==[46,46])=true->dQ cX aa c=aa++[c])/\((x==[46,46])=false->(cX≠[]\/aa≠[])->dQ cX aa c=aa.dropLast):=λha=>
   ⟨aa.getLast ha,tA ha,λq=>s1.trans (if_pos (.inr (.inr ⟨ha,by erw[tA ha,eq_of_beq q]⟩))),λq zz=>s1.trans (if_neg λw=>w.elim d3 λw=>w.elim (λw=>ha w.2) λw=>by
    rw[tA ha] at w;rw[l5 w.2] at q;injection q)⟩
  have ne:aa≠[]->_:=λha=>(OG ha).elim λx q=>YI (n:=n) (c:=c) (vs:=[some (.str rU),some (.str [47]),some (.str [46]),some (.str [46,46]),v4,some (.str cX),some (.loc k),some (.loc m),some (.str c),none,none,none,none,none,none,none,none]) (P:=onF (my (foW (WA (Sy n) (.nm 8)) (WB (Sy n) Ds) (.list k (rV.map .str)) R (l.map .str)) R) (qn (WB (Sy n) .nil) (my (foW (WA (Sy n) (.nm 8)) (WB (Sy n) Ds) (.list k (rV.map .str)) R (l.map .str)) R))) rfl rfl rfl hm ka q.1 (λw=>app (q.2.1 w)) λw=>pop (q.2.2 w (.inr ha));refine ifn (λc4=>?_) (λc4=>?_)
  ·refine b8 c4 ?_;induction aa using bI with
   |nil=>
    exists sW hm ka;refine Dh rfl (b8 rfl (b8 rfl ?_));exists sW hm ka;refine b8 rfl ?_;exact keep (s1.trans (if_neg λw=>w.elim d3 λw=>w.elim (λw=>isN (nt (nf c4)) w.1) λw=>w.1 rfl))
   |cons a r=>exact ne nofun
  ·exists sW hm ka;refine ifn (λc5=>?_) (λc5=>?_)
   ·refine b8 c5 ?_;exact ne (yU (nf c5))
   ·refine cI rfl ?_;exists cI rfl;exists ir hm rfl;exists j0 hm ka;exact app (s1.trans (if_pos (.inr (.inl ⟨isE (nf (nt c4)),Dt (nt c5)⟩))))
theorem aN{H:List AO}{a:AO}:(H++[a])[H.length]?=some a:=by erw[wJ (aq _),tw];rfl
theorem au{H G:List AO}{k:Nat}{a:AO}(h:H[k]?=some a):(H++G)[k]?=some a:=by rw[lf (ei.mp h).1];exact h
theorem ltG{H:List AO}{k:Nat}{a:AO}(h:H[k]?=some a):k<H.length:=(ei.mp h).1
theorem Du{H:List AO}{a b:AO}:(H++[a]).set H.length b=H++[b]:=by erw[Ah _ _ (aq _),tw];rfl
theorem yer{H G:List AO}{b:AO}{k:Nat}:(H++G).set (H.length+k) b=H++G.set k b:=by erw[Ah _ _ (bK _ _),wF]
theorem YK{H:List AO}{a:AO}:(H++[a]).length=H.length+1:=bx
theorem okm{α:Type}{f:α->AV}{l:List α}{k:Nat}(h:l.length<=k)(hk:k<=100000):okL (l.map f).length=true:=ce (by erw[aK];exact ah h hk)
theorem J8{n:Nat}{p:Cps}{H:List AO}{P:AV->List AO->Prop}(hz:p.length<=1000)(h:∀G,P (.str (iX p)) (H++G)):Φ (n+3) 284 [.str p] H P:=by
 refine dP rfl rfl (ds:=[("path",.str p)]) rfl (vs:=[some (.str p),none,none,none,none,none,none,none,none,none,none,none,none,none,none,none,none]) rfl ?_;have k1:okL p.length=true:=ce (ah hz (by decide));have hr:=YF p;have hs:=yS 47 (eL p).2;exists vQ;exists yP;exists iV;exists b8 rfl;exists qB k1;unfold iX at h;refine ifb (λc1=>?_) (λc1=>?_)
 ·rw[if_pos (isE (nf (nt c1)))] at h;have:=h [];rw[c9] at this;exact this
 rw[if_neg (isN (nt (nf c1)))] at h;exists Yx (ah hz (by decide));exists iW (i:="str.split") rfl;exists Dl (ce (le2 (ah hr.2 hz) rfl));exists cV jr;refine gT (au aN) (okm (k:=1001) (le2 (ah (dL (aE hs.1)) (aF (ah hr.2 hz) (aq _))) rfl) (by decide)) ?_;refine YJ (n:=n+2) (λc hc=>by have:=yT hc;exact le2 (ah this (ah (dR (aE hs.1)) (aF (ah hr.2 hz) (aq _)))) rfl) (le2 hr.1 rfl) (by erw[YK];exact wG _) (bF 47 (eL p).2) [] none _ (λc h=>h) (by erw[fu];exact le2 (aF (aq _) (ah (dL (aE hs.1)) (aF (ah hr.2 hz) (aq _)))) rfl) (au aN) aN λv8=>?_;have l1:=YD (eL p).1 (bF 47 (eL p).2) [];have l2:=YE (eL p).1 (bF 47 (eL p).2) [];generalize (bF 47 (eL p).2).foldl (dQ (eL p).1) []=new at *;replace l1:bP new<=0+bP (bF 47 (eL p).2):=l1;replace l2:new.length<=0+(bF 47 (eL p).2).length:=l2;have l3:=qG new;have l4:(new.map b9).sum=bP new:=rfl;erw[Du];exists iW (i:="str.join") rfl;refine vO aN (qF new) (ce (by erw[eR];exact le2 (aF (ah (aE l4) (ah l1 (aF (aq _) (ah (dR (aE hs.1)) (aF (ah hr.2 hz) (aq _)))))) (Ao _ (ah l2 (aF (aq _) (ah (dL (aE hs.1)) (aF (ah hr.2 hz) (aq _))))))) rfl)) ?_;have j1:(bq [47] new).length<=bP new+new.length:=by erw[<- l4];exact l3
 exists oK (ce (le2 (aF hr.1 (ah j1 (aF (ah l1 (aF (aq _) (ah (dR (aE hs.1)) (aF (ah hr.2 hz) (aq _))))) (ah l2 (aF (aq _) (ah (dL (aE hs.1)) (aF (ah hr.2 hz) (aq _)))))))) rfl))
 with_reducible refine qB (ce (by erw[bx];exact le2 (aF hr.1 (ah j1 (aF (ah l1 (aF (aq _) (ah (dR (aE hs.1)) (aF (ah hr.2 hz) (aq _))))) (ah l2 (aF (aq _) (ah (dL (aE hs.1)) (aF (ah hr.2 hz) (aq _)))))))) rfl)) ?_
 erw[bD];refine ifb (λc2=>?_) (λc2=>?_)
 ·rw[if_neg (isN (nt c2))] at h;exact h _
 ·rw[if_pos (isE (nf c2))] at h;exact h _
noncomputable def eO(lead:Cps)(aa:List Cps)(c:Cps):List Cps :=
 if c=[46,46]/\(lead≠[]\/(aa≠[]/\aa.getLast?≠some [46,46])) then aa.dropLast
 else if c=[]\/c=[46] then aa else aa++[c]
noncomputable def oM(lead:Cps)(pieces:List Cps):Cps :=
 let names:=pieces.foldl (eO lead) []
 if lead≠[] then aA names else if names≠[] then bq [47] names else [46]
theorem J9(lead:Cps)(aa:List Cps)(c:Cps):(eO lead aa c).length<=aa.length+1:=by
 unfold eO;split
 ·simp;exact bk (bK _ _)
 ·split
  ·exact bK _ _
  ·simp
theorem YL(lead:Cps)(aa:List Cps)(c:Cps):bP (eO lead aa c)<=bP aa+c.length:=by
 unfold eO;split
 ·have:=J5 aa;exact gE this
 ·split
  ·exact bK _ _
  ·erw[J4];simp[bP]
theorem YM(lead:Cps):∀(l aa:List Cps),bP (l.foldl (eO lead) aa)<=bP aa+bP l:=λl=>by
 induction l with
 |nil=>
  intro aa;simp[bP]
 |cons c l ih=>
  intro aa;have:=ih (eO lead aa c);have h2:=YL lead aa c;erw[j2];simp only[cB];exact lH this h2
theorem YN(lead:Cps):∀(l aa:List Cps),(l.foldl (eO lead) aa).length<=aa.length+l.length:=λl=>by
 induction l with
 |nil=>
  intro aa;simp
 |cons c l ih=>
  intro aa;have:=ih (eO lead aa c);have h2:=J9 lead aa c;simp only[cB,bC];exact lG this h2
theorem Dv{α:Type}(l:List α):bh l none (some (-1))=l.dropLast:=by
 show (l.drop 0).take (l.length-1-0)=_;erw[nJ,z8,Ac]
theorem YO(c:Cps):((([]:Cps)==c)||(([46]:Cps)==c||false))=decide (c=[]\/c=[46]):=by
 by_cases h1:c=[]
 ·subst h1;rfl
 ·by_cases h2:c=[46]
  ·clear h1;subst h2;rfl
  ·have e1:(([]:Cps)==c)=false:=beq_eq_false_iff_ne.mpr (bV h1);have e2:(([46]:Cps)==c)=false:=beq_eq_false_iff_ne.mpr (bV h2);erw[e1,e2,decide_eq_false (λq=>q.elim h1 h2)];rfl
theorem YP(H:List AO)(c:Cps):inL H (.str c) [.str [],.str [46]]=some (decide (c=[]\/c=[46])):=by
 erw[<- YO c];rfl
theorem Dw{H:List AO}{n i j:Nat}{l r:List AV}(dh:i≠j)(hi:H[i]?=some (.list l))(hj:H[j]?=some (.list r)):aeq H (n+1) (.loc i) (.loc j)=hV (aeq H n) l r:=by
 show (if i=j then none else (liO H[i]?).bind λl=>(liO H[j]?).bind (hV (aeq H n) l))=_
 erw[if_neg dh,hi,hj];rfl
theorem Ka(f:AV->AV->Option Bool)(l:List AV):hV f l []=some l.isEmpty:=by induction l using bI<;>rfl
theorem ap2{H:List AO}{a b:AO}:H++[a]++[b]=H++[a,b]:=bD ..
theorem ap3{H:List AO}{a b c:AO}:H++[a]++[b]++[c]=H++[a,b,c]:=by erw[ap2,bD];rfl
noncomputable abbrev Dx:MB:=eh (nth i308.body 1)
theorem Kb{n kN i j:Nat}{aa:List Cps}{c:Cps}{vs:Vs}{H:List AO}{P:Fl->PrS}(h2:hY vs i=some (.loc kN))(h3:hY vs j=some (.str c))(hN:H[kN]?=some (.list (aa.map .str)))(hz:aa.length<=1000)
  (hT:c=[]\/c=[46]->∀G,P .next vs (H++G)) (hF:¬ (c=[]\/c=[46])->∀G k,(H++G)[k]?=some (.list ((aa++[c]).map .str))->P .next (dB vs i (.loc k)) (H++G)) :
  WB (Sy n) (.cons (.ite (.cmp (.var j) .NotIn (.lst (.cons (.cst (.str [])) (.cons (.cst (.str [46])) .nil)))) (.cons (.asg (.nm i) (.bin .Add (.var i) (.lst (.cons (.var j) .nil)))) .nil) .nil) .nil) vs H P:=by
 refine iv h3 (cV js (vN aN (YP _ c) ?_));refine ifb (λc1=>?_) (λc1=>?_)
 ·refine iv h2 (iv h3 (cV vP (X1 (au (au hN)) aN (ce (by erw[aK,eR];exact le2 (aF hz (aq _)) rfl)) ?_)));have e:AO.list (aa.map AV.str++[AV.str c])=.list ((aa++[c]).map AV.str):=congrArg AO.list (by erw[cf];rfl);erw[e,ap3];exact hF (of_decide_eq_false (nt c1)) _ _ (by erw[<- ap3];exact aN)
 ·exact hT (of_decide_eq_true (nf c1)) _
theorem YQ{n kP:Nat}{lead:Cps}{pieces:List Cps}{R:Option Fl->PrS}(hr:lead.length<=100000) :
  ∀(l aa:List Cps) (v3:Option AV) (K:List AO) (kN:Nat),aa.length+l.length<=1000->K[kP]?=some (.list (pieces.map .str))->K[kN]?=some (.list (aa.map .str)) ->
   (∀v3 G kN,(K++G)[kN]?=some (.list ((l.foldl (eO lead) aa).map .str))->R none [some (.str lead),some (.loc kP),some (.loc kN),v3,none,none,none,none,none,none,none,none] (K++G)) ->
   foW (WA (Sy n) (.nm 3)) (WB (Sy n) Dx) (.list kP (pieces.map .str)) R (l.map .str) [some (.str lead),some (.loc kP),some (.loc kN),v3,none,none,none,none,none,none,none,none] K:=λl=>by
 induction l with
 |nil=>exact λaa v3 K kN _ hP hN hq=>eY hP (by
   have:=hq v3 [] kN (by erw[c9];exact hN);rw[c9] at this;exact this)
 |cons c l ih=>
  intro aa v3 K kN hz hP hN hq;refine fE hP ?_;have hs:=J9 lead aa c;rw[bC] at hz;have ka:okL (aa.map AV.str).length=true:=okm (k:=1000) (le2 (dR hz) rfl) (by decide);have fin:∀E n5,(K++E)[n5]?=some (AO.list ((eO lead aa c).map AV.str))->_:=λE n5 h=>ih _ (some (.str c)) (K++E) n5 (lF hz hs) (au hP) h λv3 G kN hk=>by
   have:=hq v3 (E++G) kN (by erw[<- bD];exact hk);rw[<- bD] at this;exact this
  have els:∀E,¬ (c=[46,46]/\(lead≠[]\/(aa≠[]/\aa.getLast?≠some [46,46])))->_:=λE hs=>Kb (n:=n) (i:=2) (j:=3) (c:=c) (vs:=[some (.str lead),some (.loc kP),some (.loc kN),some (.str c),none,none,none,none,none,none,none,none])
   (P:=onF (my (foW (WA (Sy n) (.nm 3)) (WB (Sy n) Dx) (.list kP (pieces.map .str)) R (l.map .str)) R) (qn (WB (Sy n) .nil) (my (foW (WA (Sy n) (.nm 3)) (WB (Sy n) Dx) (.list kP (pieces.map .str)) R (l.map .str)) R))) rfl rfl (au (G:=E) hN) (le2 (dR hz) rfl)
   (λq G=>by
    erw[bD];exact fin (E++G) kN (by erw[eO,if_neg hs,if_pos q];exact au hN))
   (λq G k hk=>by
    rw[bD] at hk ⊢;exact fin (E++G) k (by erw[eO,if_neg hs,if_neg q];exact hk))
  exists vM;refine ifn (λc1=>?_) (λc1=>?_)
  ·exists b8 c1;have:=els [] λq=>by rw[q.1] at c1;injection c1
   rw[c9] at this;exact this
  have d1:c=[46,46]:=eq_of_beq c1;have cut:∀E,c=[46,46]/\(lead≠[]\/(aa≠[]/\aa.getLast?≠some [46,46]))->_:=λE hs=>fin (E++[.list (bh (aa.map AV.str) none (some (-1)))]) (K++E).length (by erw[<- bD,aN,Dv,eO,if_pos hs,An]);exists jq;refine ifb (λc2=>?_) (λc2=>?_)
  ·refine yK c2 (cI rfl ?_);refine ⟨rfl,rfl,?_⟩;exists sZ (a:=none) (b:=some (-1)) hN ka rfl rfl;have:=cut [] ⟨d1,.inl (nw c2)⟩;rw[pf,c9] at this;exact this
  have nl:¬ lead≠[]:=λq=>q (ny c2);exists cV jr;exists Dj ((Dw (b5 (ltG hN)) (au hN) aN).trans (Ka _ _));refine ifn (λc3=>?_) (λc3=>?_)
  ·refine b8 c3 (Dh rfl (b8 rfl ?_));exact els _ λq=>q.2.elim nl λq=>q.1 (Dt c3)
  obtain ⟨x,hx⟩:∃x,aa.getLast?=some x:=⟨_,tA (yU c3)⟩;have hi:=J3 _ _ hx;rw[<- aK (f:=AV.str)] at hi;refine ⟨rfl,rfl,?_⟩;exists d7 (au hN) rfl hi;exists jq;refine ifn (λc4=>?_) (λc4=>?_)
  ·refine b8 c4 (Dh rfl (b8 rfl ?_));exact els _ λq=>q.2.elim nl λq=>q.2 (by erw[hx,ny c4])
  ·refine cI rfl (yK rfl (cI rfl ?_));refine ⟨rfl,rfl,?_⟩;exists sZ (a:=none) (b:=some (-1)) (au hN) ka rfl rfl;have:=cut [.list []] ⟨d1,.inr ⟨yU c3,λq=>nw c4 (l5 (hx.symm.trans q))⟩⟩;rw[<- bD] at this;exact this
theorem YR{n kP:Nat}{lead:Cps}{pieces:List Cps}{H:List AO}{P:AV->List AO->Prop}(hP:H[kP]?=some (.list (pieces.map .str)))(hc:pieces.length<=100)(hw:bP pieces<=1000)(hr:lead.length<=100000)(h:∀G,P (.str (oM lead pieces)) (H++G)):Φ (n+2) 308 [.str lead,.loc kP] H P:=by
 refine dP rfl rfl (ds:=[("lead",.str lead),("pieces",.loc kP)]) rfl (vs:=[some (.str lead),some (.loc kP),none,none,none,none,none,none,none,none,none,none]) rfl ?_;exists cV jr;refine gT (au hP) (okm hc (by decide)) ?_;refine YQ (n:=n+1) hr pieces [] none _ _ (by erw[fu];exact le2 (aF (aq _) hc) rfl) (au hP) aN λv3 G kN hN=>?_;have l1:=YM lead pieces [];have l2:=YN lead pieces [];unfold oM at h;generalize pieces.foldl (eO lead) []=new at *;replace l1:bP new<=0+bP pieces:=l1;replace l2:new.length<=0+pieces.length:=l2;have l4:(new.map b9).sum=bP new:=rfl;rw[bD] at hN;erw[bD];exists jq;refine ifb (λc1=>?_) (λc1=>?_)
 ·rw[if_pos (nw c1)] at h;exists Yz hN (lT (aF (ah (aE l4) (ah l1 (aF (aq _) hw))) (ah l2 (aF (aq _) hc))) rfl);exact h _
 rw[if_neg (λq=>q (ny c1))] at h;exists cV jr;exists Dj ((Dw (b5 (ltG hN)) (au hN) aN).trans (Ka _ _));refine ifb (λc2=>?_) (λc2=>?_)
 ·exists iW (i:="str.join") rfl
  with_reducible refine vO (au hN) (qF new) (ce (by erw[eR];exact le2 (aF (ah (aE l4) (ah l1 (aF (aq _) hw))) (Ao _ (ah l2 (aF (aq _) hc)))) rfl)) ?_
  rw[if_pos (yU c2)] at h;erw[bD];exact h _
 ·rw[if_neg (λq=>q (Dt c2))] at h;erw[bD];exact h _
noncomputable abbrev eZ:MB:=eh (nth i301.body 2)
noncomputable abbrev aJ(l:List Cps):AV:=.tup (l.map AV.str)
def Fr(X:List Nat)(K K':List AO):Prop:=∀m o,m∉X->K[m]?=some o->K'[m]?=some o
theorem Fr.refl(X:List Nat)(K:List AO):Fr X K K:=λzz zz zz h=>h
theorem Fr.trans{X:List Nat}{K K' fC:List AO}(a:Fr X K K')(b:Fr X K' fC):Fr X K fC:=λm o hm h=>b m o hm (a m o hm h)
theorem Fr.mono{X Y:List Nat}{K K':List AO}(a:Fr X K K')(h:∀m∈X,m∈Y):Fr Y K K':=λm o hm e=>a m o (λq=>hm (h m q)) e
theorem Fr.app(X:List Nat)(K G:List AO):Fr X K (K++G):=λm o zz h=>au h
theorem Fr.set{X:List Nat}{K:List AO}{n:Nat}(o:AO)(hn:n∈X):Fr X K (K.set n o):=λm o' hm h=>by
 erw[mN (λq=>hm (by erw[<- q];exact hn))];exact h
theorem eP{K:List AO}{n:Nat}{o o':AO}(h:K[n]?=some o):(K.set n o')[n]?=some o':=wr (ei.mp h).1
theorem Dy:∀l:List Int,jU (l.map AV.int)=some l:=λl=>by
 induction l with
 |nil=>exact  rfl
 |cons x l ih=>
  show (jU (l.map AV.int)).map (x::·)=_;rw[ih];rfl
theorem Dz{α β:Type}(f:α->β)(l:List α)(a b:Option Int):bh (l.map f) a b=(bh l a b).map f:=by
 unfold bh;simp[List.map_drop,wK]
theorem YS{α β:Type}(f:α->β)(l:List α)(lo:Option Int)(k:Int):ow (l.map f) lo k=(ow l lo k).map f:=by
 have e:(λi:Nat=>(l.map f)[i]?)=λi=>(l[i]?).map f:=funext λi=>ga ..;unfold ow;erw[aK,e,List.map_filterMap]
theorem YT{α:Type}(l:List α)(lo:Option Int):(ow l lo 6).length<=l.length:=by
 refine ah (List.length_filterMap_le ..) ?_;refine sliceRange_length_le _ _ _ _ (λzz=>⟨?_,?_⟩) λh=>absurd (show (6:Int) > 0 by decide) h
 ·induction lo using dF with
  |none=>exact tB 0
  |some x=>exact Int.le_max_left ..
 ·exact tB _
theorem YU:∀(l:List Int),(∀x∈l,0<=x/\x<1000000)->0<=jV l/\jV l<=1000000*l.length:=λl=>by
 induction l with
 |nil=>
  intro _;simp[jV]
 |cons x l ih=>
  intro h;have:=ih λy hy=>h y (aL _ hy);have h0:=h x aG;simp only[jV,bC];lia
theorem qH(x y:Int)(h:0<y):0<=j7 x y/\j7 x y<y:=⟨Int.fmod_nonneg_of_pos x h,Int.fmod_lt_of_pos x h⟩
theorem yV(z y b:Int)(hy:0<y)(h0:0<=z)(h1:z<=b):0<=j6 z y/\j6 z y<=b:=by
 refine ⟨Np h0 (rc hy),?_⟩;erw[Nq z (rc hy)];have:=Int.ediv_le_self y h0;exact bH this h1
noncomputable def P5:List Cps:=[[97],[46,97],[97,98],[46,46],[46]]
noncomputable def P6:List Cps:=[[97],[46,97],[97,98],[46,46],[46],[]]
theorem vR{z:Int}{k:Nat}(h0:0<=z)(h1:z<k):∃m:Nat,z=m/\m<k:=⟨z.toNat,by exact jy (Er h0),by exact (Mj h0).mpr h1⟩
theorem YV{z:Int}(h0:0<=z)(h1:z<5):∃c∈P5,((cZ 5 z).bind λj=>[AV.str [97],AV.str [46,97],AV.str [97,98],AV.str [46,46],AV.str [46]][j]?)=some (.str c):=by
 refine e12 (vR h0 h1) λm aC hm=>?_;subst aC
 match m,hm with
 |0,_=>exact aB ([97]) (by decide) (by rfl)
 |1,_=>exact aB ([46,97]) (by decide) (by rfl)
 |2,_=>exact aB ([97,98]) (by decide) (by rfl)
 |3,_=>exact aB ([46,46]) (by decide) (by rfl)
 |4,_=>exact aB ([46]) (by decide) (by rfl)
theorem YW{z:Int}(h0:0<=z)(h1:z<6):∃c∈P6,((cZ 6 z).bind λj=>[AV.str [97],AV.str [46,97],AV.str [97,98],AV.str [46,46],AV.str [46],AV.str []][j]?)=some (.str c):=by
 refine e12 (vR h0 h1) λm aI hm=>?_;subst aI
 match m,hm with
 |0,_=>exact aB ([97]) (by decide) (by rfl)
 |1,_=>exact aB ([46,97]) (by decide) (by rfl)
 |2,_=>exact aB ([97,98]) (by decide) (by rfl)
 |3,_=>exact aB ([46,46]) (by decide) (by rfl)
 |4,_=>exact aB ([46]) (by decide) (by rfl)
 |5,_=>exact aB ([]) (by decide) (by rfl)
theorem vlen:∀{vs:Vs} {i:Nat} {d:AV},(dB vs i d).length=vs.length
 |[],_,_=>rfl
 |_::_,0,_=>rfl
 |_::r,n+1,d=>congrArg (·+1) (vlen (vs:=r) (i:=n) (d:=d))
theorem Kc:∀{vs:Vs} {i:Nat} {d:AV},i<vs.length->hY (dB vs i d) i=some d
 |_::_,0,_,_=>rfl
 |_::r,n+1,d,h=>Kc (vs:=r) (tq h)
theorem YX{n t:Nat}{src:Src}{K:List AO}(hs:src.ok K):∀(l:List Int) (vs:Vs) (Q:List AV->PrS),t<vs.length->(∀jO,Q ((l.map λx=>j7 x 1000000).map .int) jO K) ->
  lcW (WCO (Sy n) .no) (WE (Sy n) (.bin .Mod (.var t) (.bin .Pow (.cst (.int 10)) (.cst (.int 6))))) t src (l.map .int) Q vs K:=λl=>by
 induction l with
 |nil=>exact λvs Q zz h=>gU hs (h vs)
 |cons x l ih=>exact λvs Q ht h=>fF hs (cI rfl (iv (Kc ht) (vL (by decide) (yM (by decide) (ih _ (lcD Q (.int (j7 x 1000000))) (vlen.symm▸ht) h)))))
noncomputable def base6:List Int:=[640,247,5721,3583,2264,19913]
theorem YY:∀p,p<6->∃b,base6[p]?=some b/\0<=b/\b<=20000
 |0,_=>⟨_,rfl,by decide,by decide⟩
 |1,_=>⟨_,rfl,by decide,by decide⟩
 |2,_=>⟨_,rfl,by decide,by decide⟩
 |3,_=>⟨_,rfl,by decide,by decide⟩
 |4,_=>⟨_,rfl,by decide,by decide⟩
 |5,_=>⟨_,rfl,by decide,by decide⟩
theorem YZ{z:Int}(h1:-1000000000<=z)(h2:z<=1000000000):inB z=true:=by
 unfold inB;erw[ie,decide_eq_true_eq,decide_eq_true_eq];exact ⟨EH (by decide) h1,q0 h2 (by decide)⟩
theorem Y0{n p:Nat}(h:p<n):cZ n (p:Int)=some p:=by
 unfold cZ;erw[if_pos (dw p),if_pos (zG.mpr h),j9]
theorem Y1{n kS p:Nat}{gK:List Int}{K:List AO}{vs:Vs}{P:Fl->PrS}(hS:K[kS]?=some (.pin (gK.map .int)))(hz:gK.length<=63)(hp:p<6)(hl:18<vs.length)(h0:hY vs 0=some (.loc kS))(h3:hY vs 3=some (.int p))(hb:bound vs [18]=false)
  (h:∀z E,0<=z->z<=200000000->P .next (dB vs 4 (.int z)) (K++E)):WS (Sy n) (nth eZ 0) vs K P:=by
 refine e13 (YY p hp) λb e b0 b1=>?_;have u7:((cZ 6 (p:Int)).bind λj=>[AV.int 640,.int 247,.int 5721,.int 3583,.int 2264,.int 19913][j]?)=some (.int b):=by
  rw[Y0 hp];show (base6.map AV.int)[p]?=_;erw[ga,e];rfl
 have i1:inB (p:Int)=true:=bJ ngI (upI (bk hp) rfl);refine cV (ce (by decide)) (iv h3 (d7 aN i1 u7 ?_));have c1:=CI (gK.map AV.int) none (some 63);rw[aK] at c1;have c2:=ah (YT (bh gK none (some 63)) (some (p:Int))) (ah (CI ..) hz);refine iv h0 (X7 (au hS) (ce (by erw[aK];exact le2 hz rfl)) rfl (eB rfl) (iv h3 (X8 (a:=some p) aN (ce (le2 (ah c1 hz) rfl)) (eB i1) (by decide) ?_)));erw[Dz,YS];generalize ow (bh gK none (some 63)) (some (p:Int)) 6=ls at *;refine gT aN (ce (by erw[aK];exact le2 c2 rfl)) ⟨hb,YX (src:=.list _ _) aN ls vs _ hl λjO=>?_⟩;refine JN aN (Dy _) ?_;have sb:=YU (ls.map λx=>j7 x 1000000) λx hx=>by
  refine e12 (bo.mp hx) λy _ aS=>?_;subst aS;exact qH y 1000000 (by decide)
 rw[aK] at sb;refine lR (YZ (bH (by decide) (Fm b0 sb.1)) (by lia)) ?_;erw[ap3,bD];exact h _ _ (Fm b0 sb.1) (by lia)
theorem yW{n i j:Nat}{y z:Int}{vs:Vs}{K:List AO}{P:Fl->PrS}(hy:0<y/\y<=1000000)(h4:hY vs i=some (.int z))(h:P .next (dB (dB vs i (.int (j6 z y))) j (.int (j7 z y))) K) :
  WS (Sy n) (.asg (.tp [i,j]) (.call (.bi "divmod") (.cons (.var i) (.cons (.cst (.int y)) .nil)))) vs K P:=iv h4 (JQ hy h)
theorem Y2{n:Nat}{z:Int}{vs:Vs}{K:List AO}{P:Fl->PrS}(h0:0<=z)(h1:z<5)(h8:hY vs 8=some (.int z))(h:∀c E k,c∈P5->K.length<=k->(K++E)[k]?=some (.list [.str c])->P .next (dB vs 9 (.loc k)) (K++E)):WS (Sy n) (nth eZ 5) vs K P:=by
 refine e12 (YV h0 h1) λc hc hi=>?_;refine cV (ce (by decide)) (iv h8 (d7 aN (bJ (bH ngI h0) (rc (bH h1 (dw _)))) hi (cV vP ?_)));erw[ap2];exact h c _ _ hc (bx▸bK ..) (by erw[<- ap2];exact aN)
theorem Y3{n kP:Nat}{R:Option Fl->PrS}{dy:List AV}{a0 a1 a2 a3 a5 a6 a7 a8:Option AV}{t:Vs}:∀(steps:List AV) (bU cY:Option AV) (z:Int) (K:List AO) (ps:List Cps),0<=z->ps.length+steps.length<=10->K[kP]?=some (.list (ps.map .str)) ->
  (∀z bU cY K' qs,qs.length=steps.length->(∀q∈qs,q∈P6)->K'[kP]?=some (.list ((ps++qs).map .str))->Fr [kP] K K'->R none (a0::a1::a2::a3::z::a5::a6::a7::a8::some (.loc kP)::bU::cY::t) K') ->
  foW (WA (Sy n) (.nm 10)) (WB (Sy n) (eh (nth eZ 6))) (.fix dy) R steps (a0::a1::a2::a3::some (.int z)::a5::a6::a7::a8::some (.loc kP)::bU::cY::t) K:=λsteps=>by
 induction steps with
 |nil=>exact λbU cY z K ps zz zz hK hq=>eY trivial (hq _ _ _ K [] rfl (λzz h=>nomatch h) (by erw[c9];exact hK) (.refl _ _))
 |cons st steps ih=>
  intro bU cY z K ps h0 jM hK hq;refine fE trivial ?_;have bb:=qH z 6 (by decide);refine e12 (YW bb.1 bb.2) λc hc hi=>?_;rw[bC] at jM;exists JQ (by decide);exists ir hK rfl;exists cV (ce (by decide));exists d7 aN (bJ (bH ngI bb.1) (by lia)) hi;exists j0 (au hK) (okm (k:=10) (le2 (dR jM) rfl) (by decide));refine ih _ _ _ _ (ps++[c]) (Np h0 (by decide)) (by erw[bx,eR];exact ac1 jM) (by erw[cf];exact eP (au hK)) λz' bU cY K' qs g1 g2 g3 g4=>?_;refine hq z' bU cY K' (c::qs) (congrArg (·+1) g1) (λq hq=>(bu.mp hq).elim (λe=>e▸hc) (g2 q)) (by rw[bD] at g3;exact g3) (((Fr.app _ _ _).trans (.set _ aG)).trans g4)
noncomputable def cq(aa:List Cps)(c:Cps):List Cps:=if c=[46,46] then aa.dropLast else if c=[]\/c=[46] then aa else aa++[c]
theorem Kd(aa:List Cps)(c:Cps):(cq aa c).length<=aa.length+1:=by
 unfold cq;split
 ·simp;exact bk (bK _ _)
 ·split
  ·exact bK _ _
  ·simp
theorem Y4{n kP:Nat}{pieces:List Cps}{R:Option Fl->PrS}{a0 a1 a2 a3 a4 a5 a6 a7 a8 a9 bU cY gn:Option AV}{t:Vs} :
  ∀(l aa:List Cps) (mQ:Option AV) (K:List AO) (kN:Nat),aa.length+l.length<=1000->K[kP]?=some (.list (pieces.map .str))->K[kN]?=some (.list (aa.map .str)) ->
   (∀mQ G kN,(K++G)[kN]?=some (.list ((l.foldl cq aa).map .str))->R none (a0::a1::a2::a3::a4::a5::a6::a7::a8::a9::bU::cY::gn::some (.loc kN)::mQ::t) (K++G)) ->
   foW (WA (Sy n) (.nm 14)) (WB (Sy n) (eh (nth eZ 9))) (.list kP (pieces.map .str)) R (l.map .str) (a0::a1::a2::a3::a4::a5::a6::a7::a8::a9::bU::cY::gn::some (.loc kN)::mQ::t) K:=λl=>by
 induction l with
 |nil=>exact λaa mQ K kN _ hP hN hq=>eY hP (by
   have:=hq mQ [] kN (by erw[c9];exact hN);rw[c9] at this;exact this)
 |cons c l ih=>
  intro aa mQ K kN hz hP hN hq;refine fE hP ?_;have hs:=Kd aa c;rw[bC] at hz;have fin:∀E n5,(K++E)[n5]?=some (AO.list ((cq aa c).map AV.str))->_:=λE n5 h=>ih _ (some (.str c)) (K++E) n5 (by exact lF hz hs) (au hP) h λmQ G kN hk=>by
   have:=hq mQ (E++G) kN (by erw[<- bD];exact hk);rw[<- bD] at this;exact this
  exists vM;refine ifb (λc1=>?_) (λc1=>?_)
  ·refine ⟨rfl,rfl,?_⟩;exists sZ (a:=none) (b:=some (-1)) hN (okm (k:=1000) (by exact le2 (dR hz) rfl) (by decide)) rfl rfl;exact fin _ _ (by erw[aN,Dv,cq,if_pos (eq_of_beq c1),An])
  ·skip;have d1:c≠[46,46]:=λq=>by rw[q] at c1;injection c1
   exact Kb (n:=n) (i:=13) (j:=14) (c:=c) rfl rfl hN (by exact le2 (dR hz) rfl) (λq G=>fin G kN (by erw[cq,if_neg d1,if_pos q];exact au hN)) λq G k hk=>fin G k (by erw[cq,if_neg d1,if_neg q];exact hk)
theorem Ke(H:List AO)(n:Nat):∀(a b:List Cps),hV (aeq H (n+1)) (a.map AV.str) (b.map AV.str)=some (decide (a=b)):=λa=>by
 induction a with
 |nil=>intro b;induction b using bI<;>rfl
 |cons x a ih=>
  intro b;induction b using bI with
  |nil=>rfl
  |cons y b=>
   show ((hV (aeq H (n+1)) (a.map AV.str) (b.map AV.str)).map ((x==y)&&·))=_;erw[ih b];refine congrArg some ?_;rw[i4];simp
theorem vS(H:List AO)(n:Nat)(a b:List Cps):aeq H (n+2) (aJ a) (aJ b)=some (decide (a=b)):=Ke H n a b
theorem Y5(a:List Cps):AV.dat (aJ a)=true:=by
 show AVs.dat (a.map AV.str)=true;induction a with
 |nil=>rfl
 |cons x r ih=>erw[bX];show (true&&AVs.dat (r.map AV.str))=true;erw[ih];rfl
theorem DA(H:List AO)(a:List Cps):∀(l:List (List Cps)),inL H (aJ a) (l.map aJ)=some (decide (a∈l)):=λl=>by
 induction l with
 |nil=>
  erw[decide_eq_false eQ];rfl
 |cons b l ih=>
  show (if AV.dat (aJ b)=true then (aeq H 8 (aJ b) (aJ a)).bind λx=>(inL H (aJ a) (l.map aJ)).map (x||·) else none)=_
  erw[if_pos (Y5 b),vS,ih];refine congrArg some ?_;erw[i4,tu,decide_eq_true_eq,decide_eq_true_eq,decide_eq_true_eq,bu];constructor
  ·rintro (h|h)
   ·exact .inl h.symm
   ·exact .inr h
  ·rintro (h|h)
   ·exact .inl h.symm
   ·exact .inr h
theorem oN{α:Type}(l:List α)(k:Nat):bh l none (some (k:Int))=l.take k:=by
 delta bh jh;simp only[Ap,tC,nJ,z8];erw[if_neg (by exact λq=>nM _ (uL q)),j9];by_cases h:k<=l.length
 ·rw[i7 h]
 ·erw[Fn (by exact bk (wC h)),l9 (aq _),l9 (by exact bk (wC h))]
theorem n62{x:Nat}:-2 ^ 62<=(x:Int):=bH (by decide) (dw x)
theorem u62{x k:Nat}(h:x<=k)(hk:wo k 1000000=true):(x:Int)<2 ^ 62:=q0 (tf.mpr (le2 h hk)) (by decide)
theorem Y6(a m:Nat):jx (a:Int) ((a+m:Nat):Int) 1=m:=by
 unfold jx;simp only[gt_iff_lt,Int.zero_lt_one,if_true,zW];split<;>lia
theorem Y7(m:Nat):jx (m:Int) 0 (-1)=m:=by
 unfold jx;simp only[show ¬ ((-1:Int) > 0) by decide,if_false,show (-(-1):Int)=1 from rfl,zW];split<;>lia
theorem s4{a:Int}(h:-(2 ^ 62)<=a):-(2 ^ 63)<=a:=bH (by decide) h
theorem oO{a:Int}(h:a<2 ^ 62):a<2 ^ 63:=Int.lt_trans h (by decide)
theorem Y8{a b:Int}(ha:-(2 ^ 62)<=a)(kz:a<2 ^ 62)(hb:-(2 ^ 62)<=b)(iM:b<2 ^ 62)(h:jx a b 1<2 ^ 62)(h0:0<=jx a b 1):th a b 1=true:=by
 unfold th;simp only[Nr,ie,tu,decide_eq_true_eq,beq_iff_eq,show ((1:Int) > 0) by decide,if_true];exact ⟨⟨⟨⟨⟨s4 ha,oO kz⟩,s4 hb,oO iM⟩,by decide⟩,bH (by decide) h0,oO h⟩,.inr ⟨(tE b).symm▸s4 hb,(tE b).symm▸oO iM⟩⟩
theorem Y9{a b:Int}(ha:-(2 ^ 62)<=a)(kz:a<2 ^ 62)(hb:-(2 ^ 62)<=b)(iM:b<2 ^ 62)(h:jx a b (-1)<2 ^ 62)(h0:0<=jx a b (-1)):th a b (-1)=true:=by
 unfold th;simp only[Nr,ie,tu,decide_eq_true_eq,beq_iff_eq,show ¬ ((-1:Int) > 0) by decide,if_false];exact ⟨⟨⟨⟨⟨s4 ha,oO kz⟩,s4 hb,oO iM⟩,by decide⟩,bH (by decide) h0,oO h⟩,.inr ⟨(tE b).symm▸s4 hb,(tE b).symm▸oO iM⟩⟩
theorem vT{H:List AO}{C:Src->Prop}{a m:Nat}(ha:a<=10)(hm:m<=1000)(h:C (.fix (((bn m).map λj=>a+j).map λ(j:Nat)=>AV.int (j:Int)))):jY (.rng (a:Int) ((a+m:Nat):Int) 1) H C:=by
 have h1:=Y6 a m;refine ⟨⟨Y8 n62 (u62 ha rfl) n62 (u62 (aF ha hm) rfl) (q0 (lg h1) (u62 hm rfl)) (bH (dw _) (lg h1.symm)),by exact bH (dw _) (lg h1.symm),by exact bH (lg h1) (upI hm rfl)⟩,?_⟩;have h3:(λ(j:Nat)=>AV.int ((a:Int)+1*(j:Int)))=λ(j:Nat)=>AV.int ((a+j:Nat):Int):=funext λj=>congrArg AV.int (congrArg _ (EQ _));erw[h1,j9,h3];rw[ca] at h;exact h
theorem Za{H:List AO}{C:Src->Prop}{m:Nat}(hm:m<=1000)(h:C (.fix (((bn m).map λj=>m-j).map λ(j:Nat)=>AV.int (j:Int)))):jY (.rng (m:Int) 0 (-1)) H C:=by
 have h1:=Y7 m;refine ⟨⟨Y9 n62 (u62 hm rfl) n62 (by decide) (q0 (lg h1) (u62 hm rfl)) (bH (dw _) (lg h1.symm)),by exact bH (dw _) (lg h1.symm),by exact bH (lg h1) (upI hm rfl)⟩,?_⟩;have h3:((bn m).map λ(j:Nat)=>AV.int ((m:Int)+-1*(j:Int)))=(bn m).map λ(j:Nat)=>AV.int ((m-j:Nat):Int):=
  eq λj hj=>congrArg AV.int (by rw[rg (bk (dc.mp hj)),Int.neg_mul,EQ];rfl)
 erw[h1,j9,h3];rw[ca] at h;exact h
theorem DB{names:List Cps}{k:Nat}:AV.tup (bh (names.map AV.str) none (some (k:Int)))=aJ (names.take k):=by erw[oN,<- wK]
section
variable{n kK:Nat}{known:List (List Cps)}{K:List AO}{src:Src}{a0 a2 a3 a4 a5 a6 a7 a8 a9 bU cY gn mZ fB fU fQ:Option AV}{t:Vs}
theorem Zb{names:List Cps}{dH:Option AV}(kn:okL (names.map AV.str).length=true)(hK:K[kK]?=some (.list (known.map aJ)))(hs:src.ok K):∀(l:List Nat) (pG:Option AV) (Q:List AV->PrS),(∀k∈l,inB (k:Int)=true) ->
  (∀vs,Q ((l.filter λk=>names.take k∉known).map λ(k:Nat)=>AV.int (k:Int)) vs K) ->
  lcW (WCO (Sy n) (.so (.cmp (.slc (.var 13) .no (.so (.var 18)) .no) .NotIn (.var 1)))) (WE (Sy n) (.var 18)) 18 src (l.map λ(k:Nat)=>AV.int (k:Int)) Q (a0::some (.loc kK)::a2::a3::a4::a5::a6::a7::a8::a9::bU::cY::gn::some (aJ names)::fB::dH::fU::fQ::pG::t) K:=λl=>by
 induction l with
 |nil=>exact λpG Q zz h=>gU hs (h _)
 |cons k l ih=>
  intro pG Q hk h;refine fF hs ?_;have go:=λQ h=>ih (some (.int (k:Int))) Q (λk cC=>hk k (aL _ cC)) h;exists nu (a:=none) kn rfl (eB (hk k aG));exists vN hK (DB (names:=names)▸DA K (names.take k) known);refine ifb (λc=>?_) (λc=>?_)
  ·exact go (lcD Q _) λvs=>by
    rw[iA (p:=λk=>decide (names.take k∉known)) (by simpa using c)] at h;exact h vs
  ·exact go Q λvs=>by
    rw[gc (p:=λk=>decide (names.take k∉known)) (by simpa using c)] at h;exact h vs
noncomputable def fY(names:List Cps)(known:List (List Cps))(k:Nat):List (List Cps):=known++([names.take (k-1),names.take k].filter λx=>x∉known)
theorem Zc{dH:Option AV}(hK:K[kK]?=some (.list (known.map aJ)))(hs:src.ok K):∀(l:List (List Cps)) (pG:Option AV) (Q:List AV->PrS),(∀vs,Q ((l.filter λx=>x∉known).map aJ) vs K) ->
  lcW (WCO (Sy n) (.so (.cmp (.var 18) .NotIn (.var 1)))) (WE (Sy n) (.var 18)) 18 src (l.map aJ) Q (a0::some (.loc kK)::a2::a3::a4::a5::a6::a7::a8::a9::bU::cY::gn::mZ::fB::dH::fU::fQ::pG::t) K:=λl=>by
 induction l with
 |nil=>exact λpG Q h=>gU hs (h _)
 |cons x l ih=>
  intro pG Q h;refine fF hs ?_;have go:=λQ h=>ih (some (aJ x)) Q h;exists vN hK (DA K x known);refine ifb (λc=>?_) (λc=>?_)
  ·exact go (lcD Q _) λvs=>by
    rw[iA (p:=λx=>decide (x∉known)) (by simpa using c)] at h;exact h vs
  ·exact go Q λvs=>by
    rw[gc (p:=λx=>decide (x∉known)) (by simpa using c)] at h;exact h vs
noncomputable abbrev Zd:MS->MB
 |.ite _ a _=>a
 |_=>.nil
theorem Ze{names:List Cps}{known:List (List Cps)}{k:Nat}:(fY names known k).length<=known.length+2:=by
 unfold fY;erw[bx];exact fH (lj ..) _
theorem Zf{names:List Cps}{dy:List AV}{R:Option Fl->PrS}(hn:names.length<=1000):∀(l:List Nat) (dH:Option AV) (K:List AO) (known:List (List Cps)),known.length+2*l.length<=10000->(∀k∈l,k<=1000/\1<=k)->K[kK]?=some (.list (known.map aJ)) ->
   (∀dH K',K'[kK]?=some (.list ((l.foldl (fY names) known).map aJ))->Fr [kK] K K'->R none (a0::some (.loc kK)::a2::a3::a4::a5::a6::a7::a8::a9::bU::cY::gn::some (aJ names)::fB::dH::fU::fQ::none::t) K') ->
   foW (WA (Sy n) (.nm 15)) (WB (Sy n) (eh (nth (Zd (nth eZ 14)) 0))) (.fix dy) R (l.map λ(k:Nat)=>AV.int (k:Int)) (a0::some (.loc kK)::a2::a3::a4::a5::a6::a7::a8::a9::bU::cY::gn::some (aJ names)::fB::dH::fU::fQ::none::t) K:=λl=>by
 induction l with
 |nil=>exact λdH K known zz zz hK h=>eY trivial (h _ K hK (.refl _ _))
 |cons k l ih=>
  intro dH K known hz hk hK h;refine fE trivial (?_:WA (Sy n) (.nm 15) (.int (k:Int)) _ _ _);have kn:okL (names.map AV.str).length=true:=okm hn (by decide);have cC:=hk k aG;have Gn:(k:Int)-1=((k-1:Nat):Int):=jy (rg cC.2);have l1:=Ze (names:=names) (known:=known) (k:=k);rw[bC] at hz;exists ir hK rfl
  with_reducible refine yL (by erw[Gn];exact bJ ngI (upI (ah (gb _ _) cC.1) rfl)) ?_
  erw[Gn];exists nu (a:=none) kn rfl (eB (bJ ngI (upI (ah (gb _ _) cC.1) rfl)));exists nu (a:=none) kn rfl (eB (bJ ngI (upI cC.1 rfl)));erw[DB,DB];refine cV js (gT (l:=[names.take (k-1),names.take k].map aJ) aN js ⟨rfl,?_⟩);refine Zc (au hK) (src:=.list _ _) aN [names.take (k-1),names.take k] _ _ λvs=>?_
  with_reducible refine Yf (au (au hK)) aN (ce ?_) ?_
  ·unfold fY at l1;rw[bx] at l1;erw[aK,aK];lia
  erw[<- cf];exact ih _ _ (fY names known k) (lC l1 (ac1 hz)) (λk cC=>hk k (aL _ cC)) (eP (au (au hK))) λdH K' q1 q2=>h dH K' q1 (((Fr.app _ _ _).trans ((Fr.app _ _ _).trans (.set _ aG))).trans q2)
end
structure Drw where
 start:List Cps
 lead:Cps
 pieces:List Cps
 names:List Cps
 ok:Bool
noncomputable def mE(q:Drw × Nat):AV:=.tup [aJ q.1.start,.str q.1.lead,.loc q.2,aJ q.1.names,.bool q.1.ok]
noncomputable def vU(m:Nat):List Nat:=(bn m).map λj=>1+j
noncomputable def ju(m:Nat):List Nat:=(bn m).map λj=>m-j
noncomputable def lU(names:List Cps)(known:List (List Cps)):List Nat:=(vU names.length).filter λk=>names.take k∉known
noncomputable def Kf(known:List (List Cps))(d:Drw):Prop :=
 d.start∈known/\d.lead∈[[47],[47,47,47],[]]/\(∃c qs,d.pieces=c::qs/\c∈P5/\(∀q∈qs,q∈P6)/\qs.length<=2) /\
 d.names=d.pieces.foldl cq (if d.lead=[] then d.start else [])/\d.ok=decide (known.length+(lU d.names known).length<8)
noncomputable def kU(known:List (List Cps))(d:Drw):List (List Cps):=if d.ok=true then (ju d.names.length).foldl (fY d.names) known else known
theorem Zg{z:Int}(h0:0<=z)(h1:z<5):∃t∈([[47],[47,47,47],[]]:List Cps),((cZ 5 z).bind λj=>[AV.str [47],AV.str [47,47,47],AV.str [],AV.str [],AV.str []][j]?)=some (.str t)/\decide (1<z)=decide (t=[]):=by
 refine e12 (vR h0 h1) λm aC hm=>?_;subst aC
 match m,hm with
 |0,_=>exact cH ([47]) (by decide) (by rfl) (by decide)
 |1,_=>exact cH ([47,47,47]) (by decide) (by rfl) (by decide)
 |2,_=>exact cH ([]) (by decide) (by rfl) (by decide)
 |3,_=>exact cH ([]) (by decide) (by rfl) (by decide)
 |4,_=>exact cH ([]) (by decide) (by rfl) (by decide)
theorem DC:∀(l aa:List Cps),(l.foldl cq aa).length<=aa.length+l.length:=λl=>by
 induction l with
 |nil=>
  intro aa;simp
 |cons c l ih=>
  intro aa;have:=ih (cq aa c);have h2:=Kd aa c;simp only[cB,bC];exact lG this h2
theorem Zh(known:List (List Cps))(e:Int)(h:known≠[]):∃s∈known,((cZ (known.map aJ).length (j7 e ((known.map aJ).length:Nat))).bind λj=>(known.map aJ)[j]?)=some (aJ s):=by
 have hp:0<known.length:=Fo.mpr h;erw[aK];refine e02 (qH e (known.length:Int) (iL hp)) λb1 b2=>?_;refine e12 (vR b1 b2) λm hm aM=>?_;erw[hm];refine aB (known[m]) (wL aM) ?_;have:cZ known.length (m:Int)=some m:=by
  unfold cZ;erw[if_pos (dw _),if_pos (iL aM)];simp
 erw[this,rq,ga,eE aM];rfl
theorem Zi{n kK kP:Nat}{K:List AO}{known:List (List Cps)}{pieces:List Cps}{el ld:Int}{r:MB}{P:Fl->PrS}{a0 a2 a3 a4 a7 a8 bU cY gn mZ fB dH fU fQ:Option AV}{t:Vs}{tl:Cps}(hK:K[kK]?=some (.list (known.map aJ)))(hP:K[kP]?=some (.list (pieces.map AV.str)))(xg:known≠[])(lO:known.length<=300)(OF:∀x∈known,x.length<=900)(hp:pieces.length<=10)(Pt:decide (1<ld)=decide (tl=[]))
  (h:∀start fB G,start∈known->WB (Sy n) r (a0::some (.loc kK)::a2::a3::a4::some (.int ld)::some (.int el)::a7::a8::some (.loc kP)::bU::cY::some (aJ start)::some (aJ (pieces.foldl cq (if tl=[] then start else [])))::fB::dH::fU::fQ::none::t) (K++G) P) :
  WB (Sy n) (.cons (nth eZ 7) (.cons (nth eZ 8) (.cons (nth eZ 9) (.cons (nth eZ 10) r)))) (a0::some (.loc kK)::a2::a3::a4::some (.int ld)::some (.int el)::a7::a8::some (.loc kP)::bU::cY::gn::mZ::fB::dH::fU::fQ::none::t) K P:=by
 refine e12 (Zh known el xg) λstart hs hi=>?_;have G8:=OF start hs;have QI:0<known.length:=Fo.mpr xg;have c1:(0:Int)<((known.map aJ).length:Nat)/\(((known.map aJ).length:Nat):Int)<=1000000:=by erw[aK];exact ⟨iT QI,upI lO rfl⟩
 have f:=qH el _ c1.1;have cont:∀(aa:List Cps) E kN,aa=(if tl=[] then start else [])->(K++E)[kN]?=some (.list (aa.map AV.str))->WB (Sy n) (.cons (nth eZ 9) (.cons (nth eZ 10) r)) (a0::some (.loc kK)::a2::a3::a4::some (.int ld)::some (.int el)::a7::a8::some (.loc kP)::bU::cY::some (aJ start)::some (.loc kN)::fB::dH::fU::fQ::none::t) (K++E) P:=λaa E kN pD hN=>by
  have Gv:aa.length<=900:=by
   erw[pD];split
   ·exact G8
   ·exact bW _
  refine gT (au hP) (okm hp (by decide)) ?_;refine Y4 pieces aa _ _ kN (le2 (aF Gv hp) rfl) (au hP) hN λmQ G n5 q=>?_;have oj:=DC pieces aa;refine Dm q (okm (k:=1000) (le2 (ah oj (aF Gv hp)) rfl) (by decide)) ?_;erw[bD,pD];exact h _ _ _ hs
 exists lS hK (okm lO (by decide));exists yM c1;exists d7 hK (bJ (bH ngI f.1) (bH (rc f.2) c1.2)) hi;exists X3;erw[Pt];refine ifb (λc=>?_) (λc=>?_)
 ·exists Yl (okm G8 (by decide));exact cont _ _ _ (if_pos (of_decide_eq_true c)).symm aN
 ·refine cV jr ?_;exact cont [] _ _ (if_neg (of_decide_eq_false c)).symm aN
theorem Zj{a b c d e:AV}:okL [a,b,c,d,e].length=true:=rfl
theorem Zk{n kK kD kP:Nat}{K:List AO}{known:List (List Cps)}{ds:List (Drw × Nat)}{d:Drw}{ld:Int}{P:Fl->PrS}{a0 a3 a4 a6 a7 a8 bU cY fB dH fU fQ:Option AV}{t:Vs}(hK:K[kK]?=some (.list (known.map aJ)))(hD:K[kD]?=some (.list (ds.map mE)))(bB:kK≠kD)(lO:known.length<=300)(hn:d.names.length<=900)(hd:ds.length<=100)
  (l0:0<=ld) (l1:ld<5) (B1:((cZ 5 ld).bind λj=>[AV.str [47],AV.str [47,47,47],AV.str [],AV.str [],AV.str []][j]?)=some (.str d.lead)) (cN:d.ok=decide (known.length+(lU d.names known).length<8))
  (h:∀dH fU fQ K',K'[kK]?=some (.list ((kU known d).map aJ))->K'[kD]?=some (.list ((ds++[(d,kP)]).map mE))->Fr [kK,kD] K K'->P .next (a0::some (.loc kK)::some (.loc kD)::a3::a4::some (.int ld)::a6::a7::a8::some (.loc kP)::bU::cY::some (aJ d.start)::some (aJ d.names)::fB::dH::fU::fQ::none::t) K') :
  WB (Sy n) (.cons (nth eZ 11) (.cons (nth eZ 12) (.cons (nth eZ 13) (.cons (nth eZ 14) .nil)))) (a0::some (.loc kK)::some (.loc kD)::a3::a4::some (.int ld)::a6::a7::a8::some (.loc kP)::bU::cY::some (aJ d.start)::some (aJ d.names)::fB::dH::fU::fQ::none::t) K P:=by
 have kn:okL (d.names.map AV.str).length=true:=okm hn (by decide);have oj:(lU d.names known).length<=d.names.length:=by
  have:=lj (λk=>decide (d.names.take k∉known)) (vU d.names.length)
  rwa[vU,aK,iy] at this
 have e:((d.names.map AV.str).length:Int)+1=((1+d.names.length:Nat):Int):=by erw[aK];exact iE (nF _ _)
 have b2:inB ((1+d.names.length:Nat):Int)=true:=bJ ngI (upI (aF (aq _) hn) rfl);exists nv kn;exists lR (e▸b2);erw[e];exists JT rfl b2;refine vT (a:=1) (by decide) (le2 hn rfl) ?_;refine ⟨rfl,Zb (src:=.fix _) kn hK trivial (vU d.names.length) _ _ (λk hk=>?_) λvs=>?_⟩
 ·refine e12 (bo.mp hk) λj hj aI=>?_;subst aI;have:=dc.mp hj;exact bJ ngI (upI (aF (aq _) (ah (bk this) hn)) rfl)
 have e3:((known.map aJ).length:Int)+(((lU d.names known).map λ(k:Nat)=>AV.int (k:Int)).length:Int)=((known.length+(lU d.names known).length:Nat):Int):=by erw[aK,aK];rfl
 have ef:((vU d.names.length).filter λk=>d.names.take k∉known)=lU d.names known:=rfl;erw[ef];exists lS (au hK) (okm lO (by decide));exists lS aN (okm (k:=900) (le2 (ah oj hn) rfl) (by decide));exists lR (e3▸bJ ngI (upI (aF lO (ah oj hn)) rfl));exists JL;have e4:decide (((known.map aJ).length:Int)+(((lU d.names known).map λ(k:Nat)=>AV.int (k:Int)).length:Int)<8)=d.ok:=by
  erw[e3,cN];exact decide_eq_decide.mpr (zG (m:=8))
 refine (congrArg (λb=>WB (Sy n) (.cons (nth eZ 13) (.cons (nth eZ 14) .nil)) (a0::some (.loc kK)::some (.loc kD)::a3::a4::some (.int ld)::a6::a7::a8::some (.loc kP)::bU::cY::some (aJ d.start)::some (aJ d.names)::fB::dH::some (.loc K.length)::some (.bool b)::none::t) (K++[.list ((lU d.names known).map λ(k:Nat)=>AV.int (k:Int))]) P) e4).mpr ?_;exists ir (au hD) rfl;exists cV (ce (by decide));exists d7 aN (bJ (bH ngI l0) (by lia)) B1;exists cV Zj;exists j0 (au (au hD)) (okm hd (by decide));have g1:∀o E,((K++E).set kD o)[kK]?=some (.list (known.map aJ)):=λo E=>by
  erw[mN (bV bB)];exact au hK
 have f1:∀o E,Fr [kK,kD] K ((K++E).set kD o):=λo E=>(Fr.app _ _ _).trans (.set _ (aL _ aG));erw[ap2];have g2:∀E,((K++E).set kD (.list (ds.map mE++[mE (d,kP)])))[kD]?=some (.list ((ds++[(d,kP)]).map mE)):=λE=>by
  erw[cf];exact eP (au hD)
 refine ifb (λc=>?_) (λc=>?_)
 ·exists nv kn;refine ⟨rfl,rfl,?_⟩;erw[aK];exists Yk ⟨bJ ngI (upI hn rfl),rfl,.inr rfl⟩;refine Za (le2 hn rfl) ?_;have hl:(ju d.names.length).length=d.names.length:=by erw[ju,aK,iy]
  refine Zf (le2 hn rfl) (ju d.names.length) _ _ known (le2 (aF lO (fe _ (ah (aE hl) hn))) rfl) (λk hk=>?_) (g1 _ _) λdH K' q1 q2=>?_
  ·refine e12 (bo.mp hk) λj hj aS=>?_;subst aS;have:=dc.mp hj;exact ⟨le2 (ah (gb _ _) hn) rfl,Aq this⟩
  ·refine h _ _ _ K' (by erw[kU,if_pos c];exact q1) (q2 kD _ (λq=>bB (bM.mp q).symm) (g2 _)) ((f1 _ _).trans (q2.mono λm hm=>?_));erw[bM.mp hm];exact aG
 ·exact h _ _ _ _ (by erw[kU,if_neg (λq=>rz (q.symm.trans c))];exact g1 _ _) (g2 _) (f1 _ _)
inductive vV:List (List Cps)->List Drw->Prop
 |nil:vV [[]] []
 |snoc {k ds d}:vV k ds->Kf k d->vV (kU k d) (ds++[d])
theorem Zl(names:List Cps)(k:List (List Cps))(j:Nat):(fY names k j).length<=k.length+2:=by
 unfold fY;have:=lj (λx=>decide (x∉k)) [names.take (j-1),names.take j];rw[bx];exact fH this _
theorem Zm{names:List Cps}{k:List (List Cps)}{j:Nat}{x:List Cps}(h:x∈fY names k j):x∈k\/x.length<=names.length:=by
 unfold fY at h;refine cT (cU.mp h) (λh=>?_) λh=>?_
 ·exact .inl h
 ·right;have:=(d9.mp h).1;simp only[bu,List.mem_nil_iff,or_false] at this;rcases this with rfl|rfl<;>simp<;>exact rf _ _
theorem Zn(names:List Cps):∀(l:List Nat) (k:List (List Cps)),(l.foldl (fY names) k).length<=k.length+2*l.length:=λl=>by
 induction l with
 |nil=>
  intro k;simp
 |cons j l ih=>
  intro k;have:=ih (fY names k j);have h2:=Zl names k j;simp only[cB,bC];exact ah this (lC h2 (aE (gC _ _ _)))
theorem Zo{names:List Cps}:∀{l:List Nat} {k:List (List Cps)} {x:List Cps},x∈l.foldl (fY names) k->x∈k\/x.length<=names.length:=λ{l}=>by
 induction l with
 |nil=>
  intro k x h;exact .inl h
 |cons j l ih=>
  intro k x h;refine cT (ih h) (λh=>?_) λh=>?_
  ·exact Zm h
  ·exact .inr h
theorem Zp{names:List Cps}{k:List (List Cps)}{j:Nat}(h:k≠[]):fY names k j≠[]:=by
 unfold fY;simp[h]
theorem Zq{names:List Cps}:∀{l:List Nat} {k:List (List Cps)},k≠[]->l.foldl (fY names) k≠[]:=λ{l}=>by
 induction l with
 |nil=>
  intro k h;exact h
 |cons j l ih=>
  intro k h;exact ih (Zp h)
theorem Zr{c:Cps}:c∈P5->c.length<=2:=(show ∀c∈P5,b9 c<=2 by decide) c
theorem Kg{c:Cps}:c∈P6->c.length<=2:=(show ∀c∈P6,b9 c<=2 by decide) c
structure DD(gK:List Int)(kS kK kD:Nat)(known:List (List Cps))(qs:List (Drw × Nat))(K:List AO):Prop where
 hS:K[kS]?=some (.pin (gK.map AV.int))
 hK:K[kK]?=some (.list (known.map aJ))
 hD:K[kD]?=some (.list (qs.map mE))
 n1:kS≠kK
 n2:kS≠kD
 n3:kK≠kD
 pc:∀q∈qs,K[q.2]?=some (.list (q.1.pieces.map AV.str))/\q.2≠kK/\q.2≠kD
 rel:vV known (qs.map (·.1))
 l1:known.length<=1+40*qs.length
 l2:∀x∈known,x.length<=3*qs.length
 ne:known≠[]
theorem nxt{S:Sys}{s:MS}{r:MB}{P:Fl->PrS}{vs:Vs}{H:List AO}(h:WS S s vs H (onF P (qn (WB S r) P))):onF P (qn (WB S (.cons s r)) P) .next vs H:=h
theorem Zs{n kS kK kD:Nat}{gK:List Int}{dy:List AV}{R:Option Fl->PrS}{t:Vs}(hz:gK.length<=63):∀(m p:Nat) (a3 a4 a5 a6 a7 a8 a9 bU cY gn mZ fB dH fU fQ:Option AV) (K:List AO) (known:List (List Cps)) (qs:List (Drw × Nat)),p+m=6->qs.length=p->DD gK kS kK kD known qs K ->
   (∀a3 a4 a5 a6 a7 a8 a9 bU cY gn mZ fB dH fU fQ K' known qs,DD gK kS kK kD known qs K'->qs.length=6->R none (some (.loc kS)::some (.loc kK)::some (.loc kD)::a3::a4::a5::a6::a7::a8::a9::bU::cY::gn::mZ::fB::dH::fU::fQ::none::t) K') ->
   foW (WA (Sy n) (.nm 3)) (WB (Sy n) eZ) (.fix dy) R ((pg p m).map λ(j:Nat)=>AV.int (j:Int)) (some (.loc kS)::some (.loc kK)::some (.loc kD)::a3::a4::a5::a6::a7::a8::a9::bU::cY::gn::mZ::fB::dH::fU::fQ::none::t) K:=λm=>by
 induction m with
 |zero=>
  intro p a3 a4 a5 a6 a7 a8 a9 bU cY gn mZ fB dH fU fQ K known qs hm hq I h;exact eY trivial (h _ _ _ _ _ _ _ _ _ _ _ _ _ _ _ K known qs I (hq.trans hm))
 |succ m ih=>
  intro p a3 a4 a5 a6 a7 a8 a9 bU cY gn mZ fB dH fU fQ K known qs hm hq I h;refine fE trivial (?_:WA (Sy n) (.nm 3) (.int (p:Int)) _ _ _);refine Y1 I.hS hz (by exact ah (cr (bK _ _)) (aE hm)) (zF 19 _) rfl rfl rfl λz E z0 z1=>?_;have l1:=qH z 5 (by decide);have d1:=yV z 5 200000000 (by decide) z0 z1;refine nxt (yW (by decide) rfl ?_);generalize j6 z 5=y at *;have d2:=yV y 8 200000000 (by decide) d1.1 d1.2;refine nxt (yW (by decide) rfl ?_);generalize j6 y 8=x at *;have l3:=qH x 3 (by decide);have d3:=yV x 3 200000000 (by decide) d2.1 d2.2;refine nxt (yW (by decide) rfl ?_);generalize j6 x 3=w at *;have l4:=qH w 5 (by decide);have d4:=yV w 5 200000000 (by decide) d3.1 d3.2;refine nxt (yW (by decide) rfl ?_);generalize j6 w 5=v at *;refine Y2 l4.1 l4.2 rfl λc F kP hc gI hP=>?_;refine e12 (vR l3.1 l3.2) λmo em G9=>?_;exists kQ (bJ (by exact bH ngI (lg em.symm)) (bH (rc l3.2) (by decide)));erw[em];have e3:(mo:Int)=((0+mo:Nat):Int):=by erw[i0]
  erw[e3];refine vT (a:=0) (by decide) (le2 (bk (uT (em▸l3.2))) rfl) ?_;have et:(((bn mo).map λj=>0+j).map λ(j:Nat)=>AV.int (j:Int)).length=mo:=by erw[aK,aK,iy]
  refine Y3 _ _ _ v _ [c] d4.1 (ah (fH (ah (aE et) (bk G9)) 1) (by decide)) hP λz' bU cY K1 ps g1 g2 g3 g4=>?_;replace g1:ps.length<=2:=ah (aE (g1.trans et)) (dU G9);have uP:∀{m o},K[m]?=some o->m≠kP:=λe=>b5 (dT (ei.mp e).1 (ah (bx▸bK ..) gI));have e1:Fr [] K K1:=λm o _ e=>g4 m o (λq=>uP e (bM.mp q)) (au (au e));refine e13 (Zg l1.1 l1.2) λtl ht B1 OI=>?_;have Bl:=I.l1;have xR:=I.l2;refine Zi (e1 _ _ (λq=>nomatch q) I.hK) g3 I.ne (by exact le2 (ah Bl (aF (aq _) (fe _ (ah (aE hq) (dR (aE hm)))))) rfl) (λx hx=>by have:=xR x hx;exact le2 (ah this (fe _ (ah (aE hq) (dR (aE hm))))) rfl) (by erw[bx,eR];exact le2 (aF (aq _) g1) rfl) OI λstart fB G gq=>?_;have fin:∀d:Drw,Kf known d->d.lead=tl->d.pieces=[c]++ps->d.names.length<=3*(qs.length+1)->WB (Sy n) (.cons (nth eZ 11) (.cons (nth eZ 12) (.cons (nth eZ 13) (.cons (nth eZ 14) .nil)))) (some (.loc kS)::some (.loc kK)::some (.loc kD)::some (.int (p:Int))::z'::some (.int (z.fmod 5))::some (.int (y.fmod 8))::some (.int ((0+mo:Nat):Int))::some (.int (w.fmod 5))::some (.loc kP)::bU::cY::some (aJ d.start)::some (aJ d.names)::fB::dH::fU::fQ::none::t) (K1++G) (my (foW (WA (Sy n) (.nm 3)) (WB (Sy n) eZ) (.fix dy) R ((pg (p+1) m).map λ(j:Nat)=>AV.int (j:Int))) R):=λd hd ed ep Gs=>by
   refine Zk (au (e1 _ _ (λq=>nomatch q) I.hK)) (au (e1 _ _ (λq=>nomatch q) I.hD)) I.n3 (by exact le2 (ah Bl (aF (aq _) (fe _ (ah (aE hq) (dR (aE hm)))))) rfl) (by exact le2 (ah Gs (fe _ (aF (ah (aE hq) (dR (aE hm))) (aq _)))) rfl) (by exact le2 (ah (aE hq) (dR (aE hm))) rfl) l1.1 l1.2 (ed▸B1) hd.2.2.2.2 λdH fU fQ K3 q1 q2 F3=>?_;have e2:Fr [kK,kD] K K3:=((e1.trans (.app _ _ _)).mono λ_ q=>nomatch q).trans F3;refine ih (p+1) _ _ _ _ _ _ _ _ _ _ _ _ _ _ _ K3 (kU known d) (qs++[(d,kP)]) (by exact tj (gC _ _ _) hm) (by erw[bx,hq];rfl) ⟨e2 _ _ ?_ I.hS,q1,q2,I.n1,I.n2,I.n3,?_,?_,?_,?_,?_⟩ h
   ·simp[I.n1,I.n2]
   ·intro q uu;rcases cU.mp uu with uu|uu
    ·have p1:=I.pc q uu;exact ⟨e2 _ _ (by simp[p1.2.1,p1.2.2]) p1.1,p1.2⟩
    ·erw[bM.mp uu];refine ⟨F3 _ _ ?_ (au (ep▸g3)),(uP I.hK).symm,(uP I.hD).symm⟩;simp[(uP I.hK).symm,(uP I.hD).symm]
   ·erw[cf];exact .snoc I.rel hd
   ·unfold kU;split
    ·have:=Zn d.names (ju d.names.length) known;have h2:(ju d.names.length).length=d.names.length:=by erw[ju,aK,iy]
     erw[bx,eR];omega (splitNatAbs:=true)
    ·erw[bx,eR];exact ac8 (gE Bl)
   ·intro x hx;erw[bx,eR];unfold kU at hx;split at hx
    ·refine cT (Zo hx) (λhx=>?_) λhx=>?_
     ·have:=xR x hx;exact gE this
     ·exact ah hx Gs
    ·have:=xR x hx;exact gE this
   ·unfold kU;split
    ·exact Zq I.ne
    ·exact I.ne
  refine fin ⟨start,tl,[c]++ps,([c]++ps).foldl cq (if tl=[] then start else []),decide (known.length+(lU (([c]++ps).foldl cq (if tl=[] then start else [])) known).length<8)⟩ ⟨gq,ht,⟨c,ps,rfl,hc,g2,g1⟩,rfl,rfl⟩ rfl rfl ?_
  have:=DC ([c]++ps) (if tl=[] then start else [])
  have h2:(if tl=[] then start else []).length<=3*qs.length:=by
   split
   ·exact xR start gq
   ·exact bW _
  rw[bx,eR] at this;show (Nt cq _ _).length<=_;exact ah this (aF h2 (le2 (aF (aq _) g1) rfl))
theorem Zt{n kS:Nat}{gK:List Int}{K:List AO}{P:AV->List AO->Prop}(hz:gK.length<=63)(hS:K[kS]?=some (.pin (gK.map AV.int)))(h:∀kK kD known qs K',DD gK kS kK kD known qs K'->qs.length=6->P (.tup [.loc kK,.loc kD]) K'):Φ (n+1) 301 [.loc kS] K P:=by
 refine dP rfl rfl (ds:=[("script",.loc kS)]) rfl (vs:=[some (.loc kS),none,none,none,none,none,none,none,none,none,none,none,none,none,none,none,none,none,none,none,none,none,none,none,none,none]) rfl ?_;refine cV jr (cV vP (cV jr ?_));refine kQ rfl (vT (a:=0) (m:=6) (by decide) (by decide) ?_);have aM:=(ei.mp hS).1;refine Zs hz 6 0 _ _ _ _ _ _ _ _ _ _ _ _ _ _ _ _ [[]] [] rfl rfl ⟨au (au hS),au aN,aN,b5 aM,by erw[bx];exact λq=>b5 (gE aM) q,by erw[bx,eR];exact λq=>b5 (aq _) q,(λ_ h=>nomatch h),.nil,by decide,(λx hx=>by erw[bM.mp hx];exact aq 0),by decide⟩ λ_ _ _ _ _ _ _ _ _ _ _ _ _ _ _ K' known qs I hq=>?_;exact ⟨js,h _ _ known qs K' I hq⟩
noncomputable def dn:List Cps->List Cps->List Cps
 |a::l,b::r=>if a=b then a::dn l r else []
 |_,_=>[]
noncomputable def e9(s:Cps):List Cps:=(bF 47 s).filter λc=>decide (c≠[]/\c≠[46])
theorem z4x(a:Cps):ltC a a=false:=by unfold ltC;simp
theorem z43:∀l:List Cps,ltR l l=false:=λl=>by
 induction l with
 |nil=>exact  rfl
 |cons a l ih=>
  unfold ltR;erw[if_pos rfl,ih]
theorem Zu{a b:Cps}(h:ltC a b=true):ltC b a=false:=by
 unfold ltC at *;simp only[decide_eq_true_eq,decide_eq_false_iff_not] at *;exact List.lt_asymm h
theorem Zv{a b:Cps}(h1:ltC a b=false)(h2:ltC b a=false):a=b:=by
 unfold ltC at *;simp only[decide_eq_false_iff_not] at *;exact List.le_antisymm (Nu.mp h2) (Nu.mp h1)
theorem DE:∀{l r:List Cps},ltR l r=true->ltR r l=false
 |_,[],h=>by cases ‹List Cps›<;>simp[ltR] at h
 |[],_::_,_=>rfl
 |a::l,b::r,h=>by
  unfold ltR at h ⊢;by_cases e:a=b
  ·rw[if_pos e] at h;erw[if_pos e.symm];exact DE h
  ·rw[if_neg e] at h;erw[if_neg (bV e)];exact Zu h
theorem Kh:∀{l r:List Cps},ltR l r=false->ltR r l=false->l=r
 |[],[],_,_=>rfl
 |[],_::_,h,_=>by simp[ltR] at h
 |_::_,[],_,h=>by simp[ltR] at h
 |a::l,b::r,h1,h2=>by
  unfold ltR at h1 h2;by_cases e:a=b
  ·rw[if_pos e] at h1;rw[if_pos e.symm] at h2;erw[e,Kh h1 h2]
  ·rw[if_neg e] at h1;rw[if_neg (bV e)] at h2;exact absurd (Zv h1 h2) e
theorem DG:∀l r:List Cps,dn l r=dn r l
 |[],[]=>rfl
 |[],_::_=>rfl
 |_::_,[]=>rfl
 |a::l,b::r=>by
  unfold dn;by_cases e:a=b
  ·erw[if_pos e,if_pos e.symm,DG l r,e]
  ·erw[if_neg e,if_neg (bV e)]
theorem Ki{c:Int->Int->Bool}{e:List Cps->List Cps->Bool}{H:List AO}{v:AV}{r:List AV}{xs:List Int}(h:jU (v::r)=some xs):ql c e H (v::r)=(v::r)[argBest (λi j=>c (xs.getD i 0) (xs.getD j 0)) r.length]?:=by
 unfold ql vk;dsimp only;erw[h];rfl
theorem Kj{H:List AO}{k:Nat}{z:List Cps}(h:H[k]?=some (.list (z.map AV.str)))(r:List AV):mv H (.loc k::r)=(mv H r).map (z::·):=by
 show (liO H[k]?).bind (λl=>(gM l).bind λx=>(mv H r).map (x::·))=_;erw[h];show (gM (z.map AV.str)).bind _=_;erw[qF];rfl
theorem Kk{H:List AO}{i j:Nat}{x y:List Cps}(hi:H[i]?=some (.list (x.map AV.str)))(hj:H[j]?=some (.list (y.map AV.str))):mv H [.loc i,.loc j]=some [x,y]:=by
 erw[Kj hi,Kj hj];rfl
theorem Zw{H:List AO}{i j:Nat}{x y:List Cps}(hi:H[i]?=some (.list (x.map AV.str)))(hj:H[j]?=some (.list (y.map AV.str))):sv H [.loc i,.loc j]=some (if ltR y x=true then .loc j else .loc i):=by
 show ((mv H [.loc i,.loc j]).map λxs i j=>ltR (xs.getD i []) (xs.getD j [])).bind (λbt=>[AV.loc i,.loc j][argBest bt 1]?)=_;erw[Kk hi hj];show [AV.loc i,.loc j][if ltR y x=true then 1 else 0]?=_
 split<;>rfl
theorem Zx{H:List AO}{i j:Nat}{x y:List Cps}(hi:H[i]?=some (.list (x.map AV.str)))(hj:H[j]?=some (.list (y.map AV.str))):vm H [.loc i,.loc j]=some (if ltR x y=true then .loc j else .loc i):=by
 show ((mv H [.loc i,.loc j]).map λxs i j=>ltR (xs.getD j []) (xs.getD i [])).bind (λbt=>[AV.loc i,.loc j][argBest bt 1]?)=_;erw[Kk hi hj];show [AV.loc i,.loc j][if ltR x y=true then 1 else 0]?=_
 split<;>rfl
noncomputable abbrev j3:MB:=eh (nth i289.body 3)
theorem Kl{n:Nat}{src:Src}{K:List AO}{a0 a1 a3 a4 a5 a6 a7 a8 a9 bU cY:Option AV}{t:Vs}(hs:src.ok K):∀(l:List Cps) (gn:Option AV) (Q:List AV->PrS),(∀c∈l,okL c.length=true)->(∀vs,Q ((l.filter λc=>decide (c≠[]/\c≠[46])).map AV.str) vs K) ->
  lcW (WCO (Sy n) (.so (.all .And (.cons (.val (.var 12)) (.cons (.cmp (.var 12) .NotEq (.var 2)) .nil))))) (WE (Sy n) (.var 12)) 12 src (l.map AV.str) Q (a0::a1::some (.str [46])::a3::a4::a5::a6::a7::a8::a9::bU::cY::gn::t) K:=λl=>by
 induction l with
 |nil=>exact λgn Q zz h=>gU hs (h _)
 |cons c l ih=>
  intro gn Q hk h;refine fF hs ?_;have cC:=λc hc=>hk c (aL _ hc);exists qB (hk c aG);refine ifn (λc1=>b8 c1 ?_) (λc1=>?_)
  ·exact ih _ Q cC λvs=>by
    rw[gc (p:=λc=>decide (c≠[]/\c≠[46])) λq=>(of_decide_eq_true q).1 (isE (nf c1))] at h;exact h vs
  ·exists jq;refine ifn (λc2=>b8 c2 ?_) (λc2=>cI rfl ?_)
   ·exact ih _ Q cC λvs=>by
     rw[gc (p:=λc=>decide (c≠[]/\c≠[46])) λq=>(of_decide_eq_true q).2 (ny c2)] at h;exact h vs
   ·exact ih _ (lcD Q _) cC λvs=>by
     rw[iA (p:=λc=>decide (c≠[]/\c≠[46])) (decide_eq_true ⟨isN (nt c1),nw c2⟩)] at h;exact h vs
theorem DH{l:List AV}{m:Nat}{x:AV}(h:l[m]?=some x):((cZ l.length (m:Int)).bind λj=>l[j]?)=some x:=by
 have:=(ei.mp h).1;have e:cZ l.length (m:Int)=some m:=by unfold cZ;erw[if_pos (dw _),if_pos (iL this)];simp
 erw[e];exact h
noncomputable abbrev feB:MB:=eh (nth j3 6)
theorem Km{n k1 k2:Nat}{s1 s2:List Cps}{K:List AO}{R:Option Fl->PrS}{a0 a1 a2 a3 a4:Option AV}{t:Vs}(h1:K[k1]?=some (.list (s1.map AV.str)))(h2:K[k2]?=some (.list (s2.map AV.str)))(hz:s1.length<=1000) :
  ∀(r l pre:List Cps) (a5 a9:Option AV),s1=pre++r->s2=pre++l->ltR l r=false ->
   (∀a5 a9 G kc o,(K++G)[kc]?=some (.list ((pre++dn r l).map AV.str))->(o=none\/o=some .brk)->R o (a0::a1::a2::a3::a4::a5::some (.loc k1)::some (.loc k2)::some (.loc kc)::a9::t) (K++G)) ->
   feW 9 5 (WB (Sy n) feB) k1 (s1.map AV.str) R pre.length (r.map AV.str) (a0::a1::a2::a3::a4::a5::some (.loc k1)::some (.loc k2)::some (.loc k1)::a9::t) K
 |[],l,pre,a5,a9,e1,e2,aM,h=>Yv h1 (by
  have:=h a5 a9 [] k1 none (by erw[c9,h1,e1];simp[dn]) (.inl rfl)
  rwa[c9] at this)
 |c::r,[],pre,a5,a9,e1,e2,aM,h=>rz (show true=false from aM)
 |c::r,b::l,pre,a5,a9,e1,e2,aM,h=>by
  refine Yw h1 ?_;have u7:((cZ (s2.map AV.str).length ((pre.length:Nat):Int)).bind λj=>(s2.map AV.str)[j]?)=some (.str b):=DH (by erw[e2];simp);have mS:pre.length<=1000:=by rw[e1,bx] at hz;exact le2 (dR hz) rfl
  have bp:inB (pre.length:Int)=true:=bJ ngI (upI mS rfl);exists d7 h2 bp u7;exists jq;refine ifb (λcb=>?_) (λcb=>?_)
  ·exists sZ (a:=none) h1 (okm hz (by decide)) rfl (eB bp);refine h _ _ [_] K.length (some .brk) ?_ (.inr rfl);erw[aN,oN,<- wK,e1,Fp,show dn (c::r) (b::l)=[] from if_neg (nw cb),c9]
  ·have cb:=ny cb;have Qw:ltR l r=false:=by unfold ltR at aM;rwa[if_pos cb.symm] at aM
   have ih:=Km (n:=n) h1 h2 hz r l (pre++[c]) (some (.str c)) (some (.int (pre.length:Int))) (by erw[e1,bD];rfl) (by erw[e2,bD,cb];rfl) Qw λa5 a9 G kc o q4 q5=>h a5 a9 G kc o (by erw[q4,show dn (c::r) (b::l)=c::dn r l from if_pos cb,bD];rfl) q5;rw[bx] at ih;exact ih
theorem Zy(P:Cps->Bool):∀l:List Cps,bP (l.filter P)<=bP l/\(l.filter P).length<=l.length:=λl=>by
 induction l with
 |nil=>
  simp
 |cons a r ih=>
  have ih:=ih;erw[pe];split
  ·erw[j2,j2];simp only[bC];exact ⟨fH ih.1 _,cr ih.2⟩
  ·rw[j2];simp only[bC];exact ⟨wD ih.1,Nat.le_succ_of_le ih.2⟩
theorem Kn(s:Cps):(e9 s).length<=s.length+1/\bP (e9 s)<=s.length:=by
 refine e02 (yS 47 s) λh1 h2=>?_;refine e02 (Zy (λc=>decide (c≠[]/\c≠[46])) (bF 47 s)) λh4 h5=>?_;have h6:0<(bF 47 s).length:=Fo.mpr h2;unfold e9;generalize (bF 47 s).filter _=f at *;constructor<;>(first|exact ah h5 (dL (aE h1))|exact Nv (ah (aF h4 h6) (aE h1)))
theorem DI:∀l r:List Cps,(dn l r).length<=l.length/\bP (dn l r)<=bP l
 |[],r=>by simp[dn]
 |_::_,[]=>by simp[dn,bP]
 |a::l,b::r=>by
  have ih:=DI l r;by_cases e:a=b
  ·erw[show dn (a::l) (b::r)=a::dn l r from if_pos e,j2,j2];simp only[bC];exact ⟨cr ih.1,fH ih.2 _⟩
  ·rw[show dn (a::l) (b::r)=[] from if_neg e];simp[bP]
theorem DJ{n k1 k2:Nat}{s1 s2:List Cps}{K:List AO}{P:Fl->PrS}{a0 a2 a3 a5 a8 a9 bU:Option AV}{t:Vs}(h1:K[k1]?=some (.list (s1.map AV.str)))(h2:K[k2]?=some (.list (s2.map AV.str)))(hz:s1.length<=1000)(hw:bP s1<=1000)(aM:ltR s2 s1=false)(h:∀vs G,P (.ret (.str (aA (dn s1 s2)))) vs (K++G)) :
  WB (Sy n) (.cons (nth j3 5) (.cons (nth j3 6) (.cons (nth j3 7) (.cons (nth j3 8) .nil)))) (a0::some (.str [47])::a2::a3::some (.bool true)::a5::some (.loc k1)::some (.loc k2)::a8::a9::bU::t) K P:=by
 refine fq h1 ?_;refine ⟨okm hz (by decide),?_⟩;refine Km h1 h2 hz s1 s2 [] _ _ rfl rfl aM λa5 a9 G kc o q4 q5=>?_;have fin:WB (Sy n) (.cons (nth j3 7) (.cons (nth j3 8) .nil)) (a0::some (.str [47])::a2::a3::some (.bool true)::a5::some (.loc k1)::some (.loc k2)::some (.loc kc)::a9::bU::t) (K++G) P:=by
  have l1:=DI s1 s2;have l3:=qG (dn s1 s2);rw[pf] at q4;generalize dn s1 s2=c at *;have l4:(c.map b9).sum=bP c:=rfl;exists iV;exists cI rfl;exists iW (i:="str.join") rfl
  with_reducible refine vO q4 (qF c) (ce (by erw[eR];exact le2 (aF (ah (aE l4) (ah l1.2 hw)) (Ao _ (ah l1.1 hz))) rfl)) ?_
  with_reducible refine oK (ce (by erw[eR];exact le2 (aF (aq _) (ah l3 (aF (ah (aE l4) (ah l1.2 hw)) (ah l1.1 hz)))) rfl)) ?_
  exact h _ G
 rcases q5 with rfl|rfl
 ·exact fin
 ·exact fin
theorem Zz{n i j m:Nat}{x y:List Cps}{K:List AO}{P:Fl->PrS}{a0 a2 a5 a6 a7 a8 a9 bU:Option AV}{t:Vs}(hm:K[m]?=some (.list [.loc i,.loc j]))(hi:K[i]?=some (.list (x.map AV.str)))(hj:K[j]?=some (.list (y.map AV.str)))(x1:x.length<=1000)(x2:bP x<=1000)(y1:y.length<=1000)(y2:bP y<=1000)(h:∀vs G,P (.ret (.str (aA (dn x y)))) vs (K++G)) :
  WB (Sy n) (.cons (nth j3 3) (.cons (nth j3 4) (.cons (nth j3 5) (.cons (nth j3 6) (.cons (nth j3 7) (.cons (nth j3 8) .nil)))))) (a0::some (.str [47])::a2::some (.loc m)::some (.bool true)::a5::a6::a7::a8::a9::bU::t) K P:=by
 have em:=Zw hi hj;have eM:=Zx hi hj;exists JP hm em;exists JO hm eM;cases c1:ltR y x
 ·cases c2:ltR x y
  ·have:=Kh c2 c1;clear em y2 eM hj y1 c2;subst this;exact DJ hi hi x1 x2 c1 h
  ·exact DJ hi hj x1 x2 c1 h
 ·erw[DE c1];exact DJ hj hi y1 y2 (DE c1) (DG x y▸h)
theorem Ko{n kP:Nat}{p q:Cps}{H:List AO}{P:AV->List AO->Prop}(hP:H[kP]?=some (.list [.str p,.str q]))(hp:p.length<=500)(hq:q.length<=500)(p1:eg [47] p=true)(q1:eg [47] q=true)(h:∀G,P (.str (aA (dn (e9 p) (e9 q)))) (H++G)):Φ (n+2) 289 [.loc kP] H P:=by
 refine dP rfl rfl (ds:=[("paths",.loc kP)]) rfl (vs:=[some (.loc kP),none,none,none,none,none,none,none,none,none,none,none,none,none,none,none,none,none,none]) rfl ?_;have sp:=yS 47 p;have sq:=yS 47 q;refine fq hP ?_;refine ⟨rfl,js,cA rfl ?_⟩;exists XV js;refine b8 rfl ?_;exists X6 rfl (d:=.str p) rfl;exists yP;exists iV;exists b8 rfl;refine qE js ⟨rfl,fF trivial (cI rfl ?_)⟩;exists iW (i:="str.split") rfl;exists Dl (ce (le2 hp rfl));refine fF trivial (cI rfl ?_);exists iW (i:="str.split") rfl;exists Dl (ce (le2 hq rfl));refine gU trivial ?_;refine qE js ⟨rfl,fF trivial (cI rfl ?_)⟩;exists iW (i:="str.startswith") rfl;exists Dk;refine ⟨congrArg AV.bool p1,fF trivial (cI rfl ?_)⟩;exists iW (i:="str.startswith") rfl;exists Dk;refine ⟨congrArg AV.bool q1,gU trivial ⟨by erw[p1,q1],?_⟩⟩;refine gT aN js ⟨rfl,fF aN (cI rfl ?_)⟩;refine gT (au (au aN)) (okm (k:=1000) (le2 (ah (dL (aE sp.1)) (aF hp (aq _))) rfl) (by decide)) ⟨rfl,Kl (src:=.list _ _) (au (au aN)) (bF 47 p) _ _ (λc hc=>ce (by have:=yT hc;exact le2 (ah this (ah (dR (aE sp.1)) (aF hp (aq _)))) rfl)) λva=>?_⟩;refine fF (au aN) (cI rfl ?_);refine gT (au (au aN)) (okm (k:=1000) (le2 (ah (dL (aE sq.1)) (aF hq (aq _))) rfl) (by decide)) ⟨rfl,Kl (src:=.list _ _) (au (au aN)) (bF 47 q) _ _ (λc hc=>ce (by have:=yT hc;exact le2 (ah this (ah (dR (aE sq.1)) (aF hq (aq _)))) rfl)) λvb=>?_⟩;refine gU (au (au aN)) ?_;have cx:=Kn p;have cy:=Kn q;refine Zz aN (au (au aN)) (au aN) (x:=e9 p) (y:=e9 q) (le2 (ah cx.1 (aF hp (aq _))) rfl) (le2 (ah cx.2 hp) rfl) (le2 (ah cy.1 (aF hq (aq _))) rfl) (le2 (ah cy.2 hq) rfl) λvs G=>?_;simp only[bD];exact h _
theorem ZA(c:Nat)(s:Cps):bF c s≠[]:=by
 induction s using bI with
 |nil=>simp[bF]
 |cons x r=>
  unfold bF;split
  ·simp
  ·split<;>simp
theorem ZB(c:Nat):∀a b:Cps,bF c (a++c::b)=bF c a++bF c b:=λa=>by
 induction a with
 |nil=>
  intro b;simp[bF]
 |cons x a ih=>
  intro b;erw[Fj];by_cases h:x=c
  ·erw[bF,if_pos h,(ih b),bF,if_pos h];rfl
  ·erw[bF,if_neg h,(ih b),bF,if_neg h];have:=ZA c a;cases hs:bF c a with
   |nil=>exact absurd hs this
   |cons y t=>rfl
theorem ZC(c:Nat):∀a:Cps,c∉a->bF c a=[a]:=λa=>by
 induction a with
 |nil=>exact λzz=>rfl
 |cons x a ih=>
  intro h;rw[bu,not_or] at h;erw[bF,if_neg (bV h.1),ih h.2]
noncomputable abbrev gd(c:Cps):Bool:=decide (c≠[]/\c≠[46])
theorem yX(s:Cps):e9 s=(bF 47 s).filter gd:=rfl
theorem vX(a b:Cps):e9 (a++47::b)=e9 a++e9 b:=by
 erw[yX,ZB,rA];rfl
theorem DK(a:Cps)(h:47∉a):e9 a=[a].filter gd:=by erw[yX,ZC 47 a h]
theorem Kp:e9 []=[]:=by decide
theorem vY(b:Cps):e9 (47::b)=e9 b:=by
 have:=vX [] b
 rwa[Kp] at this
theorem qI:∀l:List Cps,(∀c∈l,47∉c)->e9 (bq [47] l)=l.filter gd
 |[],_=>by decide
 |[x],h=>by rw[bq];exact DK x (h x aG)
 |x::y::r,h=>by
  erw[show bq [47] (x::y::r)=x++[47]++bq [47] (y::r) from rfl,bD];show e9 (x++47::bq [47] (y::r))=_;erw[vX,(qI (y::r) λc hc=>h c (aL _ hc)),DK x (h x aG),<- rA];rfl
 termination_by l=>l.length
def Gd(c:Cps):Prop:=c≠[]/\c≠[46]/\c≠[46,46]/\47∉c
theorem Gd.gd{c:Cps}(h:Gd c):gd c=true:=decide_eq_true ⟨h.1,h.2.1⟩
theorem DL{l:List Cps}(h:∀c∈l,Gd c):l.filter gd=l:=Nw.mpr λc hc=>(h c hc).gd
theorem DM{x:List Cps}(h:∀c∈x,Gd c):e9 (aA x)=x:=by
 unfold aA;erw[vY,qI x λc hc=>(h c hc).2.2.2,DL h]
theorem ZD{x:List Cps}(h:∀c∈x,Gd c):e9 ([47,46]++aA x++[47,47])=x:=by
 erw[vY,vX,vX,vY,Kp,qI x λc hc=>(h c hc).2.2.2,DL h,DK [46] (by decide)];simp
theorem DN:∀(l aa:List Cps),l.foldl cq aa=(l.filter gd).foldl cq aa:=λl=>by
 induction l with
 |nil=>exact λaa=>rfl
 |cons c l ih=>
  intro aa;by_cases h:gd c=true
  ·rw[iA h,cB,cB,ih]
  ·erw[gc h,cB,ih];have h2:c=[]\/c=[46]:=by
    simp only[gd,decide_eq_true_eq] at h;by_cases h1:c=[]
    ·exact .inl h1
    ·by_cases h2:c=[46]
     ·exact .inr h2
     ·exact absurd ⟨h1,h2⟩ h
   have:cq aa c=aa:=by
    unfold cq;erw[if_neg (by rcases h2 with rfl|rfl<;>decide),if_pos h2]
   erw[this]
theorem DO(cX:Cps):∀(l aa:List Cps),l.foldl (dQ cX) aa=(l.filter gd).foldl (dQ cX) aa:=λl=>by
 induction l with
 |nil=>exact λaa=>rfl
 |cons c l ih=>
  intro aa;by_cases h:gd c=true
  ·rw[iA h,cB,cB,ih]
  ·erw[gc h,cB,ih];have h2:c=[]\/c=[46]:=by
    simp only[gd,decide_eq_true_eq] at h;by_cases h1:c=[]
    ·exact .inl h1
    ·by_cases h2:c=[46]
     ·exact .inr h2
     ·exact absurd ⟨h1,h2⟩ h
   have:dQ cX aa c=aa:=by unfold dQ;erw[if_pos h2]
   erw[this]
theorem Kq{aa:List Cps}(ha:∀c∈aa,Gd c){c:Cps}(h:47∉c):∀d∈cq aa c,Gd d:=by
 unfold cq;split
 ·exact λd hd=>ha d (Ar _ hd)
 ·rename_i h1;split
  ·exact ha
  ·rename_i h2;intro d hd;refine cT (cU.mp hd) (λhd=>?_) λhd=>?_
   ·exact ha d hd
   ·erw[bM.mp hd];exact ⟨λq=>h2 (.inl q),λq=>h2 (.inr q),h1,h⟩
theorem ZE:∀(l aa:List Cps),(∀c∈aa,Gd c)->(∀c∈l,47∉c)->∀d∈l.foldl cq aa,Gd d:=λl=>by
 induction l with
 |nil=>exact λaa ha zz=>ha
 |cons c l ih=>exact λaa ha hl=>ih (cq aa c) (Kq ha (hl c aG)) λd hd=>hl d (aL _ hd)
theorem ZF:∀(l aa:List Cps),(∀c∈aa,Gd c)->(∀c∈l,47∉c)->l.foldl (dQ [47]) aa=l.foldl cq aa:=λl=>by
 induction l with
 |nil=>exact λaa zz zz=>rfl
 |cons c l ih=>
  intro aa ha hl;have e:dQ [47] aa c=cq aa c:=by
   delta dQ cq;by_cases h1:c=[46,46]
   ·have BL:aa.getLast?≠some [46,46]:=λq=>(ha _ (Nx q)).2.2.1 rfl;erw[if_neg (by erw[h1];decide),if_pos h1,if_neg];rintro (q|q|q)
    ·exact q h1
    ·exact absurd q.1 (by decide)
    ·exact BL q.2
   ·erw[if_neg h1];by_cases h2:c=[]\/c=[46]
    ·erw[if_pos h2,if_pos h2]
    ·erw[if_neg h2,if_neg h2,if_pos (.inl h1)]
  erw[cB,cB,e];exact ih _ (Kq ha (hl c aG)) λd hd=>hl d (aL _ hd)
theorem ZG:∀(l aa:List Cps),(∀c∈l,Gd c)->l.foldl cq aa=aa++l:=λl=>by
 induction l with
 |nil=>
  intro aa _;simp
 |cons c l ih=>
  intro aa h;have hc:=h c aG;have e:cq aa c=aa++[c]:=by
   unfold cq;erw[if_neg hc.2.2.1,if_neg];rintro (q|q)
   ·exact hc.1 q
   ·exact hc.2.1 q
  erw[cB,e,ih _ λd hd=>h d (aL _ hd)];simp
theorem ZH(lead:Cps)(h:lead≠[]):∀(l aa:List Cps),l.foldl (eO lead) aa=l.foldl cq aa:=λl=>by
 induction l with
 |nil=>exact λzz=>rfl
 |cons c l ih=>
  intro aa;have e:eO lead aa c=cq aa c:=by
   delta eO cq;by_cases h1:c=[46,46]
   ·erw[if_pos ⟨h1,.inl h⟩,if_pos h1]
   ·erw[if_neg (λq=>h1 q.1),if_neg h1]
  rw[cB,cB,e,ih]
theorem ZI:∀(l aa:List Cps),l.foldl (dQ []) aa=l.foldl (eO []) aa:=λl=>by
 induction l with
 |nil=>exact λzz=>rfl
 |cons c l ih=>
  intro aa;have e:dQ [] aa c=eO [] aa c:=by
   delta dQ eO;by_cases h2:c=[]\/c=[46]
   ·erw[if_pos h2,if_pos h2,if_neg];rintro ⟨q,_⟩;subst q;exact absurd h2 (by decide)
   ·erw[if_neg h2,if_neg h2];by_cases h1:c=[46,46]
    ·by_cases h3:aa=[]
     ·erw[if_pos (.inr (.inl ⟨rfl,h3⟩)),if_neg];rintro ⟨_,q|q⟩
      ·exact q rfl
      ·exact q.1 h3
     ·by_cases h4:aa.getLast?=some [46,46]
      ·erw[if_pos (.inr (.inr ⟨h3,h4⟩)),if_neg];rintro ⟨_,q|q⟩
       ·exact q rfl
       ·exact q.2 h4
      ·erw[if_neg,if_pos ⟨h1,.inr ⟨h3,h4⟩⟩];rintro (q|q|q)
       ·exact q h1
       ·exact h3 q.2
       ·exact h4 q.2
    ·erw[if_pos (.inl h1),if_neg (λq=>h1 q.1)]
  rw[cB,cB,e,ih]
theorem Kr(p:Cps)(a b:Nat):bh p (some (a:Int)) (some (b:Int))=(p.drop (min a p.length)).take (min b p.length-min a p.length):=by
 delta bh jh;simp only[tC];erw[if_neg (by exact λq=>nM _ (uL q)),if_neg (by exact λq=>nM _ (uL q)),j9,j9]
theorem ZJ(r:Cps)(h:r.head?≠some 47\/∃t,r=47::47::t):eL (47::r)=([47],r):=by
 have e1:bh (47::r) none (some 1)=[47]:=oN (47::r) 1;have e4:bh (47::r) (some 1) none=r:=by
  delta bh jh;simp only[tC,Ap];erw[if_neg (by exact λq=>wB (uL q) (bL rfl))];have:min (zX 1) (47::r).length=1:=by simp
  erw[this];simp
 unfold eL;erw[e1,if_neg (λq=>q rfl),if_pos,e4];rcases h with h|⟨t,rfl⟩
 ·left;have:=Kr (47::r) 1 2;rw[show ((1:Nat):Int)=1 from rfl,show ((2:Nat):Int)=2 from rfl] at this;erw[this];induction r using bI with
  |nil=>simp
  |cons x r=>
   simp;intro q;clear this e1 e4;subst q;exact h rfl
 ·right;have:=Kr (47::47::47::t) 2 3;rw[show ((2:Nat):Int)=2 from rfl,show ((3:Nat):Int)=3 from rfl] at this;erw[this];simp
theorem yY(r:Cps)(h:r.head?≠some 47\/∃t,r=47::47::t)(hn:∀c∈e9 r,47∉c):iX (47::r)=aA ((e9 r).foldl cq []):=by
 unfold iX;erw[if_neg (by simp),ZJ r h];erw[DO,<- yX,ZF _ _ (λ_ h=>by cases h) hn,if_neg (by simp)];rfl
theorem ZK:∀(s:Cps),∀c∈bF 47 s,47∉c:=λs=>by
 induction s with
 |nil=>
  intro c h;simp[bF] at h;simp[h]
 |cons x r ih=>
  intro c h;have ih:=ih;unfold bF at h;split at h
  ·rcases bu.mp h with rfl|h
   ·simp
   ·exact ih c h
  ·rename_i hx;split at h
   ·simp at h;erw[h];simp[bV hx]
   ·rename_i y t hs;rw[hs] at ih;rcases bu.mp h with rfl|h
    ·have:=ih y aG;simp[this,bV hx]
    ·exact ih c (aL _ h)
theorem yZ(s:Cps):∀c∈e9 s,47∉c:=λc h=>ZK s c (d9.mp h).1
theorem y5{c:Cps}(hc:c≠[])(l:List Cps):(bq [47] (c::l)).head?=c.head?:=by
 induction l using bI with
 |nil=>rfl
 |cons y r=>
  induction c using bI with
  |nil=>exact absurd rfl hc
  |cons a c=>rfl
theorem DP{c:Cps}:c∈P6->47∉c:=(show ∀c∈P6,47∉c by decide) c
theorem s5{c:Cps}:c∈P5->c≠[]/\c.head?≠some 47/\c∈P6:=(show ∀c∈P5,c≠[]/\c.head?≠some 47/\c∈P6 by decide) c
theorem Ks{P:Cps->Prop}{lead:Cps}(hl:lead∈([[47],[47,47,47],[]]:List Cps))(h1:P [47])(h2:P [47,47,47])(h3:P []):P lead :=
 (bu.mp hl).elim (λq=>q▸h1) λhl=>(bu.mp hl).elim (λq=>q▸h2) λhl=>bM.mp hl▸h3
theorem s6(s:Cps):eg [47] s=true↔s.head?=some 47:=by
 induction s using bI with
 |nil=>simp[eg]
 |cons a s=>
  simp[eg];exact ⟨λh=>h.symm,λh=>h.symm⟩
section
variable{c:Cps}{qs:List Cps}(hc:c∈P5)(hq:∀q∈qs,q∈P6)
include hc hq
theorem DQ:∀d∈c::qs,47∉d:=λd hd=>by
 rcases bu.mp hd with rfl|hd
 ·exact DP (s5 hc).2.2
 ·exact DP (hq d hd)
theorem y6:(bq [47] (c::qs)).head?≠some 47:=by
 rw[y5 (s5 hc).1];exact (s5 hc).2.1
theorem y7(lead:Cps)(hl:lead=[47]\/lead=[47,47,47]):iX (lead++bq [47] (c::qs))=aA ((c::qs).foldl cq []):=by
 erw[DN,<- (qI _ (DQ hc hq))];rcases hl with rfl|rfl
 ·exact yY _ (.inl (y6 hc hq)) (yZ _)
 ·show iX (47::(47::47::bq [47] (c::qs)))=_;erw[yY _ (.inr ⟨_,rfl⟩) (yZ _),vY,vY]
theorem ZL(start:List Cps)(hs:∀d∈start,Gd d):iX (gz (aA start) (bq [47] (c::qs)))=aA ((c::qs).foldl cq start):=by
 have e:e9 (bq [47] (c::qs))=(c::qs).filter gd:=qI _ (DQ hc hq);have h0:¬ (eg [47] (bq [47] (c::qs))=true):=by rw[s6];exact y6 hc hq
 unfold gz;erw[if_neg (by rintro (q|q);exact h0 q;injection q)]
 induction start using bI with
 |nil=>
  erw[if_pos (by decide),DN,<- e];exact yY _ (.inl (y6 hc hq)) (yZ _)
 |cons a r=>
  have ha:=hs a (by simp);have BL:¬ (eg [47] (aA (a::r)).reverse=true):=by
   erw[s6,Ny];unfold aA;have:∀(l:List Cps) (a:Cps),(∀d∈a::l,Gd d)->∃x,(bq [47] (a::l)).getLast?=some x/\x≠47:=λl=>by
    induction l with
    |nil=>
     intro a h;have ha:=h a (by simp);refine ⟨a.getLast ha.1,by rw[bq];exact tA ha.1,λq=>ha.2.2.2 (q▸Nz ha.1)⟩
    |cons b l ih=>
     intro a h;refine e12 (ih b λd hd=>h d (aL _ hd)) λx h1 h2=>?_;refine ⟨x,?_,h2⟩;rw[show bq [47] (a::b::l)=a++[47]++bq [47] (b::l) from rfl,NA,h1];rfl
   refine e12 (this r a hs) λx h1 h2=>?_;intro q;rw[NB,h1] at q;exact h2 (l5 q)
  erw[if_neg BL];show iX (47::(bq [47] (a::r)++47::bq [47] (c::qs)))=_;rw[yY _ (.inl ?_) (yZ _)]
  ·erw[vX,e,qI _ λd hd=>(hs d hd).2.2.2,DL hs,wM,ZG _ _ hs,pf,<- DN]
  ·erw[List.head?_append,y5 ha.1];induction a using bI with
   |nil=>exact absurd rfl ha.1
   |cons x a=>
    intro q;exact ha.2.2.2 (by erw[l5 q];simp)
theorem ZM(start:List Cps)(hs:∀d∈start,Gd d)(lead:Cps)(hl:lead∈([[47],[47,47,47],[]]:List Cps)):iX (gz (aA start) (lead++bq [47] (c::qs)))=aA ((c::qs).foldl cq (if lead=[] then start else [])):=by
 refine Ks (P:=λlead=>iX (gz (aA start) (lead++bq [47] (c::qs)))=aA ((c::qs).foldl cq (if lead=[] then start else []))) hl ?_ ?_ ?_
 ·erw[if_neg (by decide),gz,if_pos (.inl (by rw[s6];rfl))];exact y7 hc hq _ (.inl rfl)
 ·erw[if_neg (by decide),gz,if_pos (.inl (by rw[s6];rfl))];exact y7 hc hq _ (.inr rfl)
 ·erw[if_pos rfl];exact ZL hc hq start hs
theorem ZN(lead:Cps)(hl:lead∈([[47],[47,47,47],[]]:List Cps)):iX (gz [] (lead++bq [47] (c::qs)))=oM lead (c::qs):=by
 have ej:∀b,gz [] b=b:=λb=>by unfold gz;erw[if_pos (.inr rfl)]
 erw[ej];have key:∀lead:Cps,lead≠[]->oM lead (c::qs)=aA ((c::qs).foldl cq []):=λlead h=>by
  unfold oM;erw[if_pos h,ZH lead h]
 refine Ks (P:=λlead=>iX (lead++bq [47] (c::qs))=oM lead (c::qs)) hl ?_ ?_ ?_
 ·erw[key _ (by decide)];exact y7 hc hq _ (.inl rfl)
 ·erw[key _ (by decide)];exact y7 hc hq _ (.inr rfl)
 ·erw[pf];have h0:=y6 hc hq;have bB:bq [47] (c::qs)≠[]:=by
   have hh:=y5 (s5 hc).1 qs;intro q;rw[q] at hh;induction c using bI with
   |nil=>exact (s5 hc).1 rfl
   |cons a c=>injection hh
  have hr:eL (bq [47] (c::qs))=([],bq [47] (c::qs)):=by
   unfold eL;rw[if_pos];erw[show (some 1:Option Int)=some ((1:Nat):Int) from rfl,oN];generalize bq [47] (c::qs)=s at *;induction s using bI with
   |nil=>simp
   |cons x s=>intro q;exact h0 (by simpa using q)
  delta iX oM;erw[if_neg bB,hr];dsimp only;erw[DO,<- yX,(qI _ (DQ hc hq)),<- DO,ZI];have hA:∀(l aa:List Cps),(∀d∈aa,d≠[])->∀d∈l.foldl (eO []) aa,d≠[]:=λl=>by
   induction l with
   |nil=>exact λaa h=>h
   |cons x l ih=>
    intro aa h;refine ih _ ?_;intro d hd;unfold eO at hd;split at hd
    ·exact h d (Ar _ hd)
    ·split at hd
     ·exact h d hd
     ·rename_i h2;rcases cU.mp hd with hd|hd
      ·exact h d hd
      ·erw[bM.mp hd];exact λq=>h2 (.inl q)
  have hN:=hA (c::qs) [] (λ_ h=>by cases h);generalize (c::qs).foldl (eO []) []=names at *;induction names using bI with
  |nil=>rfl
  |cons a r=>
   have:bq [47] (a::r)≠[]:=by
    have hh:=y5 (hN a (by simp)) r;intro q;rw[q] at hh;have:=hN a aG;induction a using bI with
    |nil=>exact this rfl
    |cons=>injection hh
   erw[pf,if_neg this,if_neg (λq=>q rfl),if_pos (by simp)]
end
theorem Kt:∀(l:List Cps) (a c:Cps),bq [47] (a::l++[c])=bq [47] (a::l)++47::c:=λl=>by
 induction l with
 |nil=>
  intro a c;simp[bq]
 |cons b l ih=>
  intro a c;show a++[47]++bq [47] (b::l++[c])=a++[47]++bq [47] (b::l)++47::c;erw[(ih b c)];simp
theorem Ku(a c:Cps)(h:47∉c):iq 47 (a++47::c)=a.length:=by
 unfold iq;have:(a++47::c).reverse=c.reverse++47::a.reverse:=by simp
 erw[this,List.findIdx_append];have h2:¬ (c.reverse.findIdx (λx=>x==47)<c.reverse.length):=by
  rw[List.findIdx_lt_length];rintro ⟨x,hx,xF⟩;exact h (by erw[<- (by simpa using xF:x=47)];simpa using hx)
 erw[if_neg h2,List.findIdx_cons];simp;exact by rw[<- Eo,EO,EO]
theorem ZO:∀(l:List Cps) (a:Cps),(∀d∈a::l,Gd d)->∃x,(bq [47] (a::l)).getLast?=some x/\x≠47:=λl=>by
 induction l with
 |nil=>
  intro a h;have ha:=h a (by simp);exact ⟨a.getLast ha.1,by rw[bq];exact tA ha.1,λq=>ha.2.2.2 (q▸Nz ha.1)⟩
 |cons b l ih=>
  intro a h;refine e12 (ih b λd hd=>h d (aL _ hd)) λx h1 h2=>?_;refine ⟨x,?_,h2⟩;rw[show bq [47] (a::b::l)=a++[47]++bq [47] (b::l) from rfl,NA,h1];rfl
theorem DR(l:List Cps)(c:Cps)(h:∀d∈l++[c],Gd d):iu (aA (l++[c]))=aA l:=by
 have hc:=h c (md _ aG);induction l using bI with
 |nil=>
  have e:aA ([]++[c])=[]++47::c:=rfl;erw[e];unfold iu;erw[Ku [] c hc.2.2.2];have e2:bh (([]:Cps)++47::c) none (some (((([]:Cps).length:Nat):Int)+1))=[47]:=by
   have e3:((([]:Cps).length:Nat):Int)+1=((1:Nat):Int):=by simp
   erw[e3,oN];simp
  erw[e2];simp[aA,bq]
 |cons a l=>
  have e:aA (a::l++[c])=aA (a::l)++47::c:=by unfold aA;erw[Kt];rfl
  refine e12 (ZO l a λd hd=>h d (lh _ hd)) λx hx xF=>?_;erw[e];unfold iu;erw[Ku _ c hc.2.2.2];have e2:bh (aA (a::l)++47::c) none (some (((aA (a::l)).length:Nat)+1:Int))=aA (a::l)++[47]:=by
   erw[show (((aA (a::l)).length:Nat)+1:Int)=(((aA (a::l)).length+1:Nat):Int) by exact rfl,oN];erw[List.take_append,l9 (jD _)];simp
  have F8:x∈aA (a::l)++[47]:=lh _ (aL _ (Nx hx));erw[e2];rw[if_pos]
  ·unfold qk;erw[Mq];have hr:∃t,(aA (a::l)).reverse=x::t:=by
    have:(aA (a::l)).reverse.head?=some x:=by
     erw[Ny];unfold aA;erw[NB,hx];rfl
    cases h:(aA (a::l)).reverse with
    |nil=>rw[h] at this;injection this
    |cons y t=>rw[h] at this;exact ⟨t,by erw[l5 this]⟩
   refine e11 hr ?_;clear hr;intro t ht;erw[ht];have:(x==47)=false:=by simpa using xF
   simp only[NC,List.reverse_nil,pf,Fj,List.dropWhile_cons,beq_self_eq_true,if_true,this,eG,if_false];erw[<- NC,<- ht,Mr]
  ·refine ⟨by simp,λq=>xF ?_⟩;rw[q] at F8;exact (List.mem_replicate.mp F8).2
theorem mF{x y:List Cps}(hx:∀d∈x,Gd d)(hy:∀d∈y,Gd d)(h:aA x=aA y):x=y:=by
 erw[<- DM hx,<- DM hy,h]
noncomputable def pre(x y:List Cps):Bool:=decide (y.take x.length=x)
noncomputable def cS(p:Nat->Bool)(n:Nat):Nat:=(((bn n).filter p).map λj=>2 ^ j).sum
theorem vZ(p:Nat->Bool)(n:Nat):cS p (n+1)=cS p n+if p n=true then 2 ^ n else 0:=by
 unfold cS;erw[Fq,rA,cf,ND];congr 1;by_cases h:p n=true
 ·simp[h]
 ·simp[h]
theorem s7(p:Nat->Bool):∀n,cS p n<2 ^ n:=λn=>by
 induction n with
 |zero=>
  simp[cS]
 |succ n ih=>
  have:=ih;erw[vZ,Fs];split<;>(first|exact wD this|exact Nat.lt_of_lt_of_eq (Nat.add_lt_add_right this _) (NE _).symm)
theorem oP(p:Nat->Bool):∀n j,(cS p n).testBit j=(decide (j<n)&&p j):=λn=>by
 induction n with
 |zero=>
  intro j;simp[cS]
 |succ n ih=>
  intro j;have aM:=s7 p n;erw[vZ];by_cases h:p n=true
  ·erw[if_pos h,nF];by_cases hj:j=n
   ·subst hj;erw[Nat.testBit_two_pow_add_eq,Au aM];simp[h]
   ·by_cases uv:j<n
    ·rw[Nat.testBit_two_pow_add_gt uv,ih];simp[uv,wx uv]
    ·have:2 ^ n+cS p n<2 ^ j:=by
      have h1:n+1<=j:=Av (d8 uv) (λq=>bV hj q);have h2:=Ft (show 0<2 by exact lT (aq _) rfl) h1;rw[Fs] at h2;exact dT (Nat.add_lt_add_left aM _) (ah (aE (NE _).symm) h2)
     erw[Au this];have:¬ j<n+1:=λq=>hj (fJ (dU q) (d8 uv));simp[this]
  ·erw[if_neg h,wu,ih];by_cases hj:j=n
   ·subst hj;simp[h]
   ·have:j<n+1↔j<n:=⟨λq=>Av (dU q) hj,wx⟩;simp[this]
noncomputable def cP(F:List (List Cps))(x:List Cps):Nat:=cS (λj=>pre x (F.getD j [])) F.length
noncomputable def iY(l:List Nat):Nat:=((bn (l.length+1)).filter λk=>k∉l).headD 0
noncomputable def y8(n m:Nat):List Nat:=(bn n).filter λi=>m.testBit i
noncomputable def nz(F:List (List Cps))(gs:List Nat)(m:Nat):List Nat:=(y8 F.length m).map λi=>gs.getD (m-(m &&& cP F (F.getD i []))) 0
noncomputable def dq(F:List (List Cps)):Nat->List Nat
 |0=>[]
 |m+1=>dq F m++[iY (nz F (dq F m) m)]
theorem v0(F:List (List Cps)):∀m,(dq F m).length=m:=λm=>by
 induction m with
 |zero=>exact  rfl
 |succ m ih=>
  erw[dq,bx,ih];rfl
theorem Kv(l:List Nat):(bn (l.length+1)).filter (λk=>decide (k∉l))≠[]:=by
 intro h;have hs:bn (l.length+1) ⊆ l:=λk hk=>by
  by_cases hc:k∈l
  ·exact hc
  ·have:k∈(bn (l.length+1)).filter λk=>decide (k∉l):=d9.mpr ⟨hk,by simpa using hc⟩
   rw[h] at this;cases this
 have:=Fu.length_le_of_subset hs;rw[iy] at this;exact lc _ this
theorem y9(l:List Nat):iY l∉l/\(∀k,k<iY l->k∈l)/\iY l<=l.length:=by
 have key:∀(n a:Nat),(pg a n).filter (λk=>decide (k∉l))≠[]->(∀k,k<a->k∈l) ->
   ((pg a n).filter (λk=>decide (k∉l))).headD 0∉l/\(∀k,k<((pg a n).filter (λk=>decide (k∉l))).headD 0->k∈l)/\((pg a n).filter (λk=>decide (k∉l))).headD 0<a+n:=λn=>by
  induction n with
  |zero=>intro a h;exact absurd rfl h
  |succ n ih=>
   intro a h hk;erw[NF];by_cases hc:a∈l
   ·rw[gc (by simpa using hc)]
    rw[NF,gc (by simpa using hc)] at h
    obtain ⟨h1,h2,h3⟩:=ih (a+1) h λk Ra=>by
     by_cases e:k=a
     ·erw[e];exact hc
     ·exact hk k (Av (dU Ra) e)
    exact ⟨h1,h2,by exact lG h3 (aq _)⟩
   ·rw[iA (by simpa using hc)]
    exact ⟨hc,hk,by simp⟩
 have:=key (l.length+1) 0 (by erw[<- Fv];exact Kv l) (λk hk=>by exact absurd hk (λq=>nM _ hk));rw[<- Fv] at this;unfold iY;exact ⟨this.1,this.2.1,by exact dU (az2 this.2.2)⟩
theorem ZP(m b:Nat)(hm:m<64)(hb:b<64)(j:Nat):(m-(m &&& b)).testBit j=(m.testBit j&&!b.testBit j):=by
 have h1:m-(m &&& b)=m &&& (63-b):=by
  have:∀m<64,∀b<64,m-(m &&& b)=m &&& (63-b):=by decide
  exact this m hm b hb
 erw[h1,NG];by_cases hj:j<6
 ·have:∀j<6,∀b<64,(63-b).testBit j=!b.testBit j:=by decide
  erw[this j hj b hb]
 ·have:m.testBit j=false:=Au (by
   have:=Ft (show 0<2 by exact lT (aq _) rfl) (show 6<=j by exact (d8 hj));exact ah hm this)
  erw[this];rfl
theorem sub_lt(m b j:Nat)(hm:m.testBit j=true)(hb:b.testBit j=true):m-(m &&& b)<m:=by
 have h1:(m &&& b).testBit j=true:=by erw[NG,hm,hb];rfl
 have h2:0<m &&& b:=by
  refine cT (Nat.eq_zero_or_pos (m &&& b)) (λh=>?_) λh=>?_
  ·rw[h] at h1;simp at h1
  ·exact h
 have h3:m &&& b<=m:=NH;exact NI (dT h2 h3) h2
theorem ZQ(a b:Nat):zR (a:Int) (b:Int)=((a &&& b:Nat):Int):=by
 unfold zR;rw[decide_eq_true (dw _),decide_eq_true (dw _)];simp
theorem ZR:∀a<16,∀b<16,wy ((a:Nat):Int) ((b:Nat):Int)=((a ^^^ b:Nat):Int):=by decide
def Fd(x:List Cps):Prop:=x.length<=20/\∀c∈x,Gd c/\c.length<=2
theorem Fd.gd{x:List Cps}(h:Fd x):∀c∈x,Gd c:=λc hc=>(h.2 c hc).1
theorem Fd.take{x:List Cps}(h:Fd x)(k:Nat):Fd (x.take k):=⟨by have:=h.1;simp;exact ah (rf _ _) this,λc hc=>h.2 c (List.mem_of_mem_take hc)⟩
theorem Kw:∀{x:List Cps},(∀c∈x,c.length<=2)->bP x<=2*x.length:=λ{x}=>by
 induction x with
 |nil=>
  intro _;simp[bP]
 |cons a r ih=>
  intro h;have:=ih λc hc=>h c (aL _ hc);have h2:=h a aG;erw[j2];simp only[bC];exact ac2 (aF this h2)
theorem Fd.sum{x:List Cps}(h:Fd x):bP x<=40:=by
 have:=Kw (x:=x) λc hc=>(h.2 c hc).2;have:=h.1;lia
theorem Fd.plen{x:List Cps}(h:Fd x):(aA x).length<=61:=by
 have h1:=qG x;have h2:=h.sum;have h3:=h.1;have l4:(x.map b9).sum=bP x:=rfl;unfold aA;simp only[bC];exact le2 (aF (ah h1 (aF (ah (aE l4) h2) h3)) (aq _)) rfl
theorem mG{n:Nat}{x:List Cps}{H:List AO}{P:AV->List AO->Prop}(hx:Fd x)(h:P (.str (aA x)) H):Φ (n+1) 296 [aJ x] H P:=Yy (by
 have h1:=hx.sum;have h2:=hx.1;have l4:(x.map b9).sum=bP x:=rfl;exact lT (aF (ah (aE l4) h1) h2) rfl) h
theorem oQ{known:List (List Cps)}{i:Nat}{x:List Cps}(h:known[i]?=some x):((cZ (known.map aJ).length (i:Int)).bind λj=>(known.map aJ)[j]?)=some (aJ x):=DH (by erw[ga,h];rfl)
theorem ZS{α:Type}(p:List α)(a b:Nat):bh p (some (a:Int)) (some (b:Int))=(p.drop (min a p.length)).take (min b p.length-min a p.length):=by
 delta bh jh;simp only[tC];erw[if_neg (by exact λq=>nM _ (uL q)),if_neg (by exact λq=>nM _ (uL q)),j9,j9]
theorem Kx(x:List Cps)(m:Nat):AV.tup (bh (x.map AV.str) (some (m:Int)) (some ((m:Int)+1)))=aJ ((x.drop m).take 1):=by
 have:((m:Int)+1)=((m+1:Nat):Int):=by exact rfl
 erw[this,Dz,ZS];congr 2;by_cases h:m<x.length
 ·erw[i7 (by exact h),i7 (by exact bk (by assumption))];congr 1;exact wF _ _
 ·erw[Fn (by exact bk (wC h)),Fn (by exact (d8 h))];erw[jA (aq _),jA (by exact (d8 h))];simp
noncomputable abbrev za:MB:=eh (nth (eh (nth i332.body 0)) 0)
noncomputable abbrev ZT:MS->MC
 |.whl c _ _=>c
 |_=>.bad
theorem DS{H:List AO}{a b:AV}{r:Bool}(h:aeq H 8 a b=some r):eqF H a b=some r:=by unfold eqF;erw[h];rfl
section
variable{n kK i j:Nat}{known:List (List Cps)}{K:List AO}{x y:List Cps}{t:Vs}
theorem ZU{R:Option Fl->PrS}(hK:K[kK]?=some (.list (known.map aJ)))(hi:known[i]?=some x)(hj:known[j]?=some y)(QR:i<=100)(PY:j<=100)(hx:x.length<=20)(hy:y.length<=20) :
  ∀(f m:Nat),x.length<f+m->m<=x.length->R none (some (.loc kK)::some (.int j)::some (.int i)::some (.int ((m+(dn (x.drop m) (y.drop m)).length:Nat):Int))::t) K ->
   whW (WT (Sy n) (ZT (nth za 1))) (WB (Sy n) (eh (nth za 1))) R f (some (.loc kK)::some (.int j)::some (.int i)::some (.int (m:Int))::t) K:=λf=>by
 induction f with
 |zero=>
  intro m hf hm h;exact absurd hf (λq=>ri hm (az2 hf))
 |succ f ih=>
  intro m hf hm h;refine Dq ?_;have bi:inB (i:Int)=true:=bJ (by exact ngI) (by exact upI QR rfl);have bj:inB (j:Int)=true:=bJ (by exact ngI) (by exact upI PY rfl);have uj:inB ((m:Int)+1)=true:=bJ (by exact ngI) (by exact iL (le2 (aF (ah hm hx) (aq _)) rfl));exists d7 hK bi (oQ hi);exists lR uj;exists nu (okm hx (by decide)) (eB (bJ (by exact ngI) (by exact upI (ah hm hx) rfl))) (eB uj);exists d7 hK bj (oQ hj);exists lR uj;exists nu (okm hy (by decide)) (eB (bJ (by exact ngI) (by exact upI (ah hm hx) rfl))) (eB uj);erw[Kx,Kx];refine yO (DS (vS K 6 _ _)) ?_;refine ifb (λc1=>?_) (λc1=>?_)
  ·have c1:=of_decide_eq_true c1;exists cV jr;exists Dj (vS K 6 _ []);refine ifb (λc2=>?_) (λc2=>?_)
   ·obtain ⟨a,r,hr⟩:∃a r,y.drop m=a::r:=List.exists_cons_of_ne_nil λq=>of_decide_eq_false (nt c2) (by erw[q];rfl);obtain ⟨t,ht⟩:∃t,x.drop m=a::t:=by
     rw[hr] at c1;cases h:x.drop m with
     |nil=>rw[h] at c1;injection c1
     |cons b t=>rw[h] at c1;exact ⟨t,by cases (c1);rfl⟩
    have d1:x.drop (m+1)=t:=by erw[<- zN,ht];rfl
    have d2:y.drop (m+1)=r:=by erw[<- zN,hr];rfl
    exists yN uj;refine ih (m+1) (by exact lG hf (aq _)) (Nat.lt_of_not_le λq=>by rw[jA q] at ht;injection ht) ?_;erw[d1,d2];rw[ht,hr,show dn (a::t) (a::r)=a::dn t r from if_pos rfl,bC,<- Fw] at h;exact h
   ·have c2:=of_decide_eq_true (nf c2);rw[c2] at c1;have:x.drop m=[]:=by cases h:x.drop m with|nil=>rfl|cons a r=>rw[h] at c1;injection c1
    rw[this] at h;exact h
  ·have c1:=of_decide_eq_false c1;have:dn (x.drop m) (y.drop m)=[]:=by
    cases hx:x.drop m with
    |nil=>rfl
    |cons a t=>
     cases hy:y.drop m with
     |nil=>rfl
     |cons b r=>
      rw[hx,hy] at c1;exact if_neg (λq=>c1 (by erw[q];rfl))
   rw[this] at h;exact h
end
theorem DT:∀x y:List Cps,y.take (dn x y).length=dn x y
 |[],y=>by simp[dn]
 |_::_,[]=>by simp[dn]
 |a::x,b::y=>by
  by_cases h:a=b
  ·rw[show dn (a::x) (b::y)=a::dn x y from if_pos h];simp only[bC,zV];erw[DT x y,h]
  ·erw[show dn (a::x) (b::y)=[] from if_neg h];rfl
section
variable{n kK i j:Nat}{known:List (List Cps)}{K:List AO}{x y:List Cps}{t:Vs}{a2 a3 a4:Option AV}
theorem ZV{P:Fl->PrS}(hz:known.length<=100)(hk:∀x∈known,Fd x)(hK:K[kK]?=some (.list (known.map aJ)))(hi:known[i]?=some x)(hj:known[j]?=some y)
  (h:∀a3 a4 G,P .next (some (.loc kK)::some (.int j)::some (.int i)::a3::a4::t) (K++G)) :
  WB (Sy (n+2)) za (some (.loc kK)::some (.int j)::some (.int i)::a3::a4::t) K P:=by
 have hx:=hk x (lZ hi);have hy:=hk y (lZ hj);have uz:=(ei.mp hi).1;have pA:=(ei.mp hj).1;have mq:=hx.1;have ms:=hy.1;refine ZU hK hi hj (le2 (ah (bk uz) hz) rfl) (le2 (ah (bk pA) hz) rfl) mq ms 400 0 (lT mq rfl) (bW _) ?_;erw[nJ,nJ,i0];have l1:=(DI x y).1;have q1:=hx.plen;have q2:=hy.plen;have cp:=DM hx.gd;have cc:=ZD hy.gd;have hp:eg [47] (aA x)=true:=(s6 _).mpr rfl;have hq:eg [47] ([47,46]++aA y++[47,47])=true:=(s6 _).mpr rfl;have bi:inB (i:Int)=true:=bJ ngI (upI (ah (bk uz) hz) rfl);have bj:inB (j:Int)=true:=bJ ngI (upI (ah (bk pA) hz) rfl);have ly:([47,46]++aA y++[47,47]).length=(aA y).length+4:=by simp only[bx,bC,fu];exact congrArg (Fk · 2) (nF 2 _)
 exists d7 hK bi (oQ hi);exists mG hx;exists d7 hK bj (oQ hj);exists mG hy
 with_reducible refine oK (ce (by simp only[bx,bC,fu] at ly ⊢;exact le2 (aF (aF (aF (aq _) (aq _)) (aq _)) q2) rfl)) ?_
 with_reducible refine oK (ce (by simp only[bx,bC,fu] at ly ⊢;exact le2 (aF (aF (aF (aF (aq _) (aq _)) (aq _)) q2) (aF (aF (aq _) (aq _)) (aq _))) rfl)) ?_
 exists cV js;exists lR (bJ (by lia) (by lia));exists yM (by decide);exists sY;generalize [47,46]++aA y++[47,47]=py at *;generalize aA x=px at *;refine ifb (λc=>Ko aN (le2 q1 rfl) (le2 (ah (aE ly) (aF q2 (aq _))) rfl) hp hq λG=>?_) (λc=>d7 aN rfl rfl (d7 aN rfl rfl (cV js (Ko aN (le2 (ah (aE ly) (aF q2 (aq _))) rfl) (le2 q1 rfl) hq hp λG=>?_))))
 all_goals
  erw[cp,cc]
  try rw[DG y x]
  exists d7 (au (by first|exact au hK|exact au (au hK))) bj (oQ hj)
  exists nu (a:=none) (okm ms (by decide)) rfl (eB (bJ ngI (upI (ah l1 mq) rfl)));erw[oN,<- wK,(DT x y)];exists mG ((DT x y)▸hy.take _);exists jq;refine b8 (by erw[beq_self_eq_true];rfl) ?_;simp only[bD];exact h _ _ _
theorem ZW{R:Option Fl->PrS}{dy:List AV}(hz:known.length<=100)(hk:∀x∈known,Fd x)(hj:known[j]?=some y) :
  ∀(l:List Nat) (a2 a3 a4:Option AV) (K:List AO),(∀i∈l,i<known.length)->K[kK]?=some (.list (known.map aJ)) ->
   (∀a2 a3 a4 G,R none (some (.loc kK)::some (.int j)::a2::a3::a4::t) (K++G)) ->
   foW (WA (Sy (n+2)) (.nm 2)) (WB (Sy (n+2)) za) (.fix dy) R (l.map λ(i:Nat)=>AV.int (i:Int)) (some (.loc kK)::some (.int j)::a2::a3::a4::t) K:=λl=>by
 induction l with
 |nil=>exact λa2 a3 a4 K hl hK h=>eY trivial (c9 K▸h a2 a3 a4 [])
 |cons i l ih=>exact λa2 a3 a4 K hl hK h=>fE trivial (ZV hz hk hK (eE (hl i aG)) hj λa3 a4 G=>
   ih _ a3 a4 (K++G) (λi hi=>hl i (aL _ hi)) (au hK) λa2 a3 a4 G'=>bD ..▸h a2 a3 a4 (G++G'))
theorem ZX(m:Nat):(bn m).map (λj=>0+j)=bn m:=by erw[funext i0];exact EY ..
theorem mH{H:List AO}{C:Src->Prop}{m:Nat}(hm:m<=1000)(h:C (.fix ((bn m).map λ(j:Nat)=>AV.int (j:Int)))):jY (.rng 0 (m:Int) 1) H C:=by
 have:=vT (H:=H) (C:=C) (a:=0) (m:=m) (by decide) hm (by erw[ZX];exact h)
 rwa[i0] at this
theorem ZY{R:Option Fl->PrS}{dy:List AV}(hz:known.length<=100)(hk:∀x∈known,Fd x) :
  ∀(l:List Nat) (a1 a2 a3 a4:Option AV) (K:List AO),(∀i∈l,i<known.length)->K[kK]?=some (.list (known.map aJ)) ->
   (∀vs G,R none vs (K++G)) ->
   foW (WA (Sy (n+2)) (.nm 1)) (WB (Sy (n+2)) (eh (nth i332.body 0))) (.fix dy) R (l.map λ(i:Nat)=>AV.int (i:Int)) (some (.loc kK)::a1::a2::a3::a4::t) K:=λl=>by
 induction l with
 |nil=>exact λa1 a2 a3 a4 K hl hK h=>eY trivial (c9 K▸h _ [])
 |cons j l ih=>
  intro a1 a2 a3 a4 K hl hK h;have hj:=hl j aG;refine fE trivial (?_:WA (Sy (n+2)) (.nm 1) (.int (j:Int)) _ _ _);exists kQ (bJ ngI (upI (ah (bk hj) hz) rfl));refine mH (le2 (ah (bk hj) hz) rfl) ?_;refine ZW hz hk (eE hj) (bn j) _ _ _ K (λi hi=>Fx (dc.mp hi) hj) hK λa2 a3 a4 G=>?_;refine ih _ a2 a3 a4 (K++G) (λi hi=>hl i (aL _ hi)) (au hK) λvs G'=>?_;erw[bD];exact h _ _
end
theorem ZZ{n kK:Nat}{known:List (List Cps)}{K:List AO}{P:AV->List AO->Prop}(hz:known.length<=100)(hk:∀x∈known,Fd x)(hK:K[kK]?=some (.list (known.map aJ)))(h:∀G,P (.bool true) (K++G)):Φ (n+3) 332 [.loc kK] K P:=by
 refine dP rfl rfl (ds:=[("known",.loc kK)]) rfl (vs:=[some (.loc kK),none,none,none,none,none,none,none,none,none,none,none,none]) rfl ?_;exists lS hK (okm hz (by decide))
 with_reducible refine kQ (by rw[aK];exact bJ ngI (upI hz rfl)) ?_
 erw[aK];refine mH (le2 hz rfl) ?_;exact ZY hz hk (bn known.length) _ _ _ _ K (λi hi=>dc.mp hi) hK λvs G=>h G
theorem Ky(x:List Cps)(k:Nat):AV.tup (bh (x.map AV.str) none (some (k:Int)))=aJ (x.take k):=by erw[oN,<- wK]
theorem zb(j:Nat):(2:Int) ^ ((j:Int)).toNat=((2 ^ j:Nat):Int):=by erw[j9,Int.natCast_pow];rfl
theorem kY{α:Type}{l:List α}{j:Nat}{d:α}(h:j<l.length):l[j]?=some (l.getD j d):=by erw[eE h,iB,eE h];rfl
theorem po2{j:Nat}(h:j<=16):0<=(2:Int)/\(2:Int)<=10/\0<=(j:Int)/\(j:Int)<=16:=⟨by decide,by decide,dw _,tf.mpr h⟩
section
variable{n k1:Nat}{F:List (List Cps)}{K:List AO}{src:Src}{x:List Cps}{a0 a2 a3 a4 a5 a6:Option AV}{t:Vs}
theorem Z0(hF:F.length<=6)(hk:∀x∈F,Fd x)(hx:Fd x)(hK:K[k1]?=some (.list (F.map aJ)))(hs:src.ok K):∀(l:List Nat) (a8:Option AV) (Q:List AV->PrS),(∀j∈l,j<F.length) ->
   (∀vs,Q ((l.filter λj=>pre x (F.getD j [])).map λj=>AV.int ((2 ^ j:Nat):Int)) vs K) ->
   lcW (WCO (Sy n) (.so (.cmp (.slc (.idx (.var 1) (.var 8)) .no (.so (.call (.bi "len") (.cons (.var 7) .nil))) .no) .Eq (.var 7)))) (WE (Sy n) (.bin .Pow (.cst (.int 2)) (.var 8))) 8 src (l.map λ(j:Nat)=>AV.int (j:Int)) Q (a0::some (.loc k1)::a2::a3::a4::a5::a6::some (aJ x)::a8::t) K:=λl=>by
 induction l with
 |nil=>exact λa8 Q _ h=>gU hs (h _)
 |cons j l ih=>
  intro a8 Q hl h;refine fF hs ?_;have hj:=hl j aG;have mq:=hx.1;have ms:(F.getD j []).length<=20:=(show _/\_ from hk _ (lZ (kY (d:=[]) hj))).1;exists d7 hK (bJ ngI (upI (ah (bk hj) hF) rfl)) (oQ (kY (d:=[]) hj));exists nv (okm mq (by decide));erw[aK];exists nu (a:=none) (okm ms (by decide)) rfl (eB (bJ ngI (upI mq rfl)));erw[Ky];refine yO (DS (vS K 6 _ _)) ?_;refine ifb (λc=>?_) (λc=>?_)
  ·exists vL (po2 (le2 (ah (bk hj) hF) rfl));erw[zb];rw[iA (p:=λj=>pre x (F.getD j [])) c] at h;exact ih _ (lcD Q _) (λj hj=>hl j (aL _ hj)) h
  ·rw[gc (p:=λj=>pre x (F.getD j [])) (λq=>rz (c.symm.trans q))] at h;exact ih _ Q (λj hj=>hl j (aL _ hj)) h
theorem Z1:∀l:List Nat,jV (l.map λ(k:Nat)=>(k:Int))=((l.sum:Nat):Int):=λl=>by
 induction l with
 |nil=>exact  rfl
 |cons a l ih=>
  erw[bX,jV,ih];simp
theorem Z2(hF:F.length<=6)(hk:∀x∈F,Fd x) :
  ∀(l:List (List Cps)) (a7:Option AV) (K:List AO) (Q:List AV->PrS),(∀x∈l,x∈F)->K[k1]?=some (.list (F.map aJ)) ->
   (∀vs G,Q (l.map λx=>AV.int ((cP F x:Nat):Int)) vs (K++G)) ->
   lcW (WCO (Sy n) .no) (WE (Sy n) (.call (.bi "sum") (.cons (.lcp (.bin .Pow (.cst (.int 2)) (.var 8)) 8 (.call (.typ "range") (.cons (.call (.bi "len") (.cons (.var 1) .nil)) .nil)) (.so (.cmp (.slc (.idx (.var 1) (.var 8)) .no (.so (.call (.bi "len") (.cons (.var 7) .nil))) .no) .Eq (.var 7))) [8]) .nil))) 7 (.list k1 (F.map aJ)) (l.map aJ) Q (a0::some (.loc k1)::a2::a3::a4::a5::a6::a7::none::t) K:=λl=>by
 induction l with
 |nil=>exact λa7 K Q _ hK h=>gU hK (c9 K▸h _ [])
 |cons x l ih=>
  intro a7 K Q hl hK h;refine fF hK (cI rfl ?_);exists lS hK (okm hF (by decide));erw[aK];exists kQ (bJ ngI (upI hF rfl));refine mH (le2 hF rfl) ⟨rfl,Z0 (src:=.fix _) hF hk (hk x (hl x aG)) hK trivial (bn F.length) _ _ (λj hj=>dc.mp hj) λvs=>?_⟩;have e2:jU (((bn F.length).filter λj=>pre x (F.getD j [])).map λj=>AV.int ((2 ^ j:Nat):Int))=some (((bn F.length).filter λj=>pre x (F.getD j [])).map λj=>((2 ^ j:Nat):Int)):=by
   erw[show (λj=>AV.int ((2 ^ j:Nat):Int))=AV.int∘λ(j:Nat)=>((2 ^ j:Nat):Int) from rfl,<- ca,Dy]
  have e3:jV (((bn F.length).filter λj=>pre x (F.getD j [])).map λj=>((2 ^ j:Nat):Int))=((cP F x:Nat):Int):=by
   erw[show (λj=>((2 ^ j:Nat):Int))=(λ(k:Nat)=>(k:Int))∘λ(j:Nat)=>2 ^ j from rfl,<- ca,Z1];rfl
  exists JN aN e2;erw[e3];refine ih _ _ _ (λx hx=>hl x (aL _ hx)) (au hK) λvs G=>?_;erw[bD];exact h vs _
end
noncomputable abbrev aT(k:Nat):AV:=.int (k:Int)
theorem Z3(H:List AO)(k:Nat):∀l:List Nat,inL H (aT k) (l.map aT)=some (decide (k∈l)):=λl=>by
 induction l with
 |nil=>
  erw[decide_eq_false eQ];rfl
 |cons b l ih=>
  show (inL H (aT k) (l.map aT)).map ((((b:Nat):Int)==((k:Nat):Int))||·)=_
  erw[ih];refine congrArg some ?_;rw[i4,tu,decide_eq_true_eq,decide_eq_true_eq,bu,beq_iff_eq];constructor
  ·rintro (h|h)
   ·exact .inl (Mm h.symm)
   ·exact .inr h
  ·rintro (h|h)
   ·exact .inl (iE h.symm)
   ·exact .inr h
theorem Z4(m i:Nat):(j7 (j6 (m:Int) ((2 ^ i:Nat):Int)) 2==1)=m.testBit i:=by
 erw[Nq _ (dw _),Int.fmod_eq_emod_of_nonneg _ (dw _),Nat.testBit_eq_decide_div_mod_eq,<- Int.natCast_ediv];erw[i4,beq_iff_eq,decide_eq_true_eq];lia
theorem zc{l:List Nat}{i:Nat}(h:i<l.length):((cZ (l.map aT).length (i:Int)).bind λj=>(l.map aT)[j]?)=some (aT (l.getD i 0)):=DH (by
 erw[ga,eE h,iB,eE h];rfl)
theorem v5{n:Nat}(h:n<=6):2 ^ n<=64:=Ft (show 0<2 by exact lT (aq _) rfl) h
section
variable{n k2 k3 k5 m:Nat}{F:List (List Cps)}{gs af:List Nat}{K:List AO}{src:Src}{a0 a1 a2 a3 a4 a5 a6:Option AV}{t:Vs}
theorem Z5(hF:F.length<=6)(hm:gs.length=m)(uc:m<64)(h2:K[k2]?=some (.list ((F.map (cP F)).map aT)))(h3:K[k3]?=some (.list (gs.map aT)))(hs:src.ok K) :
  ∀(l:List Nat) (a7:Option AV) (Q:List AV->PrS),(∀j∈l,j<F.length/\(∀x,F[j]?=some x->pre x x=true)) ->
   (∀vs,Q (((l.filter λi=>m.testBit i).map λi=>gs.getD (m-(m &&& cP F (F.getD i []))) 0).map aT) vs K) ->
   lcW (WCO (Sy n) (.so (.cmp (.bin .Mod (.bin .FloorDiv (.var 4) (.bin .Pow (.cst (.int 2)) (.var 7))) (.cst (.int 2))) .Eq (.cst (.int 1))))) (WE (Sy n) (.idx (.var 3) (.bin .Sub (.var 4) (.bin .BitAnd (.var 4) (.idx (.var 2) (.var 7)))))) 7 src (l.map aT) Q (a0::a1::some (.loc k2)::some (.loc k3)::some (aT m)::a5::a6::a7::t) K:=λl=>by
 induction l with
 |nil=>exact λa7 Q _ h=>gU hs (h _)
 |cons i l ih=>
  intro a7 Q hl h;refine fF hs ?_;have hi:=(hl i aG).1;have p2:0<2 ^ i:=rB (by simp);have p3:2 ^ i<=64:=v5 (le2 (ah (bk hi) hF) rfl);exists vL (po2 (le2 (ah (bk hi) hF) rfl));erw[zb];exists XX ⟨by lia,by exact upI p3 rfl⟩;exists yM (by decide);exists sY;erw[Z4];refine ifb (λht=>?_) (λht=>?_)
  ·have sf:=kY (d:=[]) hi;have Bn:((F.map (cP F)).getD i 0)=cP F (F.getD i []):=by erw[iB,ga,sf];rfl
   have ix:=zc (l:=F.map (cP F)) (i:=i) (by erw[aK];exact hi);rw[iA (p:=λi=>m.testBit i) ht,bX,bX] at h;rw[Bn] at ix;have Aff:cP F (F.getD i [])<64:=dT (s7 _ _) (v5 hF);have pw:(cP F (F.getD i [])).testBit i=true:=by unfold cP;erw[oP,decide_eq_true hi,((hl i aG).2) _ sf];rfl
   generalize cP F (F.getD i [])=b at *;have aM:=sub_lt m b i ht pw;have jS:m &&& b<=m:=NH;have es:(m:Int)-((m &&& b:Nat):Int)=((m-(m &&& b):Nat):Int):=jy (rg jS);exists d7 h2 (bJ ngI (upI (ah (bk hi) hF) rfl)) ix;refine XY ?_;erw[ZQ]
   with_reducible refine yL (by erw[es];exact (bJ ngI (upI (ah (gb _ _) (bk uc)) rfl))) ?_
   erw[es];exists d7 h3 (bJ ngI (upI (ah (gb _ _) (bk uc)) rfl)) (zc (by lia));exact ih _ (lcD Q _) (λj hj=>hl j (aL _ hj)) h
  ·rw[gc (p:=λi=>m.testBit i) (λq=>rz (ht.symm.trans q))] at h;exact ih _ Q (λj hj=>hl j (aL _ hj)) h
theorem Z6(h5:K[k5]?=some (.list (af.map aT)))(hs:src.ok K) :
  ∀(l:List Nat) (a7:Option AV) (Q:List AV->PrS),(∀vs,Q ((l.filter λk=>decide (k∉af)).map aT) vs K) ->
   lcW (WCO (Sy n) (.so (.cmp (.var 7) .NotIn (.var 5)))) (WE (Sy n) (.var 7)) 7 src (l.map aT) Q (a0::a1::a2::a3::a4::some (.loc k5)::a6::a7::t) K:=λl=>by
 induction l with
 |nil=>exact λa7 Q h=>gU hs (h _)
 |cons k l ih=>
  intro a7 Q h;refine fF hs ?_;exists vN h5 (Z3 K k af);refine ifb (λc=>?_) (λc=>?_)
  ·rw[iA (p:=λk=>decide (k∉af)) (by simpa using c)] at h
   exact ih _ (lcD Q _) h
  ·rw[gc (p:=λk=>decide (k∉af)) (by simpa using c)] at h
   exact ih _ Q h
end
theorem Z7(bt:Nat->Nat->Bool):∀k,(∀j,j<=k->bt j 0=false)->argBest bt k=0:=λk=>by
 induction k with
 |zero=>exact λ_=>rfl
 |succ k ih=>
  intro h;show (if bt (k+1) (argBest bt k)=true then k+1 else argBest bt k)=0
  erw[(ih λj hj=>h j (gE hj)),h (k+1) (aq _)];rfl
theorem Kz(l:List Nat):jU (l.map aT)=some (l.map λ(k:Nat)=>(k:Int)):=by
 erw[show (aT:Nat->AV)=AV.int∘λ(k:Nat)=>(k:Int) from rfl,<- ca,Dy]
theorem Z8(H:List AO)(a:Nat)(l:List Nat)(h:∀b∈l,a<=b):sv H ((a::l).map aT)=some (aT a):=by
 show ql _ _ H (aT a::l.map aT)=_;rw[Ki (Kz (a::l))];rw[Z7]
 ·rfl
 ·intro j hj;induction j using jv with
  |zero=>simp
  |succ j=>
   rw[aK] at hj;have hj:j<l.length:=hj;have:=h _ (wL hj);simp only[bX,List.getD_cons_succ,List.getD_cons_zero,decide_eq_false_iff_not];erw[iB,ga,eE hj];show ¬ ((l[j]:Int)<(a:Int));exact λq=>ri this (uL q)
theorem Z9(H:List AO)(l:List Nat):sv H (((bn (l.length+1)).filter λk=>decide (k∉l)).map aT)=some (aT (iY l)):=by
 have bB:=Kv l;unfold iY;have hp:((bn (l.length+1)).filter λk=>decide (k∉l)).Pairwise (·<·):=Ae1 _ NJ;generalize (bn (l.length+1)).filter (λk=>decide (k∉l))=r at *;induction r using bI with
 |nil=>exact absurd rfl bB
 |cons a r=>exact Z8 H a r λb hb=>bk ((EA.mp hp).1 b hb)
noncomputable abbrev KA:MB:=eh (nth i325.body 3)
theorem qJ(x:List Cps):pre x x=true:=by unfold pre;simp
theorem z2o(l:List Nat):iY l<=l.length:=(y9 l).2.2
theorem KB(F:List (List Cps))(gs:List Nat)(m:Nat):(nz F gs m).length<=F.length:=by
 delta nz y8;erw[aK];have:=lj (λi=>m.testBit i) (bn F.length);rw[iy] at this;exact this
theorem z8o(F:List (List Cps)):∀m,∀g∈dq F m,g<=F.length:=λm=>by
 induction m with
 |zero=>
  intro g h;cases h
 |succ m ih=>
  intro g h;rw[dq] at h;refine cT (cU.mp h) (λh=>?_) λh=>?_
  ·exact ih g h
  ·erw[bM.mp h];exact ah (z2o _) (KB _ _ _)
section
variable{n k1 k2 k3:Nat}{F:List (List Cps)}{K:List AO}{a0 a4 a5 a6:Option AV}{t:Vs}
theorem zsc{gs:List Nat}{m:Nat}{P:Fl->PrS}(hF:F.length<=6)(hm:gs.length=m)(uc:m<64)(h1:K[k1]?=some (.list (F.map aJ)))(h2:K[k2]?=some (.list ((F.map (cP F)).map aT)))(h3:K[k3]?=some (.list (gs.map aT)))
  (h:∀a5 K',K'[k3]?=some (.list ((gs++[iY (nz F gs m)]).map aT))->Fr [k3] K K'->P .next (a0::some (.loc k1)::some (.loc k2)::some (.loc k3)::some (aT m)::a5::a6::none::t) K') :
  WB (Sy n) KA (a0::some (.loc k1)::some (.loc k2)::some (.loc k3)::some (aT m)::a5::a6::none::t) K P:=by
 exists lS h1 (okm hF (by decide));erw[aK];exists kQ (bJ ngI (upI hF rfl));refine mH (le2 hF rfl) ⟨rfl,Z5 (src:=.fix _) hF hm uc h2 h3 trivial (bn F.length) _ _ (λj hj=>⟨dc.mp hj,λx _=>qJ x⟩) λva=>?_⟩;have nV:=KB F gs m;have eo:(((bn F.length).filter λi=>m.testBit i).map λi=>gs.getD (m-(m &&& cP F (F.getD i []))) 0)=nz F gs m:=rfl;erw[eo];generalize nz F gs m=af at *;have ea:(((af.map aT).length:Nat):Int)+1=((af.length+1:Nat):Int):=by erw[aK];exact rfl
 exists ir (au h3) rfl;exists lS aN (okm (k:=6) (le2 (ah nV hF) rfl) (by decide))
 with_reducible refine lR (by erw[ea];exact (bJ ngI (upI (aF (ah nV hF) (aq _)) rfl))) ?_
 erw[ea];exists kQ (bJ ngI (upI (aF (ah nV hF) (aq _)) rfl));refine mH (le2 (aF (ah nV hF) (aq _)) rfl) ⟨rfl,Z6 (src:=.fix _) aN trivial (bn (af.length+1)) _ _ λvb=>?_⟩;exists JP aN (Z9 _ af);exists j0 (au (au h3)) (okm (k:=64) (le2 (ah (aE hm) (bk uc)) rfl) (by decide));refine h _ _ ?_ ?_
 ·erw[cf];exact eP (au (au h3))
 ·erw[bD];exact (Fr.app _ _ _).trans (.set _ aG)
theorem zrt{R:Option Fl->PrS}{dy:List AV}(hF:F.length<=6)(Qy:k1≠k3)(Qr:k2≠k3) :
  ∀(r m:Nat) (a4 a5:Option AV) (K:List AO),m+r<=64->K[k1]?=some (.list (F.map aJ))->K[k2]?=some (.list ((F.map (cP F)).map aT))->K[k3]?=some (.list ((dq F m).map aT)) ->
  (∀a4 a5 K',K'[k3]?=some (.list ((dq F (m+r)).map aT))->Fr [k3] K K'->R none (a0::some (.loc k1)::some (.loc k2)::some (.loc k3)::a4::a5::a6::none::t) K') ->
  foW (WA (Sy n) (.nm 4)) (WB (Sy n) KA) (.fix dy) R ((pg m r).map aT) (a0::some (.loc k1)::some (.loc k2)::some (.loc k3)::a4::a5::a6::none::t) K:=λr=>by
 induction r with
 |zero=>exact λm a4 a5 K hm h1 h2 h3 h=>eY trivial (h _ _ K h3 (.refl _ _))
 |succ r ih=>exact λm a4 a5 K hm h1 h2 h3 h=>fE trivial (zsc hF (v0 F m) (ah (cr (bK _ _)) hm) h1 h2 h3 λa5 K' a3 a4=>
   ih (m+1) _ a5 K' (ac1 hm) (a4 _ _ (λq=>Qy (bM.mp q)) h1) (a4 _ _ (λq=>Qr (bM.mp q)) h2) a3 λRu a5 fC b3 b4=>
    h Ru a5 fC (by erw[<- Fw];exact b3) (a4.trans b4))
end
noncomputable def lV(F:List (List Cps))(gs:List Nat)(aa:List (Cps × AV))(i:Nat):List (Cps × AV):=b7 (aA (F.getD i [])) (aT (gs.getD (cP F (F.getD i [])-2 ^ i) 0)) aa
theorem v6(s:Cps)(d:AV):∀l:List (Cps × AV),(b7 s d l).length<=l.length+1
 |[]=>by simp[b7]
 |(y,e)::r=>by
  have:=v6 s d r;unfold b7;split<;>simp<;>assumption
theorem zr3{t b c:Nat}(h:t<=b)(hb:b<c)(hc:c<=64):b-t<c/\(b:Int)-(t:Int)=((b-t:Nat):Int)/\inB ((b-t:Nat):Int)=true:=⟨by exact ah (cr (gb _ _)) hb,by exact jy (rg h),bJ ngI (upI (ah (gb _ _) (ah (bk hb) hc)) rfl)⟩
theorem z4h{n k1 k2 k3:Nat}{F:List (List Cps)}{K:List AO}{src:Src}{a0 a4 a5 a6:Option AV}{t:Vs}{gs:List Nat}{Q:List (Cps × AV)->PrS}(hF:F.length<=6)(hk:∀x∈F,Fd x)(hg:gs.length=2 ^ F.length)(h1:K[k1]?=some (.list (F.map aJ)))(h2:K[k2]?=some (.list ((F.map (cP F)).map aT)))(h3:K[k3]?=some (.list (gs.map aT)))(hs:src.ok K) :
  ∀(l:List Nat) (a7:Option AV) (aa:List (Cps × AV)),(∀i∈l,i<F.length)->aa.length+l.length<=900->(∀vs,Q (l.foldl (lV F gs) aa) vs K) ->
   dcW (WE (Sy (n+1)) (.call (.fn 296) (.cons (.idx (.var 1) (.var 7)) .nil))) (WE (Sy (n+1)) (.idx (.var 3) (.bin .Sub (.idx (.var 2) (.var 7)) (.bin .Pow (.cst (.int 2)) (.var 7))))) 7 src Q (l.map aT) aa (a0::some (.loc k1)::some (.loc k2)::some (.loc k3)::a4::a5::a6::a7::t) K:=λl=>by
 induction l with
 |nil=>exact λa7 aa _ _ h=>JV hs (h _)
 |cons i l ih=>
  intro a7 aa hl ha h;refine JW hs ?_;have hi:=hl i aG;have sf:=kY (d:=[]) hi;have Bn:((F.map (cP F)).getD i 0)=cP F (F.getD i []):=by erw[iB,ga,sf];rfl
  have ix:=zc (l:=F.map (cP F)) (i:=i) (by erw[aK];exact hi);rw[Bn] at ix;have gI:2 ^ i<=cP F (F.getD i []):=d8 λaM=>by
   have pw:(cP F (F.getD i [])).testBit i=true:=by unfold cP;erw[oP,decide_eq_true hi,qJ];rfl
   rw[Au aM] at pw;injection pw
  have f:=zr3 gI (s7 _ _) (v5 hF);have hf:∀vs,Q (l.foldl (lV F gs) (lV F gs aa i)) vs K:=h;unfold lV at hf;rw[bC] at ha;have gJ:=v6 (aA (F.getD i [])) (aT (gs.getD (cP F (F.getD i [])-2 ^ i) 0)) aa;exists d7 h1 (bJ ngI (upI (ah (bk hi) hF) rfl)) (oQ sf);exists mG (hk _ (lZ sf));exists d7 h2 (bJ ngI (upI (ah (bk hi) hF) rfl)) ix;exists vL (po2 (le2 (ah (bk hi) hF) rfl));erw[zb]
  with_reducible refine yL (by erw[f.2.1];exact f.2.2) ?_
  erw[f.2.1]
  with_reducible refine d7 h3 f.2.2 (zc (l:=gs) (i:=cP F (F.getD i [])-2 ^ i) (by rw[hg];exact f.1)) ?_
  refine ⟨by exact le2 (dR ha) rfl,ih _ _ (λj hj=>hl j (aL _ hj)) (lF ha gJ) hf⟩
noncomputable def ze(F:List (List Cps)):List (Cps × AV):=b7 [47] (aT ((dq F (2 ^ F.length)).getD (2 ^ F.length-1) 0)) ((bn F.length).foldl (lV F (dq F (2 ^ F.length))) [])
theorem zzl(F:List (List Cps))(gs:List Nat):∀(l:List Nat) (aa:List (Cps × AV)),(l.foldl (lV F gs) aa).length<=aa.length+l.length:=λl=>by
 induction l with
 |nil=>
  intro aa;simp
 |cons i l ih=>
  intro aa;have:=ih (lV F gs aa i);have h2:(lV F gs aa i).length<=aa.length+1:=v6 _ _ _;simp only[cB,bC];exact lG this h2
theorem zyb{α:Type}(x:α)(l:List α):bh (x::l) (some 1) none=l:=by
 delta bh jh;simp only[tC,Ap];erw[if_neg (by exact λq=>wB (uL q) (bL rfl))];have:min (zX 1) (x::l).length=1:=by simp
 erw[this];simp
theorem DU{X:List Nat}{K G K':List AO}(h:Fr X (K++G) K')(hx:∀m∈X,K.length<=m):∃G',K'=K++G':=by
 refine ⟨K'.drop K.length,List.ext_getElem? λi=>?_⟩;by_cases hi:i<K.length
 ·erw[lf hi,eE hi];exact h i K[i] (λq=>absurd (hx i q) (by exact λq=>ri q hi)) (au (eE hi))
 ·erw[wJ (by exact (d8 hi)),wt,tF (by exact (d8 hi))]
theorem z62{n kK:Nat}{F:List (List Cps)}{K:List AO}{P:AV->List AO->Prop}(hF:F.length<=6)(hk:∀x∈F,Fd x)(hK:K[kK]?=some (.list (([]::F).map aJ)))(h:∀kE v G,(K++G)[kE]?=some (.dict (ze F) v)->K.length<=kE->P (.loc kE) (K++G)):Φ (n+2) 325 [.loc kK] K P:=by
 refine dP rfl rfl (ds:=[("known",.loc kK)]) rfl (vs:=[some (.loc kK),none,none,none,none,none,none,none,none,none,none,none,none,none,none]) rfl ?_;have BJ:=v5 hF
 with_reducible refine sZ hK (okm (k:=7) (by erw[bC];exact le2 (aF hF (aq _)) rfl) (by decide)) (eB rfl) rfl ?_
 have ec:bh ((([]:List Cps)::F).map aJ) (some 1) none=F.map aJ:=by erw[bX,zyb]
 erw[ec];refine gT aN (okm hF (by decide)) ⟨rfl,Z2 hF hk F _ _ _ (λx hx=>hx) aN λ_ G1=>?_⟩;have eb:(F.map λx=>AV.int ((cP F x:Nat):Int))=(F.map (cP F)).map aT:=by erw[ca];rfl
 erw[eb];refine cV jr ?_;exists lS (au (au (au aN))) (okm hF (by decide));erw[aK];exists vL (po2 (by exact le2 hF rfl));erw[zb];exists kQ (bJ (bH (by decide) (dw _)) (by exact upI BJ rfl));refine mH (by exact le2 BJ rfl) ?_;erw[Fv];refine zrt (n:=n+1) hF (by simp) (by simp) (2 ^ F.length) 0 _ _ _ (by exact le2 (aF (aq _) BJ) rfl) (au (au (au aN))) (au aN) aN λa4 a5 K4 d2 d3=>?_;rw[i0] at d2;have gl:=v0 F (2 ^ F.length);have q1:=d3 _ _ (by simp) (au (au (au aN)));exists lS q1 (okm hF (by decide));erw[aK];exists kQ (bJ (by exact ngI) (by exact upI hF rfl));refine mH (by exact le2 hF rfl) ⟨rfl,z4h (src:=.fix _) hF hk gl q1 (d3 _ _ (by simp) (au aN)) d2 trivial (bn F.length) _ [] (λi hi=>dc.mp hi) (by simp;exact le2 hF rfl) λve=>?_⟩;have gJ:=zzl F (dq F (2 ^ F.length)) (bn F.length) [];rw[iy,fu] at gJ;have xJ:0<(dq F (2 ^ F.length)).length:=by erw[gl];exact rB (by simp)
 have u7:((cZ ((dq F (2 ^ F.length)).map aT).length (-1)).bind λj=>((dq F (2 ^ F.length)).map aT)[j]?)=some (aT ((dq F (2 ^ F.length)).getD (2 ^ F.length-1) 0)):=by
  have:cZ ((dq F (2 ^ F.length)).map aT).length (-1)=some ((dq F (2 ^ F.length)).length-1):=by
   unfold cZ;erw[aK,if_neg (by exact λq=>wB (uL q) (bL rfl)),if_pos (by rw[m1 xJ];exact dw _),m1 xJ];rfl
  erw[this];show ((dq F (2 ^ F.length)).map aT)[(dq F (2 ^ F.length)).length-1]?=_;erw[gl,ga,kY (d:=0) (by rw[gl] at xJ ⊢;exact E2 (gF xJ))];rfl
 refine ⟨rfl,rfl,?_⟩;exists d7 (au d2) rfl u7;exists yR aN (by exact le2 (ah gJ (aF (aq _) hF)) rfl);have Qq:=(ei.mp q1).1;clear Qq q1 d2;refine e11 (DU (K:=K) (by rw[bD,bD,bD] at d3;exact d3) (by simp)) λG aC=>?_;subst aC;rw[show ∀(o o':AO),(K++G++[o]).set (K++G).length o'=K++(G++[o']) from λo o'=>by erw[Du,bD]];exact h _ _ _ (by erw[<- bD];exact aN) (by erw[bx];exact bK _ _)
noncomputable def qK(l:List Nat):Nat:=l.foldl max 0
theorem zrx(l:List Nat)(a:Nat):qK (l++[a])=max (qK l) a:=by unfold qK;erw[wM];rfl
theorem zw0(xs:List Int)(l:List Nat)(hx:xs=l.map λ(k:Nat)=>(k:Int)):∀k,k<l.length->argBest (λi j=>decide (xs.getD j 0<xs.getD i 0)) k<=k/\l.getD (argBest (λi j=>decide (xs.getD j 0<xs.getD i 0)) k) 0=qK (l.take (k+1)):=λk=>by
 induction k with
 |zero=>
  intro h;refine ⟨aq _,?_⟩;show l.getD 0 0=_;induction l using bI with
  |nil=>simp at h
  |cons a l=>simp[qK]
 |succ k ih=>
  intro h;refine e02 (ih (bk h)) λh1 h2=>?_;have e:argBest (λi j=>decide (xs.getD j 0<xs.getD i 0)) (k+1)=if decide (xs.getD (argBest (λi j=>decide (xs.getD j 0<xs.getD i 0)) k) 0<xs.getD (k+1) 0)=true then k+1 else argBest (λi j=>decide (xs.getD j 0<xs.getD i 0)) k:=rfl
  have hg:∀i,xs.getD i 0=((l.getD i 0:Nat):Int):=λi=>by
   erw[hx,iB,iB,ga];cases l[i]?<;>rfl
  have ht:l.take (k+1+1)=l.take (k+1)++[l.getD (k+1) 0]:=by
   erw[List.take_succ,kY (d:=0) h];rfl
  erw[e,ht,zrx,hg,hg,h2];split
  ·rename_i hc;simp only[decide_eq_true_eq] at hc;refine ⟨aq _,?_⟩;exact (NK (bk (uT hc))).symm
  ·rename_i hc;simp only[decide_eq_true_eq] at hc;refine ⟨by exact gE h1,?_⟩;erw[h2];exact (NL (uL (iN hc))).symm
theorem z7c(H:List AO)(l:List Nat)(h:l≠[]):vm H (l.map aT)=some (aT (qK l)):=by
 induction l using bI with
 |nil=>exact absurd rfl h
 |cons a r=>
  refine e02 (zw0 ((a::r).map λ(k:Nat)=>(k:Int)) (a::r) rfl r.length (by simp)) λh1 h2=>?_;show ql _ _ H (aT a::r.map aT)=_;rw[Ki (Kz (a::r))];erw[aK];generalize argBest _ _=b at *;show ((a::r).map aT)[b]?=_;erw[ga,kY (d:=0) (by simp;exact cr h1),h2];erw[l9 (by simp)];rfl
theorem DV(s:Cps)(d:AV)(t:Cps):∀l:List (Cps × AV),(b7 s d l).lookup t=if t=s then some d else l.lookup t
 |[]=>by
  delta b7;erw[dW];by_cases h:t=s
  ·erw[h];simp
  ·erw[if_neg h,show (t==s)=false by simpa using h]
 |(y,e)::r=>by
  unfold b7;split
  ·rename_i h;erw[dW,dW];by_cases ht:t=s
   ·have:(t==y)=true:=by erw[ht,h];simp
    erw[this,if_pos ht]
   ·have:(t==y)=false:=by erw[h];simpa using ht
    erw[this,if_neg ht]
  ·rename_i h;erw[dW,dW];cases hb:t==y with
   |true=>
    have:t≠s:=λq=>h (by erw[<- q];exact (eq_of_beq hb).symm);erw[if_neg this]
   |false=>exact (DV s d t r)
noncomputable def yej{α:Type}(f:α->Cps)(g:α->AV)(l:List α):List (Cps × AV):=l.foldl (λaa x=>b7 (f x) (g x) aa) []
theorem KC{α:Type}(f:α->Cps)(g:α->AV):∀(l:List α) (aa:List (Cps × AV)) (x:α),(∀y∈l,f y=f x->g y=g x)->(x∈l\/aa.lookup (f x)=some (g x))->(l.foldl (λaa x=>b7 (f x) (g x) aa) aa).lookup (f x)=some (g x):=λl=>by
 induction l with
 |nil=>
  intro aa x _ h;refine cT (h) (λh=>?_) λh=>?_;cases h;exact h
 |cons a l ih=>
  intro aa x hi h;refine ih _ x (λy hy=>hi y (aL _ hy)) ?_;by_cases hx:x∈l
  ·exact .inl hx
  ·right;rw[DV];by_cases he:f x=f a
   ·erw[if_pos he,hi a aG he.symm]
   ·rw[if_neg he];refine cT (h) (λh=>?_) λh=>?_
    ·rcases bu.mp h with h|h
     ·exact absurd (by erw[h]) he
     ·exact absurd h hx
    ·exact h
theorem z9f{α:Type}(f:α->Cps)(g:α->AV):∀(l:List α) (aa:List (Cps × AV)),(l.foldl (λaa x=>b7 (f x) (g x) aa) aa).length<=aa.length+l.length:=λl=>by
 induction l with
 |nil=>
  intro aa;simp
 |cons a l ih=>
  intro aa;have:=ih (b7 (f a) (g a) aa);have h2:=v6 (f a) (g a) aa;simp only[cB,bC];exact lG this h2
noncomputable def aZ(known:List (List Cps))(x:List Cps):Nat:=qK ((known.filter λy=>pre x y).map λy=>y.length-x.length)
section
variable{n kK:Nat}{known:List (List Cps)}{x:List Cps}{a1 a2 a3 a4:Option AV}{t:Vs}
theorem z2u{K:List AO}(hk:∀x∈known,Fd x)(hx:Fd x)(hK:K[kK]?=some (.list (known.map aJ))) :
  ∀(l:List (List Cps)) (a6:Option AV) (Q:List AV->PrS),(∀y∈l,y∈known)->(∀vs,Q (((l.filter λy=>pre x y).map λy=>y.length-x.length).map aT) vs K) ->
   lcW (WCO (Sy n) (.so (.cmp (.slc (.var 6) .no (.so (.call (.bi "len") (.cons (.var 5) .nil))) .no) .Eq (.var 5)))) (WE (Sy n) (.bin .Sub (.call (.bi "len") (.cons (.var 6) .nil)) (.call (.bi "len") (.cons (.var 5) .nil)))) 6 (.list kK (known.map aJ)) (l.map aJ) Q (some (.loc kK)::a1::a2::a3::a4::some (aJ x)::a6::t) K:=λl=>by
 induction l with
 |nil=>exact λa6 Q _ h=>gU hK (h _)
 |cons y l ih=>
  intro a6 Q hl h;refine fF hK ?_;have ms:=(hk y (hl y aG)).1;have mq:=hx.1;exists nv (okm mq (by decide));erw[aK];exists nu (a:=none) (okm ms (by decide)) rfl (eB (bJ ngI (upI mq rfl)));erw[Ky];refine yO (DS (vS K 6 _ _)) ?_;refine ifb (λc=>?_) (λc=>?_)
  ·have jS:x.length<=y.length:=by
    have:=of_decide_eq_true c;erw[<- this,i5];exact rf _ _
   have es:(y.length:Int)-(x.length:Int)=((y.length-x.length:Nat):Int):=jy (rg jS);exists nv (okm ms (by decide));exists nv (okm mq (by decide));erw[aK,aK]
   with_reducible refine yL (by erw[es];exact bJ ngI (upI (ah (gb _ _) ms) rfl)) ?_
   erw[es];rw[iA (p:=λy=>pre x y) c] at h;exact ih _ (lcD Q _) (λj hj=>hl j (aL _ hj)) h
  ·rw[gc (p:=λy=>pre x y) (λq=>rz (c.symm.trans q))] at h;exact ih _ Q (λj hj=>hl j (aL _ hj)) h
end
theorem zy6{n kK:Nat}{known:List (List Cps)}{a1 a2 a3 a4:Option AV}{t:Vs}{Q:List (Cps × AV)->PrS}(hz:known.length<=100)(hk:∀x∈known,Fd x) :
  ∀(l:List (List Cps)) (a5:Option AV) (aa:List (Cps × AV)) (K:List AO),(∀y∈l,y∈known)->aa.length+l.length<=900->K[kK]?=some (.list (known.map aJ)) ->
   (∀vs G,Q (l.foldl (λaa x=>b7 (aA x) (aT (aZ known x)) aa) aa) vs (K++G)) ->
   dcW (WE (Sy (n+1)) (.call (.fn 296) (.cons (.var 5) .nil))) (WE (Sy (n+1)) (.call (.bi "max") (.cons (.lcp (.bin .Sub (.call (.bi "len") (.cons (.var 6) .nil)) (.call (.bi "len") (.cons (.var 5) .nil))) 6 (.var 0) (.so (.cmp (.slc (.var 6) .no (.so (.call (.bi "len") (.cons (.var 5) .nil))) .no) .Eq (.var 5))) [6]) .nil))) 5 (.list kK (known.map aJ)) Q (l.map aJ) aa (some (.loc kK)::a1::a2::a3::a4::a5::none::t) K:=λl=>by
 induction l with
 |nil=>exact λa5 aa K _ _ hK h=>JV hK (c9 K▸h _ [])
 |cons x l ih=>
  intro a5 aa K hl ha hK h;refine JW hK ?_;have hx:=hk x (hl x aG);rw[bC] at ha;exists mG hx;refine gT hK (okm hz (by decide)) ⟨rfl,z2u hk hx hK known _ _ (λy hy=>hy) λvs=>?_⟩;have bB:((known.filter λy=>pre x y).map λy=>y.length-x.length)≠[]:=λq=>by
   have:x∈known.filter λy=>pre x y:=d9.mpr ⟨(hl x aG),qJ x⟩;rw[Fy] at q;rw[q] at this;cases this
  exists JO aN (z7c _ _ bB);refine ⟨by exact le2 (dR ha) rfl,ih _ _ _ (λx hx=>hl x (aL _ hx)) (ah (mL (v6 (aA x) (aT (aZ known x)) aa) _) (ac1 ha)) (au hK) λva G=>?_⟩;erw[bD];exact h va _
def v7(known:List (List Cps))(es:List (Cps × AV)):Prop:=∀x∈known,es.lookup (aA x)=some (aT (aZ known x))
noncomputable def iZ(known:List (List Cps))(h:Nat)(gj:List (List Cps)):List (List Cps):=
 ((bn (gj.map dG).length).filter λi=>decide (aZ known ((gj.map dG).getD i [])=h)&&decide ((gj.map dG).getD i []∉(gj.map dG).drop (i+1))).map λi=>(gj.map dG).getD i []
theorem eqN(a b:Nat):((a:Int)==(b:Int))=decide (a=b):=by
 rw[i4,beq_iff_eq,decide_eq_true_eq];exact Int.ofNat_inj
section
variable{n kK k1:Nat}{known:List (List Cps)}{es:List (Cps × AV)}{v:Option Nat}{a0 a2 a3 a4:Option AV}{t:Vs}
theorem z7t{K:List AO}(hk:∀x∈known,Fd x)(hd:v7 known es)(hK:K[kK]?=some (.list (known.map aJ)))(h1:K[k1]?=some (.dict es v)) :
  ∀(l:List (List Cps)) (a5:Option AV) (Q:List AV->PrS),(∀y∈l,y∈known)->(∀vs,Q ((l.filter λy=>decide (aZ known y=0)).map aJ) vs K) ->
   lcW (WCO (Sy (n+1)) (.so (.cmp (.idx (.var 1) (.call (.fn 296) (.cons (.var 5) .nil))) .Eq (.cst (.int 0))))) (WE (Sy (n+1)) (.var 5)) 5 (.list kK (known.map aJ)) (l.map aJ) Q (a0::some (.loc k1)::a2::a3::a4::a5::t) K:=λl=>by
 induction l with
 |nil=>exact λa5 Q zz h=>gU hK (h _)
 |cons y l ih=>
  intro a5 Q hl h;refine fF hK ?_;have FY:=hl y aG;have g9:=λj hj=>hl j (aL _ hj);exists mG (hk y FY);refine qC h1 (hd y FY) ?_;exists sY;refine ifb (λc=>?_) (λc=>?_)
  ·rw[iA (p:=λy=>decide (aZ known y=0)) ((eqN _ 0).symm.trans c)] at h;exact ih _ (lcD Q _) g9 h
  ·rw[gc (p:=λy=>decide (aZ known y=0)) (λq=>rz (c.symm.trans ((eqN _ 0).trans q)))] at h;exact ih _ Q g9 h
end
section
variable{n k1 k4 h:Nat}{known dZ:List (List Cps)}{es:List (Cps × AV)}{v:Option Nat}{a0 a1 a2 a3 a4:Option AV}{t:Vs}
theorem z10{K:List AO}{src:Src}(hs:src.ok K):∀(l:List (List Cps)) (a5:Option AV) (Q:List AV->PrS),(∀y∈l,Fd y)->(∀vs,Q ((l.map dG).map aJ) vs K) ->
   lcW (WCO (Sy n) .no) (WE (Sy n) (.slc (.var 5) .no (.so (.un .USub (.cst (.int 1)))) .no)) 5 src (l.map aJ) Q (a0::a1::a2::a3::a4::a5::t) K:=λl=>by
 induction l with
 |nil=>exact λa5 Q _ h=>gU hs (h _)
 |cons y l ih=>
  intro a5 Q hl h;have ms:=(hl y aG).1;refine fF hs (cI rfl ⟨rfl,rfl,?_⟩);exists nu (a:=none) (b:=some (-1)) (okm ms (by decide)) rfl rfl;erw[Dv,<- An];exact ih _ (lcD Q _) (λj hj=>hl j (aL _ hj)) h
theorem zw8{α:Type}(l:List α){i:Nat}(hi:i<l.length):bh l (some ((i:Int)+1)) none=l.drop (i+1):=by
 have e:((i:Int)+1)=((i+1:Nat):Int):=by exact rfl
 erw[e];delta bh jh;simp only[tC,Ap];erw[if_neg (by exact λq=>nM _ (uL q)),j9,i7 (by exact hi),l9 (by erw[tv];exact aq _)]
theorem z3e{dy:List AV}(hk:∀x∈known,Fd x)(hd:v7 known es)(ht:∀x∈dZ,x∈known)(hz:dZ.length<=100) :
  ∀(l:List Nat) (a5:Option AV) (K:List AO) (Q:List AV->PrS),(∀i∈l,i<dZ.length)->K[k1]?=some (.dict es v)->K[k4]?=some (.list (dZ.map aJ)) ->
   (∀vs G,Q (((l.filter λi=>decide (aZ known (dZ.getD i [])=h)&&decide (dZ.getD i []∉dZ.drop (i+1))).map λi=>dZ.getD i []).map aJ) vs (K++G)) ->
   lcW (WCO (Sy (n+1)) (.so (.all .And (.cons (.cmp (.idx (.var 1) (.call (.fn 296) (.cons (.idx (.var 4) (.var 5)) .nil))) .Eq (.var 3)) (.cons (.cmp (.idx (.var 4) (.var 5)) .NotIn (.slc (.var 4) (.so (.bin .Add (.var 5) (.cst (.int 1)))) .no .no)) .nil))))) (WE (Sy (n+1)) (.idx (.var 4) (.var 5))) 5 (.fix dy) (l.map aT) Q (a0::some (.loc k1)::a2::some (aT h)::some (.loc k4)::a5::t) K:=λl=>by
 induction l with
 |nil=>exact λa5 K Q _ h1 h4 hq=>gU trivial (c9 K▸hq _ [])
 |cons i l ih=>
  intro a5 K Q hl h1 h4 hq;refine fF trivial ?_;have hi:=hl i aG;have g9:=λj hj=>hl j (aL _ hj);have Hc:=ht _ (lZ (kY (d:=[]) hi));have ix:=oQ (kY (d:=[]) hi);have bi:inB (i:Int)=true:=bJ (by exact ngI) (by exact upI (ah (bk hi) hz) rfl);exists d7 h4 bi ix;exists mG (hk _ Hc);refine qC h1 (hd _ Hc) ?_;exists sY;erw[eqN];refine ifn (λc1=>b8 c1 ?_) (λc1=>?_)
  ·rw[gc (p:=λi=>decide (aZ known (dZ.getD i [])=h)&&decide (dZ.getD i []∉dZ.drop (i+1))) (by erw[c1];exact λq=>nomatch q)] at hq;exact ih _ K Q g9 h1 h4 hq
  exists d7 h4 bi ix;exists lR (bJ (by lia) (by lia));exists sZ (b:=none) h4 (okm hz (by decide)) (eB (bJ (by lia) (by lia))) rfl;erw[Dz,zw8 _ hi];exists vN aN (DA _ _ _);refine ifn (λc2=>b8 c2 ?_) (λc2=>cI rfl ?_)
  ·rw[gc (p:=λi=>decide (aZ known (dZ.getD i [])=h)&&decide (dZ.getD i []∉dZ.drop (i+1))) (by erw[c1];simpa using c2)] at hq
   exact ih _ _ Q g9 (au h1) (au h4) λvs G=>bD ..▸hq vs _
  ·rw[iA (p:=λi=>decide (aZ known (dZ.getD i [])=h)&&decide (dZ.getD i []∉dZ.drop (i+1))) (by erw[c1];simpa using c2)] at hq
   exists d7 (au h4) bi ix;exact ih _ _ (lcD Q _) g9 (au h1) (au h4) λvs G=>bD ..▸hq vs _
end
noncomputable def kZ(known:List (List Cps)):Nat->List (List (List Cps))
 |0=>[known.filter λy=>decide (aZ known y=0)]
 |h+1=>kZ known h++[iZ known (h+1) ((kZ known h).getLastD [])]
theorem KD(known:List (List Cps)):∀h,(kZ known h).length=h+1:=λh=>by
 induction h with
 |zero=>exact  rfl
 |succ h ih=>exact  (bx ..).trans (congrArg (·+1) (ih))
theorem ztr{known:List (List Cps)}(hc:∀x∈known,x.dropLast∈known){h:Nat}{gj:List (List Cps)}(hp:∀x∈gj,x∈known):∀x∈iZ known h gj,x∈known:=by
 intro x hx;refine e12 (bo.mp hx) λi hi aC=>?_;subst aC;refine e12 (bo.mp (lZ (kY (d:=[]) (dc.mp (d9.mp hi).1)))) λy hy e=>?_;exact e▸hc y (hp y hy)
theorem zt8(known:List (List Cps))(h:Nat)(gj:List (List Cps)):(iZ known h gj).length<=gj.length:=by
 unfold iZ;erw[aK];refine ah (lj _ _) ?_;erw[iy,aK];exact aq _
noncomputable abbrev RS:=List (List (List Cps) × Nat)
noncomputable abbrev rsA(ps:RS):List AV:=ps.map λp=>AV.loc p.2
def RI(known:List (List Cps))(k2:Nat)(ps:RS)(K:List AO):Prop:=K[k2]?=some (.list (rsA ps))/\∀p∈ps,K[p.2]?=some (.list (p.1.map aJ))/\p.2≠k2/\(∀x∈p.1,x∈known)/\p.1.length<=known.length
theorem KE(l:List AV)(x:AV):((cZ (l++[x]).length (-1)).bind λj=>(l++[x])[j]?)=some x:=by
 have:cZ (l++[x]).length (-1)=some l.length:=by
  unfold cZ;erw[bx,eR,if_neg (by decide),if_pos (by lia)];exact congrArg some (by lia)
 erw[this,rq,wJ (aq _),tw];rfl
noncomputable abbrev KG:MB:=eh (nth i320.body 2)
section
variable{n k1 k2:Nat}{known:List (List Cps)}{es:List (Cps × AV)}{v:Option Nat}{a0 a1 a2 a3 a4 a5:Option AV}{t:Vs}
theorem zpg{P:Fl->PrS}{h:Nat}{ps:RS}{p:List (List Cps) × Nat}{K:List AO}(hz:known.length<=100)(hk:∀x∈known,Fd x)(hc:∀x∈known,x.dropLast∈known)(hd:v7 known es)(Ou:(ps++[p]).length<=100)(h1:K[k1]?=some (.dict es v))(I:RI known k2 (ps++[p]) K)
  (hh:∀a4 K' kn,RI known k2 (ps++[p]++[(iZ known h p.1,kn)]) K'->Fr [k2] K K'->P .next (a0::some (.loc k1)::some (.loc k2)::some (aT h)::a4::none::t) K') :
  WB (Sy (n+1)) KG (a0::some (.loc k1)::some (.loc k2)::some (aT h)::a4::none::t) K P:=by
 have I1:=I.1;have I2:=I.2;have q3:=(I2 p (md _ aG)).2.2.1;have q4:=(I2 p (md _ aG)).2.2.2;refine ⟨rfl,rfl,?_⟩;refine d7 I1 rfl (by unfold rsA;erw[cf];exact KE _ _) ?_;refine gT ((I2 p (md _ aG)).1) (okm (ah q4 hz) (by decide)) ⟨rfl,z10 (src:=.list _ _) ((I2 p (md _ aG)).1) p.1 _ _ (λy hy=>hk y (q3 y hy)) λvs=>?_⟩;have tl:(p.1.map dG).length<=100:=ah (aE (aK ..)) (ah q4 hz);have tk:∀x∈p.1.map dG,x∈known:=λx hx=>by
  refine e12 (bo.mp hx) λy hy e=>?_;exact e▸hc y (q3 y hy)
 exists ir (au I1) rfl;exists lS aN (okm tl (by decide));erw[aK];exists kQ (bJ ngI (upI tl rfl));refine mH (le2 tl rfl) ⟨rfl,z3e hk hd tk tl (bn (p.1.map dG).length) _ _ _ (λi hi=>dc.mp hi) (au h1) aN λvs G=>?_⟩;exists j0 (au (au (au I1))) (okm Ou (by decide));have F:Fr [k2] K (((K++[AO.list ((p.1.map dG).map aJ)]++G)++[AO.list ((iZ known h p.1).map aJ)]).set k2 (AO.list (rsA (ps++[p])++[AV.loc (K++[AO.list ((p.1.map dG).map aJ)]++G).length]))):=
  (Fr.app _ _ _).trans ((Fr.app _ _ _).trans ((Fr.app _ _ _).trans (.set _ aG)))
 refine hh _ _ (K++[AO.list ((p.1.map dG).map aJ)]++G).length ⟨?_,λq hq=>(cU.mp hq).elim (λhq=>?_) λhq=>?_⟩ F
 ·erw[show rsA (ps++[p]++[(iZ known h p.1,(K++[AO.list ((p.1.map dG).map aJ)]++G).length)])=rsA (ps++[p])++[.loc (K++[AO.list ((p.1.map dG).map aJ)]++G).length] from cf ..];exact eP (au (au (au I1)))
 ·exact ⟨F _ _ (λe=>(I2 q hq).2.1 (bM.mp e)) (I2 q hq).1,(I2 q hq).2⟩
 ·erw[bM.mp hq];exact ⟨(Fr.set (X:=[k2]) _ aG) _ _ (λe=>(gF (ltG (au (au I1)))) (bM.mp e)) aN,(gF (ltG (au (au I1)))),ztr hc q3,ah (zt8 _ _ _) q4⟩
theorem zp0{R:Option Fl->PrS}{dy:List AV}(hz:known.length<=100)(hk:∀x∈known,Fd x)(hc:∀x∈known,x.dropLast∈known)(hd:v7 known es)(BU:k1≠k2) :
  ∀(r h:Nat) (ps:RS) (p:List (List Cps) × Nat) (a3 a4:Option AV) (K:List AO),h+r<=50->(ps++[p]).map (·.1)=kZ known h->K[k1]?=some (.dict es v)->RI known k2 (ps++[p]) K ->
  (∀a3 a4 K' xS,xS.map (·.1)=kZ known (h+r)->RI known k2 xS K'->Fr [k2] K K'->R none (a0::some (.loc k1)::some (.loc k2)::a3::a4::none::t) K') ->
  foW (WA (Sy (n+1)) (.nm 3)) (WB (Sy (n+1)) KG) (.fix dy) R ((pg (h+1) r).map aT) (a0::some (.loc k1)::some (.loc k2)::a3::a4::none::t) K:=λr=>by
 induction r with
 |zero=>exact λh ps p a3 a4 K hr e h1 I hq=>eY trivial (hq _ _ K _ e I (.refl _ _))
 |succ r ih=>
  intro h ps p a3 a4 K hr e h1 I hq;have hl:(ps++[p]).length=h+1:=by erw[<- KD known h,<- e,aK]
  have e2:(ps++[p]).map (·.1)=ps.map (·.1)++[p.1]:=cf ..;refine fE trivial (zpg hz hk hc hd (le2 (ah (aE hl) (aF (dR hr) (aq _))) rfl) h1 I λa4 K' kn J F=>?_);refine ih (h+1) (ps++[p]) (iZ known (h+1) p.1,kn) _ _ K' (ac1 hr) ?_ (F _ _ (λq=>BU (bM.mp q)) h1) J λa3 a4 fC xS b1 b2 b3=>
   hq a3 a4 fC xS (by erw[<- Fw];exact b1) b2 (F.trans b3)
  unfold kZ;erw[<- e,cf,e2,List.getLastD_concat];rfl
theorem z70{K:List AO}{src:Src}(hs:src.ok K) :
  ∀(l:List (List Cps)) (a6:Option AV) (Q:List AV->PrS),(∀y∈l,Fd y)->(∀vs,Q (l.map λx=>AV.str (aA x)) vs K) ->
   lcW (WCO (Sy (n+1)) .no) (WE (Sy (n+1)) (.call (.fn 296) (.cons (.var 6) .nil))) 6 src (l.map aJ) Q (a0::a1::a2::a3::a4::a5::a6::t) K:=λl=>by
 induction l with
 |nil=>exact λa6 Q zz h=>gU hs (h _)
 |cons y l ih=>exact λa6 Q hl h=>fF hs (cI rfl (mG (hl y aG) (ih _ (lcD Q _) (λj hj=>hl j (aL _ hj)) h)))
noncomputable def zf(g:List (List Cps)):AV:=.tup (g.map λx=>AV.str (aA x))
theorem z24{l0:List AV}(hk:∀x∈known,Fd x)(hz:known.length<=100) :
  ∀(ps:RS) (a5:Option AV) (K:List AO) (Q:List AV->PrS),K[k2]?=some (.list l0)->(∀p∈ps,K[p.2]?=some (.list (p.1.map aJ))/\p.2≠k2/\(∀x∈p.1,x∈known)/\p.1.length<=known.length)->(∀vs G,Q (ps.map λp=>zf p.1) vs (K++G)) ->
   lcW (WCO (Sy (n+1)) .no) (WE (Sy (n+1)) (.call (.typ "tuple") (.cons (.lcp (.call (.fn 296) (.cons (.var 6) .nil)) 6 (.var 5) .no [6]) .nil))) 5 (.list k2 l0) (rsA ps) Q (a0::a1::a2::a3::a4::a5::none::t) K:=λps=>by
 induction ps with
 |nil=>exact λa5 K Q h0 zz h=>gU h0 (c9 K▸h _ [])
 |cons p ps ih=>
  intro a5 K Q h0 I h;have q4:=ah (I p aG).2.2.2 hz;refine fF h0 (cI rfl (gT ((I p aG).1) (okm q4 (by decide)) ⟨rfl,z70 (src:=.list _ _) ((I p aG).1) p.1 _ _ (λy hy=>hk y ((I p aG).2.2.1 y hy)) λvs=>?_⟩));exists Dm aN (okm q4 (by decide));exact ih _ _ (lcD Q _) (au h0) (λq hq=>⟨au (I q (aL _ hq)).1,(I q (aL _ hq)).2⟩) λvs G=>bD ..▸h vs _
end
theorem z3d{b:Nat}:∀(l:List Nat) (a:Nat),(∀x∈l,x<=b)->a<=b->l.foldl max a<=b:=λl=>by
 induction l with
 |nil=>exact λa zz h=>h
 |cons x l ih=>exact λa hl h=>ih _ (λy hy=>hl y (aL _ hy)) (Nat.max_le.mpr ⟨h,hl x aG⟩)
theorem zxv{known:List (List Cps)}(hk:∀x∈known,Fd x)(x:List Cps):aZ known x<=20:=by
 refine z3d _ 0 (λz hz=>?_) (bW _);refine e12 (bo.mp hz) λy hy e=>?_;exact e▸ah (gb _ _) (hk y (d9.mp hy).1).1
theorem z7q{n kK:Nat}{known:List (List Cps)}{K:List AO}{P:AV->List AO->Prop}(hz:known.length<=40)(hk:∀x∈known,Fd x)(h0:[]∈known)(hc:∀x∈known,x.dropLast∈known)(hK:K[kK]?=some (.list (known.map aJ)))
  (h:∀kR G,(K++G)[kR]?=some (.list ((kZ known (aZ known [])).map zf))->K.length<=kR->P (.loc kR) (K++G)):Φ (n+2) 320 [.loc kK] K P:=by
 refine dP rfl rfl (ds:=[("known",.loc kK)]) rfl (vs:=[some (.loc kK),none,none,none,none,none,none,none,none,none,none,none,none]) rfl ?_;have pI:known.length<=100:=ah hz (by decide);refine gT hK (okm hz (by decide)) ⟨rfl,zy6 pI hk known _ _ _ (λy hy=>hy) (by erw[fu];exact le2 (aF (aq _) pI) rfl) hK λzz G1=>?_⟩;have hd:v7 known (known.foldl (λaa x=>b7 (aA x) (aT (aZ known x)) aa) []):=λx hx=>
  KC aA (λx=>aT (aZ known x)) known [] x (λy hy e=>by erw[mF (Fd.gd (hk y hy)) (Fd.gd (hk x hx)) e]) (.inl hx)
 refine gT (au (au hK)) (okm hz (by decide)) ⟨rfl,z7t hk hd (au (au hK)) aN known _ _ (λy hy=>hy) λzz=>?_⟩;refine cV vP ?_;have gJ:=zxv hk [];have ed:((aZ known []:Nat):Int)+1=((1+aZ known []:Nat):Int):=iE (nF _ _);refine qC (au (au aN)) (hd [] h0) ?_;exists lR (ed▸(bJ ngI (upI (aF (aq _) gJ) rfl)));erw[ed];exists JT rfl (bJ ngI (upI (aF (aq _) gJ) rfl));refine vT (a:=1) (by decide) (le2 gJ rfl) ?_;erw[<- List.range'_eq_map_range];have I:RI known (K++G1++[AO.dict (known.foldl (λaa x=>b7 (aA x) (aT (aZ known x)) aa) []) none]++[AO.list ((known.filter λy=>decide (aZ known y=0)).map aJ)]).length ([]++[(known.filter λy=>decide (aZ known y=0),(K++G1++[AO.dict (known.foldl (λaa x=>b7 (aA x) (aT (aZ known x)) aa) []) none]).length)])
   (K++G1++[AO.dict (known.foldl (λaa x=>b7 (aA x) (aT (aZ known x)) aa) []) none]++[AO.list ((known.filter λy=>decide (aZ known y=0)).map aJ)]++[AO.list [.loc (K++G1++[AO.dict (known.foldl (λaa x=>b7 (aA x) (aT (aZ known x)) aa) []) none]).length]]):=
  ⟨aN,λp hp=>by
   erw[bM.mp hp];exact ⟨au aN,b5 (ltG aN),λx hx=>(d9.mp hx).1,lj _ _⟩⟩
 refine zp0 pI hk hc hd (b5 (ltG (au aN))) (aZ known []) 0 [] _ _ _ _ (le2 (aF (aq _) gJ) rfl) rfl (au (au aN)) I λa3 a4 K3 ps c1 c2 c3=>?_;have hl:ps.length=aZ known []+1:=by erw[<- KD known,<- i0 (aZ known []),<- c1,aK]
 refine gT c2.1 (okm (k:=21) (le2 (ah (aE hl) (aF gJ (aq _))) rfl) (by decide)) ⟨rfl,z24 hk pI ps _ _ _ c2.1 c2.2 λzz G=>?_⟩;clear c2;refine e11 (DU (K:=K) (by simp only[bD] at c3;exact c3) (by simp)) λG' aC=>?_;subst aC;have e:∀o:AO,K++G'++G++[o]=K++(G'++(G++[o])):=λo=>by erw[bD,bD]
 show P (.loc (K++G'++G).length) (K++G'++G++[AO.list (ps.map λp=>zf p.1)]);erw[e];refine h _ _ ?_ ?_
 ·erw[<- e,<- i0 (aZ known []),<- c1,ca];exact aN
 ·simp only[bx];exact gE (bK _ _)
noncomputable abbrev nsO(kD:Nat)(rd:AV)(po nf:Int):List (Str × AV):=[("_node2info",.loc kD),("_ready_nodes",rd),("_npassedout",.int po),("_nfinished",.int nf)]
section
variable{kO aO kD:Nat}{rd:AV}{po nf:Int}{K:List AO}(o:K[kO]?=some (.inst 165 aO))(ns:K[aO]?=some (.ns (nsO kD rd po nf))){Q:AV->Prop}{R:List AO->Prop}
include o ns
theorem s8(h:Q (.loc kD)):ji T0 (.loc kO) "_node2info" K Q:=yQ o ns (by kernel_rfl) (by kernel_rfl) rfl h
theorem nA(hr:oz rd=true)(h:Q rd):ji T0 (.loc kO) "_ready_nodes" K Q:=yQ o ns (by kernel_rfl) (by kernel_rfl) hr h
theorem KH(h:Q (.int po)):ji T0 (.loc kO) "_npassedout" K Q:=yQ o ns (by kernel_rfl) (by kernel_rfl) rfl h
theorem KI(h:Q (.int nf)):ji T0 (.loc kO) "_nfinished" K Q:=yQ o ns (by kernel_rfl) (by kernel_rfl) rfl h
theorem ycj{d:AV}(h:R (K.set aO (.ns (nsO kD d po nf)))):mx T0 (.loc kO) "_ready_nodes" d K R:=qD o ns (by kernel_rfl) (lY (by kernel_rfl)) ((by kernel_rfl:eV "_ready_nodes" d (nsO kD rd po nf)=nsO kD d po nf).symm▸h)
theorem yda{i:Int}(h:R (K.set aO (.ns (nsO kD rd i nf)))):mx T0 (.loc kO) "_npassedout" (.int i) K R:=qD o ns (by kernel_rfl) (lY (by kernel_rfl)) ((by kernel_rfl:eV "_npassedout" (.int i) (nsO kD rd po nf)=nsO kD rd i nf).symm▸h)
theorem yei{i:Int}(h:R (K.set aO (.ns (nsO kD rd po i)))):mx T0 (.loc kO) "_nfinished" (.int i) K R:=qD o ns (by kernel_rfl) (lY (by kernel_rfl)) ((by kernel_rfl:eV "_nfinished" (.int i) (nsO kD rd po nf)=nsO kD rd po i).symm▸h)
theorem m_o{x:Str}{f:Nat}(k:(nsO kD rd po nf).lookup x=none)(hm:T0.meth 165 x=some f)(h:Q (.fn f)):lQ T0 (.loc kO) x K Q:=Yp o ns k hm h
end
section
variable{kn km ks:Nat}{p:Cps}{np:Int}{K:List AO}(h:K[kn]?=some (.slots 68 km [.str p,.int np,.loc ks]))(hm:K[km]?=some (.ns [])){Q:AV->Prop}{R:List AO->Prop}
include h hm
theorem z6u(q:Q (.str p)):ji T0 (.loc kn) "node" K Q:=Do h hm (i:=0) (by kernel_rfl) rfl rfl q
theorem v9(q:Q (.int np)):ji T0 (.loc kn) "npredecessors" K Q:=Do h hm (i:=1) (by kernel_rfl) rfl rfl q
theorem DW(q:Q (.loc ks)):ji T0 (.loc kn) "successors" K Q:=Do h hm (i:=2) (by kernel_rfl) rfl rfl q
theorem zg{i:Int}(q:R (K.set kn (.slots 68 km [.str p,.int i,.loc ks]))):mx T0 (.loc kn) "npredecessors" (.int i) K R:=Yr h hm (i:=1) (by kernel_rfl) (show 1<3 by decide) q
end
theorem KJ{n a f:Nat}{b:Bool}{I:cn}{args:List AV}{H:List AO}{ds:List (Str × AV)}{vs:Vs}{P:AV->List AO->Prop}(hC:C0 a=some (f,b))(hF:F0 f=some I)(hb:sR I (.loc (H.length+1)::args)=some ds)
  (hv:Df I.vis I.n ds=vs) (h:WB (Sy n) I.body vs (H++[.ns [],if b then .inst a H.length else .slots a H.length []]) (sP λd H'=>d=.none/\P (.loc (H.length+1)) H')):Φ (n+1) a args H P:=by
 subst hv;unfold Φ nr;erw[hC];dsimp only;erw[hF];show Wp (sR _ _) _;erw[hb];exact h
section
variable{H G:List AO}
theorem k0{i:Nat}{a:AO}(h:G[i]?=some a):(H++G)[H.length+i]?=some a:=by erw[wJ (bK _ _),wF];exact h
theorem nB{a:AO}:(H++a::G)[H.length]?=some a:=k0 (i:=0) rfl
theorem zh{i:Nat}{a:AO}:(H++G).set (H.length+i) a=H++G.set i a:=by erw[Ah _ _ (bK _ _),wF]
theorem zi{a:AO}:(H++G).set H.length a=H++G.set 0 a:=zh (i:=0)
end
theorem z9w{n:Nat}{s:Cps}{H:List AO}{P:AV->List AO->Prop}(h:P (.loc (H.length+1)) (H++[.ns [],.slots 68 H.length [.str s,.int 0,.loc (H.length+2)],.list []])):Φ (n+1) 68 [.str s] H P:=by
 refine KJ (f:=64) (b:=false) rfl rfl (ds:=[("self",.loc (H.length+1)),("node",.str s)]) rfl (vs:=[some (.loc (H.length+1)),some (.str s),none,none,none,none,none,none,none,none]) rfl ?_;refine Dp (k0 (i:=1) rfl) nB (by kernel_rfl) ?_;erw[zh];refine Dp (k0 (i:=1) rfl) nB (by kernel_rfl) ?_;erw[zh];refine cV jr ?_;refine Dp (au (k0 (i:=1) rfl)) (au nB) (by kernel_rfl) ?_;erw[bD,zh,bx];exact ⟨rfl,h⟩
theorem z5i{n:Nat}{H:List AO}{P:AV->List AO->Prop}(h:P (.loc (H.length+1)) (H++[.ns (nsO (H.length+2) .none 0 0),.inst 165 H.length,.dict [] (some 0)])):Φ (n+1) 165 [] H P:=by
 refine KJ (f:=101) (b:=true) rfl rfl (ds:=[("self",.loc (H.length+1)),("graph",.none)]) rfl (vs:=[some (.loc (H.length+1)),some .none,none,none,none,none,none,none,none,none,none,none]) rfl ?_;refine qD (au (k0 (i:=1) rfl)) (au nB) (by kernel_rfl) (lY (by kernel_rfl)) ?_;erw[bD,zi];refine qD (k0 (i:=1) rfl) nB (by kernel_rfl) (lY (by kernel_rfl)) ?_;erw[zi];refine qD (k0 (i:=1) rfl) nB (by kernel_rfl) (lY (by kernel_rfl)) ?_;erw[zi];refine qD (k0 (i:=1) rfl) nB (by kernel_rfl) (lY (by kernel_rfl)) ?_;erw[zi,bx];refine Di rfl (b8 rfl ⟨rfl,?_⟩);have e:eV "_nfinished" (.int 0) (eV "_npassedout" (.int 0) (eV "_ready_nodes" .none (eV "_node2info" (.loc (H.length+2)) [])))=nsO (H.length+2) .none 0 0:=by kernel_rfl
 exact e.symm▸h
structure Nd where
 p:Cps
 np:Int
 sc:List Cps
structure Ent where
 nd:Nd
 kn:Nat
 km:Nat
 ks:Nat
noncomputable def bR(s:Cps)(f:Nd->Nd)(N:List Nd):List Nd:=N.map λd=>if d.p=s then f d else d
noncomputable def eC(s:Cps)(f:Nd->Nd)(N:List Ent):List Ent:=N.map λe=>if e.nd.p=s then {e with nd:=f e.nd} else e
noncomputable def gW(s:Cps)(N:List Nd):List Nd:=if s∈N.map (·.p) then N else N++[⟨s,0,[]⟩]
theorem wb(s:Cps)(f:Nd->Nd)(es:List Ent):(eC s f es).map (·.nd)=bR s f (es.map (·.nd)):=by
 delta eC bR;erw[ca,ca];refine eq λe zz=>?_;show (if e.nd.p=s then ({e with nd:=f e.nd}:Ent) else e).nd=if e.nd.p=s then f e.nd else e.nd
 split<;>rfl
noncomputable abbrev k6(e:Ent):Cps × AV:=(e.nd.p,AV.loc e.kn)
noncomputable abbrev DX(e:Ent):AO:=.slots 68 e.km [.str e.nd.p,.int e.nd.np,.loc e.ks]
structure Sor(kO aO kD:Nat)(rd:AV)(po nf:Int)(es:List Ent)(v:Nat)(K:List AO):Prop where
 o:K[kO]?=some (.inst 165 aO)
 ns:K[aO]?=some (.ns (nsO kD rd po nf))
 d:K[kD]?=some (.dict (es.map k6) (some v))
 en:∀e∈es,K[e.kn]?=some (DX e)/\K[e.km]?=some (.ns [])/\K[e.ks]?=some (.list (e.nd.sc.map AV.str))
 pn:(es.map (·.nd.p)).Nodup
 sn:(es.map (·.ks)).Nodup
noncomputable def AO.tag:AO->Nat
 |.list _=>0
 |.dict _ _=>1
 |.set _=>2
 |.inst _ _=>3
 |.ns _=>4
 |.slots _ _ _=>5
 |.iter _ _=>6
 |.dead=>7
 |.pin _=>8
theorem k8{K:List AO}{i j:Nat}{a b:AO}(hi:K[i]?=some a)(hj:K[j]?=some b)(h:ke a.tag b.tag=false):i≠j:=λq=>by
 subst q;cases hi.symm.trans hj;exact qZ h rfl
theorem c8{K:List AO}{i j:Nat}{a c:AO}(hi:K[i]?=some a)(h:i≠j):(K.set j c)[i]?=some a:=by
 erw[mN h.symm];exact hi
theorem bm{K:List AO}{i j:Nat}{a b c:AO}(hi:K[i]?=some a)(hj:K[j]?=some b)(h:ke a.tag b.tag=false):(K.set j c)[i]?=some a:=c8 hi (k8 hi hj h)
theorem zj{α β:Type}{f:α->β}{x y:α}:∀{l:List α},(l.map f).Nodup->x∈l->y∈l->f x=f y->x=y:=λ{l}=>by
 induction l with
 |nil=>exact λzz hx zz zz=>nomatch hx
 |cons a l ih=>
  intro h hx hy e;rw[bX,fM] at h;refine (bu.mp hx).elim (λhx=>(bu.mp hy).elim (λhy=>hx.trans hy.symm) λhy=>absurd (ft (f:=f) hy) (by erw[<- e,hx];exact h.1)) λhx=>(bu.mp hy).elim (λhy=>absurd (ft (f:=f) hx) (by erw[e,hy];exact h.1)) λhy=>ih h.2 hx hy e
noncomputable def npF(i:Int)(d:Nd):Nd:={d with np:=i}
noncomputable def scF(t:Cps)(d:Nd):Nd:={d with sc:=d.sc++[t]}
section
variable{kO aO kD:Nat}{rd:AV}{po nf:Int}{es:List Ent}{v:Nat}{K:List AO}
theorem Sor.app(S:Sor kO aO kD rd po nf es v K)(G:List AO):Sor kO aO kD rd po nf es v (K++G):=
 ⟨au S.o,au S.ns,au S.d,λe he=>⟨au (S.en e he).1,au (S.en e he).2.1,au (S.en e he).2.2⟩,S.pn,S.sn⟩
theorem DY{γ:Type}{s:Cps}{f:Nd->Nd}(hf:∀d,(f d).p=d.p){g:Ent->γ}(hg:∀e d,d.p=e.nd.p->g {e with nd:=d}=g e)(es:List Ent):(eC s f es).map g=es.map g:=by
 unfold eC;erw[ca];refine eq λe zz=>?_;show g (if e.nd.p=s then ({e with nd:=f e.nd}:Ent) else e)=g e
 split
 ·exact hg e _ (hf _)
 ·rfl
theorem z6j{s:Cps}{f:Nd->Nd}(hf:∀d,(f d).p=d.p)(es:List Ent):(eC s f es).map k6=es.map k6:=DY hf (λe d h=>congrArg (·,AV.loc e.kn) h) es
theorem KM{s:Cps}{f:Nd->Nd}(hf:∀d,(f d).p=d.p)(es:List Ent):(eC s f es).map (·.nd.p)=es.map (·.nd.p):=DY hf (λe d h=>h) es
theorem DZ{s:Cps}{f:Nd->Nd}(hf:∀d,(f d).p=d.p)(es:List Ent):(eC s f es).map (·.ks)=es.map (·.ks):=DY hf (λe d h=>rfl) es
theorem Sor.upd(S:Sor kO aO kD rd po nf es v K){x:Nat}{b o:AO}{s:Cps}{f:Nd->Nd}(hx:K[x]?=some b)(t:ke 3 b.tag=false/\ke 4 b.tag=false/\ke 1 b.tag=false)(hf:∀d,(f d).p=d.p)
  (h1:∀y∈es,y.nd.p=s->(K.set x o)[y.kn]?=some (DX {y with nd:=f y.nd})/\(K.set x o)[y.ks]?=some (.list ((f y.nd).sc.map AV.str)))
  (h2:∀y∈es,y.nd.p≠s->(K.set x o)[y.kn]?=some (DX y)/\(K.set x o)[y.ks]?=some (.list (y.nd.sc.map AV.str))):Sor kO aO kD rd po nf (eC s f es) v (K.set x o):=by
 refine ⟨bm S.o hx t.1,bm S.ns hx t.2.1,?_,?_,?_,?_⟩
 ·rw[z6j hf];exact bm S.d hx t.2.2
 ·intro z hz;refine e12 (bo.mp hz) λy hy aC=>?_;subst aC;by_cases hp:y.nd.p=s
  ·rw[if_pos hp];exact ⟨(h1 y hy hp).1,(bm (c:=o) (S.en y hy).2.1 hx t.2.1),(h1 y hy hp).2⟩
  ·rw[if_neg hp];exact ⟨(h2 y hy hp).1,(bm (c:=o) (S.en y hy).2.1 hx t.2.1),(h2 y hy hp).2⟩
 ·rw[KM hf];exact S.pn
 ·rw[DZ hf];exact S.sn
theorem Sor.setNp(S:Sor kO aO kD rd po nf es v K){e:Ent}(he:e∈es)(i:Int):Sor kO aO kD rd po nf (eC e.nd.p (npF i) es) v (K.set e.kn (.slots 68 e.km [.str e.nd.p,.int i,.loc e.ks])):=by
 have e1:=(S.en e he).1;refine S.upd e1 ⟨rfl,rfl,rfl⟩ (λzz=>rfl) (λy hy hp=>?_) λy hy hp=>⟨c8 (S.en y hy).1 λq=>?_,bm (S.en y hy).2.2 e1 rfl⟩
 ·cases zj S.pn hy he hp;exact ⟨eP e1,bm (S.en e he).2.2 e1 rfl⟩
 ·have:=(S.en y hy).1;rw[q,e1] at this;injection this with this
  injection this with _ _ this
  injection this with this _
  injection this with this
  exact hp this.symm
theorem Sor.addSc(S:Sor kO aO kD rd po nf es v K){e:Ent}(he:e∈es)(t:Cps):Sor kO aO kD rd po nf (eC e.nd.p (scF t) es) v (K.set e.ks (.list (e.nd.sc.map AV.str++[.str t]))):=by
 have e3:=(S.en e he).2.2;refine S.upd e3 ⟨rfl,rfl,rfl⟩ (λzz=>rfl) (λy hy hp=>?_) λy hy hp=>⟨bm (S.en y hy).1 e3 rfl,c8 (S.en y hy).2.2 λq=>hp (congrArg (·.nd.p) (zj S.sn hy he q))⟩;cases zj S.pn hy he hp;exact ⟨bm (S.en e he).1 e3 rfl,by unfold scF;erw[cf];exact eP e3⟩
theorem Sor.setF(S:Sor kO aO kD rd po nf es v K)(xm:AV)(uQ uq:Int):Sor kO aO kD xm uQ uq es v (K.set aO (.ns (nsO kD xm uQ uq))):=
 ⟨bm S.o S.ns rfl,eP S.ns,bm S.d S.ns rfl,λe he=>⟨bm (S.en e he).1 S.ns rfl,c8 (S.en e he).2.1 λq=>(by
  have:=(S.en e he).2.1;rw[q,S.ns] at this;injection this with this
  injection this with this
  injection this),bm (S.en e he).2.2 S.ns rfl⟩,S.pn,S.sn⟩
theorem Sor.off(S:Sor kO aO kD rd po nf es v K){m:Nat}(o:AO){l:List AV}(hl:K[m]?=some (.list l))(h2:m∉es.map (·.ks)):Sor kO aO kD rd po nf es v (K.set m o):=
 ⟨bm S.o hl rfl,bm S.ns hl rfl,bm S.d hl rfl,λe he=>⟨bm (S.en e he).1 hl rfl,bm (S.en e he).2.1 hl rfl,c8 (S.en e he).2.2 λq=>h2 (q▸ft he)⟩,S.pn,S.sn⟩
theorem Sor.offD(S:Sor kO aO kD rd po nf es v K){m:Nat}(o:AO){l:List (Cps × AV)}{w:Option Nat}(hl:K[m]?=some (.dict l w))(h2:m≠kD):Sor kO aO kD rd po nf es v (K.set m o):=
 ⟨bm S.o hl rfl,bm S.ns hl rfl,c8 S.d h2.symm,λe he=>⟨bm (S.en e he).1 hl rfl,bm (S.en e he).2.1 hl rfl,bm (S.en e he).2.2 hl rfl⟩,S.pn,S.sn⟩
structure Keep(kD:Nat)(ls:List Nat)(K K':List AO):Prop where
 li:∀m l,K[m]?=some (.list l)->m∉ls->K'[m]?=some (.list l)
 di:∀m l v,K[m]?=some (.dict l v)->m≠kD->K'[m]?=some (.dict l v)
 le:K.length<=K'.length
theorem Keep.refl(kD:Nat)(ls:List Nat)(K:List AO):Keep kD ls K K:=⟨λzz zz h zz=>h,λzz zz zz h zz=>h,aq _⟩
theorem Keep.trans{kD:Nat}{ls ls':List Nat}{K K' fC:List AO}(a:Keep kD ls K K')(b:Keep kD ls' K' fC)(h:∀q∈ls',q∈ls\/K.length<=q):Keep kD ls K fC :=
 ⟨λm l hm hn=>b.li m l (a.li m l hm hn) λq=>(h m q).elim hn λq=>bQ.mpr q (ltG hm),λm l v hm hn=>b.di m l v (a.di m l v hm hn) hn,ah a.le b.le⟩
theorem Keep.app(kD:Nat)(ls:List Nat)(K G:List AO):Keep kD ls K (K++G):=⟨λzz zz h zz=>au h,λzz zz zz h zz=>au h,by erw[bx];exact bK _ _⟩
theorem Keep.setO{kD:Nat}{ls:List Nat}{K:List AO}{n:Nat}{o o':AO}(h:K[n]?=some o)(h1:ke 0 o.tag=false\/n∈ls)(h2:ke 1 o.tag=false\/n=kD):Keep kD ls K (K.set n o'):=
 ⟨λm l hm hn=>h1.elim (bm hm h) λq=>c8 hm λe=>hn (e▸q),λm l v hm hn=>h2.elim (bm hm h) λq=>c8 hm λe=>hn (e.trans q),aE (Aw ..).symm⟩
end
theorem wc{e:Ent}:∀{es:List Ent},(es.map (·.nd.p)).Nodup->e∈es->(es.map k6).lookup e.nd.p=some (.loc e.kn):=λ{es}=>by
 induction es with
 |nil=>exact λzz he=>nomatch he
 |cons a l ih=>
  intro hn he;rw[bX,fM] at hn;erw[bX,dW];by_cases h:e.nd.p=a.nd.p
  ·erw[show (e.nd.p==a.nd.p)=true from beq_iff_eq.mpr h];exact (bu.mp he).elim (λq=>q▸rfl) λq=>absurd (ft (f:=λe:Ent=>e.nd.p) q) (h▸hn.1)
  ·erw[show (e.nd.p==a.nd.p)=false from beq_eq_false_iff_ne.mpr h];exact (bu.mp he).elim (λq=>absurd (q▸rfl) h) (ih hn.2)
theorem KN{s:Cps}:∀{es:List Ent},s∉es.map (·.nd.p)->(es.map k6).lookup s=none:=λ{es}=>by
 induction es with
 |nil=>exact λzz=>rfl
 |cons a l ih=>
  intro h;rw[bX,bu,not_or] at h;erw[bX,dW,show (s==(k6 a).1)=false from beq_eq_false_iff_ne.mpr h.1];exact ih h.2
theorem wd(s:Cps)(d:AV):∀l:List (Cps × AV),l.lookup s=none->b7 s d l=l++[(s,d)]/\l.any (λx=>x.1==s)=false
 |[],_=>⟨rfl,rfl⟩
 |(y,e)::r,h=>by
  rw[dW] at h;cases hb:s==y with
  |true=>rw[hb] at h;injection h
  |false=>
   rw[hb] at h;have ih:=wd s d r h;refine ⟨?_,?_⟩
   ·unfold b7;erw[if_neg (beq_eq_false_iff_ne.mp hb).symm,ih.1];rfl
   ·erw[rp,ih.2,Ez];exact beq_eq_false_iff_ne.mpr (beq_eq_false_iff_ne.mp hb).symm
theorem zm{α:Type}{l:List α}{x:α}(h:l.Nodup)(hx:x∉l):(l++[x]).Nodup :=
 jw.mpr ⟨h,fM.mpr ⟨eQ,rC⟩,λa ha b hb q=>hx (by erw[<- bM.mp hb,<- q];exact ha)⟩
structure Grow(kD:Nat)(es:List Ent)(K:List AO)(aD:List Ent)(K':List AO):Prop where
 k:Keep kD (es.map (·.ks)) K K'
 q:∀x∈aD.map (·.ks),x∈es.map (·.ks)\/K.length<=x
section
variable{kD:Nat}{es aD n9:List Ent}{K K' fC:List AO}
theorem Grow.refl(kD:Nat)(es:List Ent)(K:List AO):Grow kD es K es K:=⟨.refl _ _ _,λzz h=>.inl h⟩
theorem Grow.trans(a:Grow kD es K aD K')(b:Grow kD aD K' n9 fC):Grow kD es K n9 fC:=⟨a.k.trans b.k a.q,λx h=>(b.q x h).elim (a.q x) λh=>.inr (ah a.k.le h)⟩
theorem Grow.upd{s:Cps}{f:Nd->Nd}(hf:∀d,(f d).p=d.p)(k:Keep kD (es.map (·.ks)) K K'):Grow kD es K (eC s f es) K':=⟨k,λx h=>.inl (DZ hf es▸h)⟩
end
section
variable{kO aO kD:Nat}{rd:AV}{po nf:Int}{es:List Ent}{v:Nat}{K:List AO}
theorem KO{n:Nat}{s:Cps}{P:AV->List AO->Prop}(S:Sor kO aO kD rd po nf es v K)(hz:es.length<=500)
  (h:∀aD v' K' e,Sor kO aO kD rd po nf aD v' K'->e∈aD->e.nd.p=s->aD.map (·.nd)=gW s (es.map (·.nd))->Grow kD es K aD K'->aD.length<=es.length+1->P (.loc e.kn) K'):Φ (n+2) 108 [.loc kO,.str s] K P:=by
 refine dP rfl rfl (ds:=[("self",.loc kO),("node",.str s)]) rfl (vs:=[some (.loc kO),some (.str s),none,none,none,none,none,none,none,none,none]) rfl ?_;refine s8 S.o S.ns ?_;refine Dn S.d (i:="dict.get") rfl ?_;exists JR S.d;by_cases hm:s∈es.map (·.nd.p)
 ·refine e12 (bo.mp hm) λe he aC=>?_;subst aC;erw[wc S.pn he];refine sX rfl (b8 rfl ?_);refine h es v K e S he rfl ?_ (.refl _ _ _) (jD _);unfold gW;rw[if_pos];erw[ca];exact hm
 ·have hp:=wd s (.loc (K.length+1)) _ (KN hm);have gJ:=ltG S.d;have T:=S.app [AO.ns [],.slots 68 K.length [.str s,.int 0,.loc (K.length+2)],.list []];erw[KN hm];refine sX rfl (cI rfl ?_);refine z9w ?_;refine s8 T.o T.ns ?_;refine yR T.d (by erw[aK];exact ah hz (by decide)) ?_;erw[hp.1,hp.2];refine h (es++[⟨⟨s,0,[]⟩,K.length+1,K.length,K.length+2⟩]) (v+1) _ ⟨⟨s,0,[]⟩,K.length+1,K.length,K.length+2⟩ ⟨bm T.o T.d rfl,bm T.ns T.d rfl,?_,λe he=>(cU.mp he).elim (λhe=>?_) λhe=>?_,?_,?_⟩ (md _ aG) rfl ?_ ⟨?_,λq hq=>?_⟩ (aE (bx ..))
  ·erw[cf];exact eP T.d
  ·exact ⟨bm (T.en e he).1 T.d rfl,bm (T.en e he).2.1 T.d rfl,bm (T.en e he).2.2 T.d rfl⟩
  ·erw[bM.mp he];exact ⟨c8 (k0 (i:=1) rfl) (gF (NM 1 gJ)),c8 nB (gF gJ),c8 (k0 (i:=2) rfl) (gF (NM 2 gJ))⟩
  ·erw[cf];exact zm S.pn hm
  ·erw[cf];refine zm S.sn λq=>?_;refine e12 (bo.mp q) ?_;intro e he q;exact bQ.mpr (bK _ 2) (q▸ltG (S.en e he).2.2)
  ·unfold gW;erw[if_neg (by erw[ca];exact hm),cf];rfl
  ·exact (Keep.app kD _ K _).trans (Keep.setO T.d (.inl rfl) (.inr rfl)) λq h=>.inl h
  ·rw[cf] at hq;exact (cU.mp hq).imp id λhq=>(show q=K.length+2 from bM.mp hq)▸bK _ 2
noncomputable def cL(k:Int)(d:Nd):Nd:={d with np:=d.np+k}
theorem KP{N:List Nd}(hn:(N.map (·.p)).Nodup){d:Nd}(hd:d∈N)(k:Int):bR d.p (npF (d.np+k)) N=bR d.p (cL k) N:=by
 unfold bR;refine eq λe he=>?_;split
 ·rename_i h;erw[zj hn he hd h];rfl
 ·rfl
theorem we(S:Sor kO aO kD rd po nf es v K):((es.map (·.nd)).map (·.p)).Nodup:=by erw[ca];exact S.pn
end
noncomputable def s9(t s:Cps)(N:List Nd):List Nd:=bR s (scF t) (gW s (bR t (cL 1) (gW t N)))
def Bd(b:Nat)(N:List Nd):Prop:=∀d∈N,d.sc.length<=b/\-(b:Int)<=d.np/\d.np<=b
theorem Bd.get{b:Nat}{N:List Nd}(h:Bd b N)(s:Cps):Bd b (gW s N):=by
 unfold gW;split
 ·exact h
 ·exact λd hd=>(cU.mp hd).elim (h d) λq=>bM.mp q▸⟨bW _,by show -(b:Int)<=0;exact Int.neg_nonpos_of_nonneg (dw _),by show 0<=(b:Int);exact dw _⟩
theorem Bd.upd{b c:Nat}{N:List Nd}(h:Bd b N)(s:Cps){f:Nd->Nd}(hf:∀d:Nd,d.sc.length<=b/\-(b:Int)<=d.np/\d.np<=(b:Int)->(f d).sc.length<=c/\-(c:Int)<=(f d).np/\(f d).np<=(c:Int))(pN:b<=c):Bd c (bR s f N):=by
 intro d hd;refine e12 (bo.mp hd) λe he aC=>?_;subst aC;have:=h e he;split
 ·exact hf e this
 ·exact ⟨by exact ah this.1 pN,by exact bH (tG (iL pN)) this.2.1,by exact bH this.2.2 (iL pN)⟩
theorem Bd.inc{b k:Nat}{N:List Nd}(h:Bd b N)(s:Cps):Bd (b+k) (bR s (cL k) N):=h.upd s (λd q=>⟨by show d.sc.length<=_;exact gE q.1,by show _<=d.np+(k:Int);exact bH (tG (iL (bK _ _))) (bH q.2.1 (NN (dw _))),by show d.np+(k:Int)<=_;exact NO q.2.2 _⟩) (bK _ _)
theorem Bd.sc{b:Nat}{N:List Nd}(h:Bd b N)(s t:Cps):Bd (b+1) (bR s (scF t) N):=h.upd s (λd q=>⟨by show (d.sc++[t]).length<=_;erw[bx];exact cr q.1,by show _<=d.np;exact bH (tG (iL (bK _ _))) q.2.1,by show d.np<=_;exact bH q.2.2 (iL (bK _ _))⟩) (bK _ _)
theorem Bd.add{b:Nat}{N:List Nd}(h:Bd b N)(t s:Cps):Bd (b+2) (s9 t s N):=(((h.get t).inc (k:=1) t).get s).sc s t
theorem Bd.mono{b c:Nat}{N:List Nd}(h:Bd b N)(pN:b<=c):Bd c N:=λd hd=>have q:=h d hd;⟨ah q.1 pN,by exact bH (tG (iL pN)) q.2.1,by exact bH q.2.2 (iL pN)⟩
theorem KQ(s:Cps)(N:List Nd):bR s (cL 0) N=N:=by
 unfold bR;have:∀d:Nd,(if d.p=s then cL 0 d else d)=d:=λd=>by
  split
  ·show ({d with np:=d.np+0}:Nd)=d
   erw[tE]
  ·rfl
 erw[funext this,List.map_id']
theorem mI{es:List Ent}{e:Ent}(h:e∈es):e.nd∈es.map (·.nd):=ft h
theorem zn{s:Cps}{f:Nd->Nd}(es:List Ent):(eC s f es).length=es.length:=aK ..
section
variable{n kO aO kD:Nat}{po nf:Int}{t:Cps}
theorem zyl{R:Option Fl->PrS}{dy:List AV}{a2 a3:Option AV}{tl:Vs}:∀(ss:List Cps) (b:Nat) (es:List Ent) (v:Nat) (K:List AO) (a4 a5:Option AV),Sor kO aO kD .none po nf es v K->es.length+ss.length<=500->Bd b (es.map (·.nd))->b+ss.length<=500 ->
  (∀aD v' K' a4 a5,Sor kO aO kD .none po nf aD v' K'->aD.map (·.nd)=ss.foldl (λN s=>bR s (scF t) (gW s N)) (es.map (·.nd))->Grow kD es K aD K'->aD.length<=es.length+ss.length->R none (some (.loc kO)::some (.str t)::a2::a3::a4::a5::tl) K') ->
  foW (WA (Sy (n+2)) (.nm 4)) (WB (Sy (n+2)) (eh (nth i115.body 3))) (.fix dy) R (ss.map AV.str) (some (.loc kO)::some (.str t)::a2::a3::a4::a5::tl) K:=λss=>by
 induction ss with
 |nil=>exact λb es v K a4 a5 S hz hb xQ h=>eY trivial (h es v K a4 a5 S rfl (.refl _ _ _) (aq _))
 |cons s ss ih=>
  intro b es v K a4 a5 S hz hb xQ h;rw[bC] at hz xQ;refine fE trivial (m_o (f:=108) S.o S.ns (by kernel_rfl) (by kernel_rfl) (KO S (le2 (dR hz) rfl) λil v1 K1 f S1 hf O8 hN g hl=>?_));have e:=S1.en f hf;have pY:Bd b (il.map (·.nd)):=hN▸hb.get s;refine DW e.1 e.2.1 (ir e.2.2 (i:="list.append") rfl (j0 e.2.2 (okm (f:=AV.str) (ah (pY _ (mI hf)).1 (le2 (dR xQ) rfl:b<=500)) (by decide)) ?_));have n4:(eC f.nd.p (scF t) il).map (·.nd)=bR s (scF t) (gW s (es.map (·.nd))):=by erw[wb,hN,O8]
  refine ih (b+1) _ v1 _ _ _ (S1.addSc hf t) (by erw[zn];exact lF hz hl) (n4▸(hb.get s).sc s t) (ac1 xQ) λaD v' K' a4 a5 S' e1 g' g9=>?_;refine h aD v' K' a4 a5 S' (by erw[e1,n4];rfl) (g.trans (.trans (.upd (f:=scF t) (λ_=>rfl) (Keep.setO e.2.2 (.inr (ft hf)) (.inl rfl))) g')) ?_;rw[zn] at g9;erw[bC];exact lG g9 hl
theorem KR{es:List Ent}{v:Nat}{K:List AO}{ss:List Cps}{P:AV->List AO->Prop}(S:Sor kO aO kD .none po nf es v K)(hz:es.length<=400)(hb:Bd 400 (es.map (·.nd)))(hs:ss.length<=40)
  (h:∀aD v' K',Sor kO aO kD .none po nf aD v' K'->aD.map (·.nd)=ss.foldl (λN s=>bR s (scF t) (gW s N)) (bR t (cL ss.length) (gW t (es.map (·.nd))))->Grow kD es K aD K'->aD.length<=es.length+(1+ss.length)->P .none K') :
  WB (Sy (n+2)) i115.body [some (.loc kO),some (.str t),some (.tup (ss.map AV.str)),none,none,none,none,none,none,none,none,none,none,none] K (sP P):=by
 refine nA S.o S.ns rfl (Di rfl (b8 rfl (m_o (f:=108) S.o S.ns (by kernel_rfl) (by kernel_rfl) (KO S (le2 hz rfl) λil v1 K1 e S1 he hp hN g hl=>?_))));have q:=S1.en e he;have uG:=(hN▸hb.get t) _ (mI he);refine v9 q.1 q.2.1 (nv (okm (f:=AV.str) hs (by decide)) ?_);erw[aK];refine yN (bJ (bH (by decide) (bH uG.2.1 (NN (dw _)))) (bH (NP uG.2.2 (iL hs)) (by decide))) (zg q.1 q.2.1 (qE (okm (f:=AV.str) hs (by decide)) ?_));have n4:(eC e.nd.p (npF (e.nd.np+(ss.length:Int))) il).map (·.nd)=bR t (cL ss.length) (gW t (es.map (·.nd))):=by
  erw[wb,KP (we S1) (mI he),hN,hp]
 refine zyl ss 440 _ v1 _ _ _ (S1.setNp he _) (by erw[zn];exact le2 (aF (ah hl (aF hz (aq _))) hs) rfl) (n4▸((hb.get t).inc (k:=ss.length) t).mono (le2 (aF (aq _) hs) rfl)) (le2 (aF (aq _) hs) rfl) λaD v' K' a4 a5 S' e1 g' g9=>?_;refine h aD v' K' S' (by erw[e1,n4]) (g.trans (.trans (.upd (f:=npF _) (λ_=>rfl) (Keep.setO q.1 (.inl rfl) (.inl rfl))) g')) ?_;rw[zn] at g9;exact lH g9 hl
section
variable{es:List Ent}{v:Nat}{K:List AO}{P:AV->List AO->Prop}(S:Sor kO aO kD .none po nf es v K)(hz:es.length<=400)(hb:Bd 400 (es.map (·.nd)))
include S hz hb
theorem z1b(h:∀aD v' K',Sor kO aO kD .none po nf aD v' K'->aD.map (·.nd)=gW t (es.map (·.nd))->Grow kD es K aD K'->aD.length<=es.length+1->P .none K'):Φ (n+3) 115 [.loc kO,.str t] K P :=
 dP rfl rfl (ds:=[("self",.loc kO),("node",.str t),("predecessors",.tup [])]) rfl rfl (KR (ss:=[]) S hz hb (by decide) λaD v' K' S' e g hl=>h aD v' K' S' (e.trans (KQ _ _)) g hl)
theorem z7r{s:Cps}(h:∀aD v' K',Sor kO aO kD .none po nf aD v' K'->aD.map (·.nd)=s9 t s (es.map (·.nd))->Grow kD es K aD K'->aD.length<=es.length+2->P .none K'):Φ (n+3) 115 [.loc kO,.str t,.str s] K P :=
 dP rfl rfl (ds:=[("self",.loc kO),("node",.str t),("predecessors",.tup [.str s])]) rfl rfl (KR (ss:=[s]) S hz hb (show 1<=40 by decide) λaD v' K' S' e g hl=>h aD v' K' S' e g hl)
end
end
theorem KS{s:Cps}{i:Int}(es:List Ent):(eC s (npF i) es).map (·.ks)=es.map (·.ks):=DZ (f:=npF i) (λzz=>rfl) es
theorem D0{s:Cps}{i:Int}(es:List Ent):(eC s (npF i) es).map (·.nd.p)=es.map (·.nd.p):=KM (f:=npF i) (λzz=>rfl) es
structure SR(kO aO kD kR:Nat)(po nf:Int)(es:List Ent)(v:Nat)(rdy:List Cps)(K:List AO):Prop where
 s:Sor kO aO kD (.loc kR) po nf es v K
 r:K[kR]?=some (.list (rdy.map AV.str))
 n:kR∉es.map (·.ks)
theorem Keep.mono{kD:Nat}{ls ls':List Nat}{K K':List AO}(a:Keep kD ls K K')(h:∀q∈ls,q∈ls'):Keep kD ls' K K':=⟨λm l hm hn=>a.li m l hm λq=>hn (h m q),a.di,a.le⟩
structure Same(kD kR:Nat)(es:List Ent)(K:List AO)(aD:List Ent)(K':List AO):Prop where
 e:aD.map (·.ks)=es.map (·.ks)
 k:Keep kD [kR] K K'
section
variable{kD kR:Nat}{es aD n9:List Ent}{K K' fC:List AO}
theorem Same.refl(kD kR:Nat)(es:List Ent)(K:List AO):Same kD kR es K es K:=⟨rfl,.refl _ _ _⟩
theorem Same.trans(a:Same kD kR es K aD K')(b:Same kD kR aD K' n9 fC):Same kD kR es K n9 fC:=⟨b.e.trans a.e,a.k.trans b.k λzz h=>.inl h⟩
theorem Same.setO{n:Nat}{o o':AO}(h:K[n]?=some o)(h1:ke 0 o.tag=false\/n∈[kR])(h2:ke 1 o.tag=false):Same kD kR es K es (K.set n o'):=⟨rfl,.setO h h1 (.inl h2)⟩
theorem Same.np{s:Cps}{i:Int}{n:Nat}{o o':AO}(h:K[n]?=some o)(h1:ke 0 o.tag=false)(h2:ke 1 o.tag=false):Same kD kR es K (eC s (npF i) es) (K.set n o'):=⟨KS es,.setO h (.inl h1) (.inl h2)⟩
end
section
variable{n kO aO kD kR:Nat}{po nf:Int}{v:Nat}{rdy:List Cps}
section
variable{es:List Ent}{K:List AO}(S:SR kO aO kD kR po nf es v rdy K)
include S
theorem SR.setNp{e:Ent}(he:e∈es)(i:Int):SR kO aO kD kR po nf (eC e.nd.p (npF i) es) v rdy (K.set e.kn (.slots 68 e.km [.str e.nd.p,.int i,.loc e.ks])):=
 ⟨S.s.setNp he i,bm S.r (S.s.en e he).1 rfl,by erw[KS];exact S.n⟩
theorem SR.setR(l:List Cps):SR kO aO kD kR po nf es v l (K.set kR (.list (l.map AV.str))):=⟨S.s.off _ S.r S.n,eP S.r,S.n⟩
theorem SR.setF(uQ uq:Int):SR kO aO kD kR uQ uq es v rdy (K.set aO (.ns (nsO kD (.loc kR) uQ uq))):=⟨S.s.setF _ _ _,bm S.r S.s.ns rfl,S.n⟩
theorem SR.app(G:List AO):SR kO aO kD kR po nf es v rdy (K++G):=⟨S.s.app G,au S.r,S.n⟩
theorem D1{P:AV->List AO->Prop}(hr:rdy.length<=1000)(h:P (.bool (decide (nf<po)||!rdy.isEmpty)) K):Φ (n+1) 134 [.loc kO] K P:=by
 refine dP rfl rfl (ds:=[("self",.loc kO)]) rfl (vs:=[some (.loc kO),none,none,none,none,none,none,none,none]) rfl ?_;refine nA S.s.o S.s.ns rfl (sX rfl (b8 rfl (KI S.s.o S.s.ns (KH S.s.o S.s.ns (JL ?_)))));refine iV ?_;by_cases c:nf<po
 ·rw[decide_eq_true c] at h ⊢;exact cI rfl h
 ·rw[decide_eq_false c] at h ⊢;refine b8 rfl (nA S.s.o S.s.ns rfl (Ym S.r (okm hr (by decide)) ?_));erw[List.isEmpty_map];exact h
end
noncomputable def ia(N:List Nd)(s:Cps):List Nd:=bR s (npF (-1)) N
theorem zo(N:List Nd)(s:Cps){f:Nd->Nd}(hf:∀d,(f d).p=d.p):(bR s f N).map (·.p)=N.map (·.p):=by
 unfold bR;erw[ca];refine eq λd zz=>?_;show (if d.p=s then f d else d).p=d.p
 split
 ·exact hf d
 ·rfl
theorem zqc{R:Option Fl->PrS}{dy:List AV}{a0 a1:Option AV}{tl:Vs} :
  ∀(l:List Cps) (es:List Ent) (K:List AO) (a3:Option AV),SR kO aO kD kR po nf es v rdy K->(∀s∈l,s∈es.map (·.nd.p)) ->
   (∀a3 K' aD,SR kO aO kD kR po nf aD v rdy K'->aD.map (·.nd)=l.foldl ia (es.map (·.nd))->Same kD kR es K aD K'->R none (a0::a1::some (.loc kD)::a3::tl) K') ->
   foW (WA (Sy n) (.nm 3)) (WB (Sy n) (eh (nth i127.body 3))) (.fix dy) R (l.map AV.str) (a0::a1::some (.loc kD)::a3::tl) K:=λl=>by
 induction l with
 |nil=>exact λes K a3 S zz h=>eY trivial (h _ K es S rfl (.refl _ _ _ _))
 |cons s l ih=>
  intro es K a3 S hm h;refine e12 (bo.mp (hm s aG)) λe he aC=>?_;subst aC;have q:=S.s.en e he;refine fE trivial (qC S.s.d (wc S.s.pn he) (zg q.1 q.2.1 ?_));refine ih _ _ _ (S.setNp he (-1)) (λt ht=>by erw[D0];exact hm t (aL _ ht)) λa3 K' aD S' e g=>?_;exact h a3 K' aD S' (by erw[e,wb];rfl) (.trans (.np q.1 rfl rfl) g)
theorem z5m{es:List Ent}{K:List AO}{P:AV->List AO->Prop}(S:SR kO aO kD kR po nf es v rdy K)(hr:rdy.length<=1000)(hm:∀s∈rdy,s∈es.map (·.nd.p))(hp:-1000<=po/\po<=1000)
  (h:∀aD K',SR kO aO kD kR (po+rdy.length) nf aD v [] K'->aD.map (·.nd)=rdy.foldl ia (es.map (·.nd))->Same kD kR es K aD K'->P (.tup (rdy.map AV.str)) K'):Φ (n+1) 127 [.loc kO] K P:=by
 refine dP rfl rfl (ds:=[("self",.loc kO)]) rfl (vs:=[some (.loc kO),none,none,none,none,none,none,none,none,none,none,none]) rfl ?_;have ok:=okm (f:=AV.str) hr (by decide);refine nA S.s.o S.s.ns rfl (sX rfl (b8 rfl (nA S.s.o S.s.ns rfl (Dm S.r ok (s8 S.s.o S.s.ns (qE ok ?_))))));refine zqc rdy es K _ S hm λa3 K' aD S' e g=>?_;have S2:=S'.setR [];refine nA S'.s.o S'.s.ns rfl (ir S'.r (i:="list.clear") rfl (Yh S'.r ok (KH S2.s.o S2.s.ns (nv ok ?_))));erw[aK];refine yN (bJ (by lia) (by lia)) (yda S2.s.o S2.s.ns ?_);exact h aD _ (S2.setF _ _) e (g.trans (.trans (.setO S'.r (.inr aG) rfl) (.setO S2.s.ns (.inl rfl) rfl)))
end
noncomputable def mJ(t:Cps)(N:List Nd):Int:=(N.find? λd=>d.p==t).elim 1 (·.np)
noncomputable def lW(t:Cps)(N:List Nd):List Cps:=(N.find? λd=>d.p==t).elim [] (·.sc)
theorem KT{d:Nd}:∀{N:List Nd},(N.map (·.p)).Nodup->d∈N->N.find? (λe=>e.p==d.p)=some d:=λ{N}=>by
 induction N with
 |nil=>exact λzz hd=>nomatch hd
 |cons a l ih=>
  intro hn hd;rw[bX,fM] at hn;rw[zT];by_cases h:a.p=d.p
  ·rw[show (a.p==d.p)=true from beq_iff_eq.mpr h];exact (bu.mp hd).elim (λq=>q▸rfl) λq=>absurd (ft (f:=λe:Nd=>e.p) q) (h▸hn.1)
  ·rw[show (a.p==d.p)=false from beq_eq_false_iff_ne.mpr h];exact (bu.mp hd).elim (λq=>absurd (q▸rfl) h) (ih hn.2)
theorem zp{N:List Nd}(hn:(N.map (·.p)).Nodup){d:Nd}(hd:d∈N):mJ d.p N=d.np:=by unfold mJ;rw[KT hn hd];rfl
theorem KU{N:List Nd}(hn:(N.map (·.p)).Nodup){d:Nd}(hd:d∈N):lW d.p N=d.sc:=by unfold lW;rw[KT hn hd];rfl
noncomputable def iw(q:List Nd × List Cps)(t:Cps):List Nd × List Cps:=(bR t (cL (-1)) q.1,if mJ t (bR t (cL (-1)) q.1)=0 then q.2++[t] else q.2)
noncomputable def fG(q:List Nd × List Cps)(s:Cps):List Nd × List Cps:=(lW s q.1).foldl iw (bR s (npF (-2)) q.1,q.2)
theorem zt5{es:List Ent}{e:Ent}(he:e∈es)(f:Nd->Nd):({e with nd:=f e.nd}:Ent)∈eC e.nd.p f es:=bo.mpr ⟨e,he,if_pos rfl⟩
theorem D3(N:List Nd)(s:Cps){f:Nd->Nd}(hf:∀d,(f d).sc=d.sc):(bR s f N).map (·.sc)=N.map (·.sc):=by
 unfold bR;rw[ca];refine eq λd zz=>?_;show (if d.p=s then f d else d).sc=d.sc
 split
 ·exact hf d
 ·rfl
theorem zph:∀(l:List Cps) (q:List Nd × List Cps),(l.foldl iw q).1.map (·.p)=q.1.map (·.p)/\(l.foldl iw q).1.map (·.sc)=q.1.map (·.sc)/\(l.foldl iw q).2.length<=q.2.length+l.length:=λl=>by
 induction l with
 |nil=>exact λq=>⟨rfl,rfl,aq _⟩
 |cons t l ih=>
  intro q;have h:=ih (iw q t);refine ⟨h.1.trans (zo _ _ (f:=cL (-1)) λzz=>rfl),h.2.1.trans (D3 _ _ (f:=cL (-1)) λzz=>rfl),ah h.2.2 ?_⟩;unfold iw;dsimp only;rw[bC];split
  ·rw[bx,eR];exact aE (gC _ _ _)
  ·exact bk (aq _)
theorem D4(q:List Nd × List Cps)(s:Cps):(fG q s).1.map (·.p)=q.1.map (·.p)/\(fG q s).1.map (·.sc)=q.1.map (·.sc)/\(fG q s).2.length<=q.2.length+(lW s q.1).length :=
 have h:=zph (lW s q.1) (bR s (npF (-2)) q.1,q.2)
 ⟨h.1.trans (zo _ _ (f:=npF (-2)) λzz=>rfl),h.2.1.trans (D3 _ _ (f:=npF (-2)) λzz=>rfl),h.2.2⟩
theorem Bd.dec{b:Nat}{N:List Nd}(h:Bd b N)(s:Cps):Bd (b+1) (bR s (cL (-1)) N):=h.upd s (λd q=>⟨by show d.sc.length<=_;exact gE q.1,by show _<=d.np+-1;rw[zH,NQ];exact NO q.2.1 _,by show d.np+-1<=_;exact bH (NR _ (by decide)) (bH q.2.2 (iL (jD _)))⟩) (bK _ _)
theorem Bd.steps:∀(l:List Cps) (q:List Nd × List Cps) (b:Nat),Bd b q.1->Bd (b+l.length) (l.foldl iw q).1:=λl=>by
 induction l with
 |nil=>exact λq b h=>h
 |cons t l ih=>
  intro q b h;have:=ih (iw q t) (b+1) (h.dec t)
  rwa[qS,nF 1] at this
def okD:List Cps->List Nd × List Cps->Prop
 |[],_=>True
 |s::l,q=>s∈q.1.map (·.p)/\mJ s q.1=-1/\(∀t∈lW s q.1,t∈q.1.map (·.p))/\okD l (fG q s)
noncomputable abbrev KV:MB:=eh (nth i148.body 2)
noncomputable abbrev KW:MB:=eh (nth KV 4)
section
variable{n kO aO kD kR gA:Nat}{po:Int}{v:Nat}{a1:Option AV}{tl:Vs}
theorem z29{nf:Int}{xj:List Cps}{R:Option Fl->PrS}{a3 a4 a5:Option AV}(xg:gA≠kR) :
  ∀(l:List Cps) (es:List Ent) (rdy:List Cps) (K:List AO) (a6 a7:Option AV) (b:Nat),SR kO aO kD kR po nf es v rdy K->K[gA]?=some (.list (xj.map AV.str))->Bd b (es.map (·.nd))->b+l.length<=1000->rdy.length+l.length<=1000->(∀s∈l,s∈es.map (·.nd.p)) ->
   (∀a6 a7 K' aD kC,SR kO aO kD kR po nf aD v kC K'->(aD.map (·.nd),kC)=l.foldl iw (es.map (·.nd),rdy)->Same kD kR es K aD K'->R none (some (.loc kO)::a1::some (.loc kD)::a3::a4::a5::a6::a7::tl) K') ->
   foW (WA (Sy n) (.nm 6)) (WB (Sy n) KW) (.list gA (xj.map AV.str)) R (l.map AV.str) (some (.loc kO)::a1::some (.loc kD)::a3::a4::a5::a6::a7::tl) K:=λl=>by
 induction l with
 |nil=>exact λes rdy K a6 a7 b S h0 hb fD ku zz h=>eY h0 (h _ _ K es rdy S rfl (.refl _ _ _ _))
 |cons s l ih=>
  intro es rdy K a6 a7 b S h0 hb fD ku hm h;refine e12 (bo.mp (hm s aG)) λe he aC=>?_;subst aC;have q:=S.s.en e he;have uG:=hb _ (mI he);rw[bC] at fD ku;have S1:=S.setNp he (e.nd.np-1);have io:(eC e.nd.p (npF (e.nd.np-1)) es).map (·.nd)=bR e.nd.p (cL (-1)) (es.map (·.nd)):=(wb _ _ _).trans (KP (we S.s) (mI he) (-1));have gq:iw (es.map (·.nd),rdy) e.nd.p=((eC e.nd.p (npF (e.nd.np-1)) es).map (·.nd),if e.nd.np-1=0 then rdy++[e.nd.p] else rdy):=by
   unfold iw;rw[<- io,show mJ e.nd.p _=e.nd.np-1 from zp (we S1.s) (mI (zt5 he (npF (e.nd.np-1))))]
  have fin:∀ub K1,SR kO aO kD kR po nf (eC e.nd.p (npF (e.nd.np-1)) es) v ub K1->K1[gA]?=some (.list (xj.map AV.str))->ub=(if e.nd.np-1=0 then rdy++[e.nd.p] else rdy)->ub.length<=rdy.length+1->Same kD kR es K (eC e.nd.p (npF (e.nd.np-1)) es) K1 ->
    foW (WA (Sy n) (.nm 6)) (WB (Sy n) KW) (.list gA (xj.map AV.str)) R (l.map AV.str) (some (.loc kO)::a1::some (.loc kD)::a3::a4::a5::some (.str e.nd.p)::some (.loc e.kn)::tl) K1:=λub K1 S2 h1 hr Pg g=>
   ih _ ub K1 _ _ (b+1) S2 h1 (io▸hb.dec _) (ac1 fD) (lF ku Pg) (λt ht=>by rw[D0];exact hm t (aL _ ht)) λa6 a7 K' aD kC S' e' g'=>
    h a6 a7 K' aD kC S' (by rw[cB,gq,<- hr];exact e') (g.trans g')
  have g1:Same kD kR es K (eC e.nd.p (npF (e.nd.np-1)) es) _:=.np q.1 (o':=.slots 68 e.km [.str e.nd.p,.int (e.nd.np-1),.loc e.ks]) rfl rfl;have h1:=bm (c:=.slots 68 e.km [.str e.nd.p,.int (e.nd.np-1),.loc e.ks]) h0 q.1 rfl;refine fE h0 (qC S.s.d (wc S.s.pn he) (v9 q.1 q.2.1 (X2 (bJ (bH (by decide) (Int.sub_le_sub_right (bH (tG (iL (dR fD))) uG.2.1) 1)) (bH (NR _ (by decide)) (bH uG.2.2 (upI (dR fD) rfl)))) (zg q.1 q.2.1 (v9 (eP q.1) (bm q.2.1 q.1 rfl) (sY ?_))))));refine ifb (λc=>?_) (λc=>?_)
  ·refine nA S1.s.o S1.s.ns rfl (ir S1.r (i:="list.append") rfl (j0 S1.r (okm (k:=1000) (le2 (dR ku) rfl) (by decide)) ?_));have S2:=S1.setR (rdy++[e.nd.p]);rw[cf] at S2;exact fin _ _ S2 (c8 h1 xg) (if_pos (eq_of_beq c)).symm (aE (bx ..)) (g1.trans (.setO S1.r (.inr aG) rfl))
  ·exact fin _ _ S1 h1 (if_neg (λq=>by rw[q] at c;injection c)).symm (jD _) g1
theorem zty{R:Option Fl->PrS}{dy:List AV} :
  ∀(l:List Cps) (nf:Int) (es:List Ent) (rdy:List Cps) (K:List AO) (a3 a4 a5 a6 a7:Option AV) (b:Nat),SR kO aO kD kR po nf es v rdy K->Bd b (es.map (·.nd))->(∀x∈(es.map (·.nd)).map (·.sc),x.length<=50)->b+60*l.length<=900->rdy.length+50*l.length<=900->(-1000<=nf/\nf+l.length<=1000) ->
   okD l (es.map (·.nd),rdy) ->
   (∀vs K' aD kC,SR kO aO kD kR po (nf+l.length) aD v kC K'->(aD.map (·.nd),kC)=l.foldl fG (es.map (·.nd),rdy)->Same kD kR es K aD K'->R none vs K') ->
   foW (WA (Sy n) (.nm 3)) (WB (Sy n) KV) (.fix dy) R (l.map AV.str) (some (.loc kO)::a1::some (.loc kD)::a3::a4::a5::a6::a7::tl) K:=λl=>by
 induction l with
 |nil=>exact λnf es rdy K a3 a4 a5 a6 a7 b S hb mj fD ku pH zz h=>eY trivial (h _ K es rdy ((tE nf).symm▸S) rfl (.refl _ _ _ _))
 |cons s l ih=>
  intro nf es rdy K a3 a4 a5 a6 a7 b S hb mj fD ku pH cN h;have BA:=cN.1;rw[ca] at BA;refine e12 (bo.mp BA) λe he jG=>?_;have jG:e.nd.p=s:=jG;clear BA;subst jG;have q:=S.s.en e he;have QS:e.nd.np=-1:=(zp (we S.s) (mI he)).symm.trans cN.2.1;have Bx:=KU (we S.s) (mI he);have Gr:∀t∈lW e.nd.p (es.map (·.nd)),t∈(es.map (·.nd)).map (·.p):=cN.2.2.1;have Qm:okD l (fG (es.map (·.nd),rdy) e.nd.p):=cN.2.2.2;rw[Bx] at Gr;rw[bC] at fD ku pH;have et:e.nd.sc.length<=50:=mj _ (ft (f:=λd:Nd=>d.sc) (mI he));have S1:=S.setNp he (-2);have io:(eC e.nd.p (npF (-2)) es).map (·.nd)=bR e.nd.p (npF (-2)) (es.map (·.nd)):=wb _ _ _;have pY:Bd (b+2) (bR e.nd.p (npF (-2)) (es.map (·.nd))):=hb.upd _ (λd q=>⟨by show d.sc.length<=_;exact gE q.1,by show _<=(-2:Int);exact iT (lT (aq _) rfl),by show (-2:Int)<=_;exact dw _⟩) (bK _ _);have hd:fG (es.map (·.nd),rdy) e.nd.p=e.nd.sc.foldl iw (bR e.nd.p (npF (-2)) (es.map (·.nd)),rdy):=congrArg (Nt iw _) Bx;refine fE trivial (Dn S.s.d (i:="dict.get") rfl (JR S.s.d ?_));rw[wc S.s.pn he,Ew];refine sX rfl (b8 rfl (v9 q.1 q.2.1 (X4 ?_)));refine b8 (by rw[QS];rfl) (zg q.1 q.2.1 (DW (eP q.1) (bm q.2.1 q.1 rfl) (gT (bm q.2.2 q.1 rfl) (okm et (by decide)) ?_)));refine z29 (gA:=e.ks) (λq:e.ks=kR=>S.n (q▸ft (f:=λe:Ent=>e.ks) he)) e.nd.sc _ rdy _ _ _ (b+2) S1 (bm q.2.2 q.1 rfl) (io▸pY) (le2 (aF (aF (dR fD) (aq _)) et) rfl) (le2 (aF (dR ku) et) rfl) (λt ht=>by
   rw[D0];have:=Gr t ht
   rwa[ca] at this) λa6 a7 K2 xt GD S2 e2 g2=>?_
  rw[io,<- hd] at e2;have n4:xt.map (·.nd)=(fG (es.map (·.nd),rdy) e.nd.p).1:=congrArg EK e2;have Pb:GD=(fG (es.map (·.nd),rdy) e.nd.p).2:=congrArg EL e2;have kp:=D4 (es.map (·.nd),rdy) e.nd.p;refine KI S2.s.o S2.s.ns (yN (bJ (rc (NP (bH (dw _) pH.1) (dw _))) (bH (Int.add_le_add_left (iL (cr (bW l.length))) _) (bH pH.2 (by decide)))) (yei S2.s.o S2.s.ns ?_));refine ih (nf+1) xt GD _ _ _ _ _ _ (b+2+50) (S2.setF po (nf+1)) ?_ ?_ (by lia) ?_ (by lia) (e2▸Qm) λvs K3 Qn Rp S3 e3 g3=>?_
  ·rw[n4,hd];exact (Bd.steps e.nd.sc (bR e.nd.p (npF (-2)) (es.map (·.nd)),rdy) (b+2) pY).mono (fH et _)
  ·rw[n4,kp.2.1];exact mj
  ·have:=kp.2.2;rw[<- Pb,show lW e.nd.p (es.map (·.nd),rdy).1=e.nd.sc from Bx] at this;dsimp only at this;lia
  ·refine h vs K3 Qn Rp ?_ (by rw[e3,cB,e2]) (.trans (.np q.1 rfl rfl) (g2.trans (.trans (.setO S2.s.ns (.inl rfl) rfl) g3)));rw[show nf+((e.nd.p::l).length:Int)=nf+1+(l.length:Int) by rw[bC];lia];exact S3
theorem z6g{nf:Int}{es:List Ent}{rdy l:List Cps}{K:List AO}{P:AV->List AO->Prop}(S:SR kO aO kD kR po nf es v rdy K)(hl:l.length<=10)(hb:Bd 100 (es.map (·.nd)))(mj:∀x∈(es.map (·.nd)).map (·.sc),x.length<=50)(hr:rdy.length<=100)(pH:-100<=nf/\nf<=100)(cN:okD l (es.map (·.nd),rdy))
  (h:∀aD kC K',SR kO aO kD kR po (nf+l.length) aD v kC K'->(aD.map (·.nd),kC)=l.foldl fG (es.map (·.nd),rdy)->Same kD kR es K aD K'->P .none K'):Φ (n+1) 148 (.loc kO::l.map AV.str) K P:=by
 have ok:=okm (f:=AV.str) hl (by decide);refine dP rfl rfl (ds:=[("self",.loc kO),("nodes",.tup (l.map AV.str))]) ?_ (vs:=[some (.loc kO),some (.tup (l.map AV.str)),none,none,none,none,none,none,none,none,none,none,none,none,none,none]) rfl ?_
 ·show ogd (decide (1<=(l.map AV.str).length+1)&&okL ((l.map AV.str).length+1)) _=_;rw[decide_eq_true (zF ..),ce (by rw[aK];exact le2 (aF hl (aq _)) rfl)];rfl
 ·refine nA S.s.o S.s.ns rfl (sX rfl (b8 rfl (s8 S.s.o S.s.ns (qE ok ?_))));exact zty l nf es rdy K _ _ _ _ _ 100 S hb mj (le2 (aF (aq _) (fe _ hl)) rfl) (le2 (aF hr (fe _ hl)) rfl) (by lia) cN λvs K' aD kC S' e g=>h aD kC K' S' e g
end
section
variable{i d s t n m j:Nat}{P:Fl->PrS}{vs:Vs}{H:List AO}{l:List AV}(hn:H[n]?=some (.iter m j))(hl:H[m]?=some (.list l))
include hn hl
theorem z4d{w:AV}(hw:l[j]?=some w)(h:P .brk (dB vs i w) (H.set n (.iter m (j+1)))):CE i d s t P (.nxt n) vs H:=by
 show x9 H[n]? _;erw[hn];show d6 H[m]? _;erw[hl];show dite _ _ _;erw[dif_pos (ei.mp hw).1,(ei.mp hw).2];exact h
theorem z78(hj:¬ j<l.length)(h:x8 d s t vs (H.set n .dead) (kNx P)):CE i d s t P (.nxt n) vs H:=by
 show x9 H[n]? _;erw[hn];show d6 H[m]? _;erw[hl];show dite _ _ _;rw[dif_neg hj];exact h
end
structure SE where
 e:Ent
 ni:Nat
 j:Nat
structure DF(es:List Ent)(K:List AO)(b0 b1 b2 b3:Nat)(H:List AO)(st:List SE)(seen:List Cps):Prop where
 f:Fr [] K H
 b:b0≠b1/\K.length<=b0/\K.length<=b1/\K.length<=b2/\K.length<=b3
 g0:H[b0]?=some (.list (st.map λx=>.str x.e.nd.p))
 g1:H[b1]?=some (.list (st.map λx=>.nxt x.ni))
 g2:H[b2]?=some (.set seen)
 g3:∃m ve,H[b3]?=some (.dict m ve)/\m.map (·.1)=st.map (·.e.nd.p)
 en:∀x∈st,x.e∈es/\H[x.ni]?=some (.iter x.e.ks x.j)/\x.j<=x.e.nd.sc.length/\K.length<=x.ni
 nd:(st.map (·.ni)).Nodup
 dec:st.Pairwise (λx y=>y.e.nd.p.length<x.e.nd.p.length)
 sn:seen.Nodup
 ss:∀s∈seen,s∈es.map (·.nd.p)
 le:st.length<=seen.length
theorem Fr.hi{K H:List AO}{n:Nat}{o:AO}(F:Fr [] K H)(h:K.length<=n):Fr [] K (H.set n o):=λm o' hm e=>c8 (F m o' hm e) (b5 (dT (ltG e) h))
noncomputable def unS(es:List Ent)(seen:List Cps):Nat:=(es.map λe=>if e.nd.p∈seen then 0 else e.nd.sc.length).sum
noncomputable def muS(es:List Ent)(st:List SE)(seen:List Cps):Nat:=(st.map λx=>x.e.nd.sc.length-x.j).sum+unS es seen
theorem KY{m:List (Cps × AV)}{l:List Cps}{p:Cps}(h:m.map (·.1)=l++[p])(hp:p∉l):m.any (λx=>x.1==p)=true/\(m.filter λe=>!(e.1==p)).map (·.1)=l:=by
 refine e12 (bo.mp (by rw[h];exact md _ aG)) λx hx e=>?_;refine ⟨re.mpr ⟨x,hx,beq_iff_eq.mpr e⟩,?_⟩;have e:(m.filter λe=>!(e.1==p)).map (·.1)=(m.map (·.1)).filter λc=>!(c==p):=by erw[Ax];rfl
 rw[e,h,rA,Nw.mpr λc hc=>?_,gc (by erw[beq_self_eq_true];exact rz),Fz,c9];erw[show (c==p)=false from beq_eq_false_iff_ne.mpr λq=>hp (q▸hc)];rfl
theorem z3w{m:List (Cps × AV)}{l:List Cps}{p:Cps}(h:m.map (·.1)=l)(hp:p∉l):m.any (λx=>x.1==p)=false:=by
 cases q:m.any λx=>x.1==p
 ·rfl
 ·refine e12 (re.mp q) λx hx e=>?_;exact absurd (by erw[<- h,<- eq_of_beq e];exact ft (f:=λx:Cps × AV=>x.1) hx) hp
theorem zr{p:Cps}:∀{m:List (Cps × AV)},p∉m.map (·.1)->m.lookup p=none
 |[],_=>rfl
 |(a,b)::m,h=>by
  rw[bX,bu,not_or] at h;erw[dW,show (p==a)=false from beq_eq_false_iff_ne.mpr h.1];exact zr h.2
noncomputable abbrev KZ:MB:=eh (nth i155.body 5)
noncomputable abbrev K7:MB:=eh (nth KZ 1)
noncomputable abbrev ybe:MB:=eh (nth K7 1)
theorem z6i{b0 b1 b3:Nat}{H:List AO}{a b:List AV}{p:Cps}{x:AV}{m:List (Cps × AV)}{ve:Option Nat}{a0 a1 a4:Option AV}{tl:Vs}{P:PrS}(PC:b0≠b1)(h0:H[b0]?=some (.list (a++[.str p])))(h1:H[b1]?=some (.list (b++[x])))(h3:H[b3]?=some (.dict m ve))(ha:okL (a++[AV.str p]).length=true)(hb:okL (b++[x]).length=true)(hm:m.length<=1000)(hp:m.any (λx=>x.1==p)=true)
  (h:P (a0::a1::some (.loc b0)::some (.loc b1)::a4::some (.loc b3)::tl) (((H.set b0 (.list a)).set b3 (.dict (m.filter λe=>!(e.1==p)) none)).set b1 (.list b))) :
  x8 5 2 3 (a0::a1::some (.loc b0)::some (.loc b1)::a4::some (.loc b3)::tl) H P:=by
 refine fq h0 ⟨ha,cA FA (Ys (bm h3 h0 rfl) hp hm (fq (c8 (c8 h1 PC.symm) (k8 h1 h3 rfl)) ⟨hb,cA FA ?_⟩))⟩;erw[rD];show P _ (List.set _ _ (.list (b++[x]).dropLast));erw[rD];exact h
theorem zs{α:Type}(f:α->Nat)(l:List α)(x:α):((l++[x]).map f).sum=(l.map f).sum+f x:=by
 erw[cf,ND];exact congrArg _ (wu _)
theorem D5{l:List Cps}{es:List Ent}(h1:l.Nodup)(h2:∀s∈l,s∈es.map (·.nd.p)):l.length<=es.length:=by
 have:=h1.length_le_of_subset h2
 rwa[aK] at this
theorem wf{α:Type}(l:List α):l=[]\/∃a x,l=a++[x]:=(List.eq_nil_or_concat l).imp id λqq=>by refine e21 qq ?_;intro a x h;exact Hj a x (h.trans List.concat_eq_append)
theorem zt{α:Type}{Q:α->Prop}{l:List α}{x:α}(h1:∀y∈l,Q y)(h2:Q x):∀y∈l++[x],Q y:=λy hy=>(cU.mp hy).elim (h1 y) λhy=>bM.mp hy▸h2
section
variable{n kO aO kD b0 b1 b2 b3:Nat}{rd:AV}{po nf:Int}{es:List Ent}{v:Nat}{K:List AO}{a0 a1:Option AV}{tl:Vs}
theorem K8{R:Option Fl->PrS}{seen:List Cps}(S:Sor kO aO kD rd po nf es v K)(hz:es.length<=300)(hg:∀e∈es,e.nd.sc.length<=500/\∀t∈e.nd.sc,t∈es.map (·.nd.p)/\t.length<e.nd.p.length) :
  ∀(f:Nat) (st:List SE) (H:List AO) (a6:Option AV),DF es K b0 b1 b2 b3 H st seen->st.length<f ->
   (∀H',DF es K b0 b1 b2 b3 H' [] seen->R none (a0::a1::some (.loc b0)::some (.loc b1)::some (.loc b2)::some (.loc b3)::a6::tl) H') ->
   (∀t ee H',DF es K b0 b1 b2 b3 H' ee seen->t∈es.map (·.nd.p)->(∀x∈ee,t.length<x.e.nd.p.length)->muS es ee seen+1<=muS es st seen->R (some .brk) (a0::a1::some (.loc b0)::some (.loc b1)::some (.loc b2)::some (.loc b3)::some (.str t)::tl) H') ->
   whW (WT (Sy n) (.val (.var 2))) (WB (Sy n) ybe) R f (a0::a1::some (.loc b0)::some (.loc b1)::some (.loc b2)::some (.loc b3)::a6::tl) H:=λf=>by
 induction f with
 |zero=>exact λst H a6 D hf _ _=>absurd hf (qX _)
 |succ f ih=>
  intro st H a6 D hf F5 Gb;have et:=ah D.le (D5 D.sn D.ss);refine Dq (sW D.g0 (okm (ah et hz) (by decide)) ?_);rcases wf st with rfl|⟨a,x,rfl⟩
  ·exact b8 rfl (F5 H D)
  ·have he:(!((a++[x]).map λx=>AV.str x.e.nd.p).isEmpty)=true:=by erw[cf];induction a using bI<;>rfl
   have hx:=D.en x (md _ aG);have g0:=D.g0;have g1:=D.g1;rw[(cf ..)] at g0;rw[(cf ..)] at g1;refine cI he ⟨rfl,rfl,d7 g1 rfl (KE _ _) ?_⟩;refine e22 D.g3 λm ve m1 m2=>?_;rw[cf] at m2;have fh:=D.nd;rw[cf,jw] at fh;have xr:∀y∈a,y.ni≠x.ni:=λy hy=>fh.2.2 _ (ft (f:=λx:SE=>x.ni) hy) _ aG;have B5:=FB.mp D.dec;have aM:∀y∈a,x.e.nd.p.length<y.e.nd.p.length:=λy hy=>B5.2.2 y hy x aG;have rZ:=λy (hy:y∈a)=>D.en y (lh _ hy);by_cases hj:x.j<x.e.nd.sc.length
   ·have ht:=(hg x.e hx.1).2 _ (wL hj);refine z4d hx.2.1 (D.f _ _ eQ (S.en x.e hx.1).2.2) (w:=.str x.e.nd.sc[x.j]) (by erw[ga,eE hj];rfl) ?_;refine Gb _ (a++[⟨x.e,x.ni,x.j+1⟩]) _ ⟨D.f.hi hx.2.2.2,D.b,?_,?_,bm D.g2 hx.2.1 rfl,⟨m,ve,bm m1 hx.2.1 rfl,?_⟩,?_,?_,?_,D.sn,D.ss,?_⟩ ht.1 (zt (λy hy=>Fx ht.2 (aM y hy)) ht.2) ?_
    ·erw[cf];exact bm g0 hx.2.1 rfl
    ·erw[cf];exact bm g1 hx.2.1 rfl
    ·erw[cf];exact m2
    ·exact zt (λy hy=>⟨(rZ y hy).1,c8 (rZ y hy).2.1 (xr y hy),(rZ y hy).2.2⟩) ⟨hx.1,eP hx.2.1,hj,hx.2.2.2⟩
    ·erw[cf];exact jw.mpr fh
    ·exact FB.mpr ⟨B5.1,NS ..,λy hy z hz=>bM.mp hz▸aM y hy⟩
    ·have:=D.le;rw[bx] at this ⊢;exact this
    ·unfold muS;erw[zs,zs];show _+(x.e.nd.sc.length-(x.j+1))+_+1<=_+(x.e.nd.sc.length-x.j)+_;rw[show x.e.nd.sc.length-x.j=x.e.nd.sc.length-(x.j+1)+1 from (Nat.succ_pred_eq_of_pos (Aq hj)).symm];exact aE (gC ..)
   ·have FV:x.e.nd.p∉a.map (·.e.nd.p):=λq=>by
     refine e12 (bo.mp q) λy hy e=>?_;have h:=aM y hy;rw[show y.e.nd.p=x.e.nd.p from e] at h;exact lc _ h
    have pR:=congrArg b9 m2;rw[aK,bx,aK] at pR;rw[bx] at et hf;replace pR:m.length=a.length+1:=pR;replace et:a.length+1<=es.length:=et;replace hf:a.length+1<f+1:=hf;have h0:=bm (c:=.dead) g0 hx.2.1 rfl;have h1:=bm (c:=.dead) g1 hx.2.1 rfl;have h3:=bm (c:=.dead) m1 hx.2.1 rfl;have ok:∀(f:SE->AV) (z:AV),okL (a.map f++[z]).length=true:=λf z=>ce (by erw[bx,aK];exact ah et (ah hz (by decide)));refine z78 hx.2.1 (D.f _ _ eQ (S.en x.e hx.1).2.2) (by erw[aK];exact hj) (z6i D.b.1 h0 h1 h3 (ok _ _) (ok _ _) (le2 (ah (aE pR) (aF (ah (dR et) hz) (aq _))) rfl) (KY (p:=x.e.nd.p) (l:=a.map (·.e.nd.p)) m2 FV).1 ?_);refine ih a _ a6 ⟨(((D.f.hi hx.2.2.2).hi D.b.2.1).hi D.b.2.2.2.2).hi D.b.2.2.1,D.b,?_,eP (c8 (c8 h1 D.b.1.symm) (k8 h1 h3 rfl)),?_,⟨m.filter λe=>!(e.1==x.e.nd.p),none,?_,(KY (p:=x.e.nd.p) (l:=a.map (·.e.nd.p)) m2 FV).2⟩,λy hy=>?_,fh.1,B5.1,D.sn,D.ss,?_⟩ (tq hf) F5 λt ee G' h1 h2 h3 h4=>Gb t ee G' h1 h2 h3 (ah h4 ?_)
    ·exact c8 (c8 (eP h0) (k8 h0 h3 rfl)) D.b.1
    ·have h2:=bm (c:=.dead) D.g2 hx.2.1 rfl;exact c8 (c8 (c8 h2 (k8 h2 h0 rfl)) (k8 h2 h3 rfl)) (k8 h2 h1 rfl)
    ·exact c8 (eP (c8 h3 (k8 h3 h0 rfl))) (k8 h3 h1 rfl)
    ·have y2:=(rZ y hy).2.1;refine ⟨(rZ y hy).1,?_,(rZ y hy).2.2⟩;exact c8 (c8 (c8 (c8 y2 (xr y hy)) (k8 y2 g0 rfl)) (k8 y2 m1 rfl)) (k8 y2 g1 rfl)
    ·have:=D.le;rw[bx] at this;exact ah (jD _) this
    ·unfold muS;erw[zs];exact mL (bK _ _) _
end
theorem zv6{seen:List Cps}{e:Ent}(hs:e.nd.p∉seen):∀{es:List Ent},(es.map (·.nd.p)).Nodup->e∈es->unS es (seen++[e.nd.p])+e.nd.sc.length=unS es seen:=λ{es}=>by
 induction es with
 |nil=>exact λzz he=>nomatch he
 |cons a l ih=>
  intro hn he;rw[bX,fM] at hn;have hc:∀y:Ent,y.nd.p≠e.nd.p->(if y.nd.p∈seen++[e.nd.p] then 0 else y.nd.sc.length)=if y.nd.p∈seen then 0 else y.nd.sc.length:=λy h=>by
   by_cases c:y.nd.p∈seen
   ·erw[if_pos c,if_pos (lh _ c)]
   ·erw[if_neg c,if_neg λq=>(cU.mp q).elim c λq=>h (bM.mp q)]
  refine (bu.mp he).elim (λq=>?_) λq=>?_
  ·clear he;subst q;have e2:unS l (seen++[e.nd.p])=unS l seen:=congrArg List.sum (eq λy hy=>hc y λz=>hn.1 (z▸ft (f:=λe:Ent=>e.nd.p) hy));show (if e.nd.p∈seen++[e.nd.p] then 0 else e.nd.sc.length)+unS l (seen++[e.nd.p])+e.nd.sc.length=(if e.nd.p∈seen then 0 else e.nd.sc.length)+unS l seen
   erw[e2,if_pos (md _ aG),if_neg hs];exact (nF _ _).trans (congrArg _ (i0 _))
  ·have ih:=ih hn.2 q;show (if a.nd.p∈seen++[e.nd.p] then 0 else a.nd.sc.length)+unS l (seen++[e.nd.p])+e.nd.sc.length=(if a.nd.p∈seen then 0 else a.nd.sc.length)+unS l seen
   erw[hc a λz=>hn.1 (z▸ft (f:=λe:Ent=>e.nd.p) q)];exact (qS _ _ _).trans (congrArg _ ih)
theorem z5z(seen:List Cps):∀es:List Ent,unS es seen<=(es.map λe=>e.nd.sc.length).sum:=λes=>by
 induction es with
 |nil=>exact  aq _
 |cons a es ih=>
  have ih:=ih;show (if a.nd.p∈seen then 0 else a.nd.sc.length)+unS es seen<=a.nd.sc.length+(es.map λe=>e.nd.sc.length).sum
  split<;>(first|exact wD (ac2 ih)|exact fH ih _)
theorem yad{n:Nat}{l:List Cps}{s:Cps}{H:List AO}{P:AV->List AO->Prop}(hn:H[n]?=some (.set l))(k:l.length<=1000)(c:l.contains s=false)(h:P .none (H.set n (.set (l++[s])))):cE biT "set.add" [.loc n,.str s] H P :=
 Yj hn k (by erw[c];exact h)
section
variable{n kO aO kD b0 b1 b2 b3:Nat}{rd:AV}{po nf:Int}{es:List Ent}{v:Nat}{K:List AO}{a0:Option AV}{tl:Vs}
theorem z2v{R:Option Fl->PrS}(S:Sor kO aO kD rd po nf es v K)(hz:es.length<=300)(hg:∀e∈es,e.nd.sc.length<=500/\∀t∈e.nd.sc,t∈es.map (·.nd.p)/\t.length<e.nd.p.length)
  (hq:∀a6 H seen,DF es K b0 b1 b2 b3 H [] seen->R (some .brk) (a0::some (.loc kD)::some (.loc b0)::some (.loc b1)::some (.loc b2)::some (.loc b3)::a6::tl) H) :
  ∀(f:Nat) (st:List SE) (H:List AO) (seen:List Cps) (s:Cps),DF es K b0 b1 b2 b3 H st seen->s∈es.map (·.nd.p)->(∀x∈st,s.length<x.e.nd.p.length)->muS es st seen<f ->
   whW (WT (Sy n) (.val (.cst (.bool true)))) (WB (Sy n) K7) R f (a0::some (.loc kD)::some (.loc b0)::some (.loc b1)::some (.loc b2)::some (.loc b3)::some (.str s)::tl) H:=λf=>by
 induction f with
 |zero=>exact λst H seen s D zz zz xT=>absurd xT (qX _)
 |succ f ih=>
  intro st H seen s D hs aM xT;have rT:=D5 D.sn D.ss;have et:=ah D.le rT;refine e22 D.g3 λm ve m1 m2=>?_;have gq:s∉st.map (·.e.nd.p):=λq=>by
   refine e12 (bo.mp q) λy hy e=>?_;have h:=aM y hy;rw[show y.e.nd.p=s from e] at h;exact lc _ h
  refine Dq (iV (cI rfl (JM D.g2 ?_)));by_cases hc:s∈seen
  ·refine cI (zU.mpr hc) (X5 m1 (b8 (z3w m2 gq) ?_));exact K8 S hz hg 400 st H _ D (lT (ah et hz) rfl) (λH' D'=>hq _ H' seen D') λt ee H' D' h1 h2 h3=>ih ee H' seen t D' h1 h2 (ah h3 (dU xT))
  ·have c1:seen.contains s=false:=by
    cases h:seen.contains s
    ·rfl
    ·exact absurd (zU.mp h) hc
   refine e12 (bo.mp hs) λe he jG=>?_;replace jG:e.nd.p=s:=jG;subst jG;have q:=S.en e he;have F1:Fr [] K (H.set b2 (.set (seen++[e.nd.p]))):=D.f.hi D.b.2.2.2.1;have x1:=au (G:=[.iter e.ks 0]) (bm (c:=.set (seen++[e.nd.p])) D.g1 D.g2 rfl);have ok:∀f:SE->AV,okL (st.map f).length=true:=λf=>okm (ah et hz) (by decide);have pR:=congrArg b9 m2;rw[aK,aK] at pR;refine b8 c1 (Yo D.g2 (i:="set.add") rfl (yad D.g2 (le2 (ah rT hz) rfl) c1 (ir (bm D.g1 D.g2 rfl) (i:="list.append") rfl (qC (F1 _ _ eQ S.d) (wc S.pn he) (DW (F1 _ _ eQ q.1) (F1 _ _ eQ q.2.1) (Ya (F1 _ _ eQ q.2.2) (Yq aN (j0 x1 (ok _) ?_))))))));have y0:=λo=>c8 (c:=o) (au (G:=[.iter e.ks 0]) (bm (c:=.set (seen++[e.nd.p])) D.g0 D.g2 rfl)) D.b.1;have y3:=λo=>bm (c:=o) (au (G:=[.iter e.ks 0]) (bm (c:=.set (seen++[e.nd.p])) m1 D.g2 rfl)) x1 rfl;refine lS (y0 _) (ok _) ?_;erw[aK];refine yR (y3 _) (le2 (ah (aE pR) (ah et hz)) rfl) ?_;erw[(wd e.nd.p (.int (st.length:Int)) m (zr (by rw[m2];exact gq))).1,(wd e.nd.p (.int (st.length:Int)) m (zr (by rw[m2];exact gq))).2];have z0:=λo o'=>bm (c:=o') (y0 o) (y3 o) rfl;refine ir (z0 _ _) (i:="list.append") rfl (j0 (z0 _ _) (ok _) ?_);have e0:(st.map λx=>AV.str x.e.nd.p)++[.str e.nd.p]=(st++[(⟨e,(H.set b2 (.set (seen++[e.nd.p]))).length,0⟩:SE)]).map λx=>AV.str x.e.nd.p:=by erw[cf];rfl
   have e1:(st.map λx=>AV.nxt x.ni)++[.nxt (H.set b2 (.set (seen++[e.nd.p]))).length]=(st++[(⟨e,(H.set b2 (.set (seen++[e.nd.p]))).length,0⟩:SE)]).map λx=>AV.nxt x.ni:=by erw[cf];rfl
   erw[e0,e1];have D2:DF es K b0 b1 b2 b3 _ (st++[(⟨e,(H.set b2 (.set (seen++[e.nd.p]))).length,0⟩:SE)]) (seen++[e.nd.p]):=⟨(((Fr.trans F1 (.app _ _ _)).hi D.b.2.2.1).hi D.b.2.2.2.2).hi D.b.2.1,D.b,eP (z0 _ _),c8 (bm (eP x1) (y3 _) rfl) D.b.1.symm,bm (bm (bm (au (G:=[.iter e.ks 0]) (eP (o':=.set (seen++[e.nd.p])) D.g2)) x1 rfl) (y3 _) rfl) (z0 _ _) rfl,
    ⟨m++[(e.nd.p,.int (st.length:Int))],ve.map (·+1),bm (eP (y3 _)) (z0 _ _) rfl,by erw[cf,cf,m2];rfl⟩,
    zt (λy hy=>have w:=D.en y hy;⟨w.1,bm (bm (bm (au (bm w.2.1 D.g2 rfl)) x1 rfl) (y3 _) rfl) (z0 _ _) rfl,w.2.2⟩) ⟨he,bm (bm (bm aN x1 rfl) (y3 _) rfl) (z0 _ _) rfl,bW _,by erw[Aw];exact ah D.b.2.1 (bk (ltG D.g0))⟩,
    by
     erw[cf];refine zm D.nd λq=>?_;refine e12 (bo.mp q) ?_;intro y hy q;have:=ltG (D.en y hy).2.1;rw[show y.ni=_ from q,Aw] at this;exact lc _ this,
    FB.mpr ⟨D.dec,NS ..,λy hy z hz=>bM.mp hz▸aM y hy⟩,zm D.sn hc,zt D.ss hs,by
     erw[bx,bx];exact cr D.le⟩
   have OV:muS es (st++[(⟨e,(H.set b2 (.set (seen++[e.nd.p]))).length,0⟩:SE)]) (seen++[e.nd.p])<=muS es st seen:=by
    unfold muS;erw[zs];have:=zv6 hc S.pn he;show _+(e.nd.sc.length-0)+_<=_;exact ac3 (fH (ac2 (aE this)) _)
   have uH:=ah D2.le (D5 D2.sn D2.ss);exact K8 S hz hg 400 _ _ _ D2 (lT (ah uH hz) rfl) (λH' D'=>hq _ H' _ D') λt ee H' D' h1 h2 h3=>ih ee H' _ t D' h1 h2 (ah h3 (ah OV (dU xT)))
theorem z3z{R:Option Fl->PrS}(S:Sor kO aO kD rd po nf es v K)(hz:es.length<=300)(hg:∀e∈es,e.nd.sc.length<=500/\∀t∈e.nd.sc,t∈es.map (·.nd.p)/\t.length<e.nd.p.length)(ul:(es.map λe=>e.nd.sc.length).sum<=390)
  (h:∀vs H,Fr [] K H->R none vs H) :
  ∀(l:List Cps) (H:List AO) (seen:List Cps) (a6:Option AV),DF es K b0 b1 b2 b3 H [] seen->(∀s∈l,s∈es.map (·.nd.p)) ->
   foW (WA (Sy n) (.nm 6)) (WB (Sy n) KZ) (.keys kD (es.map k6) v) R (l.map AV.str) (a0::some (.loc kD)::some (.loc b0)::some (.loc b1)::some (.loc b2)::some (.loc b3)::a6::tl) H:=λl=>by
 induction l with
 |nil=>exact λH seen a6 D zz=>eY (D.f _ _ eQ S.d) (h _ H D.f)
 |cons s l ih=>
  intro H seen a6 D hm;refine fE (D.f _ _ eQ S.d) (JM D.g2 ?_);refine ifb (λc=>ih H seen _ D (λt ht=>hm t (aL _ ht))) λc=>?_;refine z2v S hz hg (λa6 H' QG D'=>ih H' QG a6 D' (λt ht=>hm t (aL _ ht))) 400 [] H seen s D (hm s aG) (λzz h=>nomatch h) ?_;show 0+unS es seen<400;have:=z5z seen es;exact lT (aF (aq _) (ah this ul)) rfl
theorem z8v{P:AV->List AO->Prop}(S:Sor kO aO kD rd po nf es v K)(hz:es.length<=300)(hg:∀e∈es,e.nd.sc.length<=500/\∀t∈e.nd.sc,t∈es.map (·.nd.p)/\t.length<e.nd.p.length)(ul:(es.map λe=>e.nd.sc.length).sum<=390)
  (h:∀G,P .none (K++G)):Φ (n+1) 155 [.loc kO] K P:=by
 refine dP rfl rfl (ds:=[("self",.loc kO)]) rfl (vs:=[some (.loc kO),none,none,none,none,none,none,none,none,none,none,none,none,none,none]) rfl ?_;refine s8 S.o S.ns ⟨jr,jr,Yn ?_⟩;refine Yt (au (au (au (au S.d)))) (ce (by erw[aK];exact le2 hz rfl)) ?_;have le:∀G:List AO,K.length<=(K++G).length:=λG=>by erw[bx];exact bK _ _
 have D:DF es K K.length (K++[AO.list []]).length (K++[AO.list []]++[AO.list []]).length (K++[AO.list []]++[AO.list []]++[AO.set []]).length (K++[AO.list []]++[AO.list []]++[AO.set []]++[.dict [] (some 0)]) [] [] :=
  ⟨(Fr.app _ _ _).trans ((Fr.app _ _ _).trans ((Fr.app _ _ _).trans (.app _ _ _))),⟨b5 (ltG aN),aq _,le _,by erw[bD];exact le _,by erw[bD,bD];exact le _⟩,au (au (au aN)),au (au aN),au aN,⟨[],_,aN,rfl⟩,(λzz h=>nomatch h),rC,.nil,rC,(λzz h=>nomatch h),aq _⟩
 have el:(es.map k6).map (λe=>AV.str e.1)=(es.map (·.nd.p)).map AV.str:=by erw[ca,ca];rfl
 show foW _ _ _ _ ((es.map k6).map λe=>AV.str e.1) _ _;erw[el];refine z3z S hz hg ul (λvs H F=>?_) (es.map (·.nd.p)) _ [] _ D λs h=>h;refine e11 (DU (K:=K) (G:=[]) (by erw[c9];exact F) λzz h=>absurd h eQ) λG aC=>?_;subst aC;exact h G
end
noncomputable def oR(l:List Ent):List Cps:=(l.filter λe=>decide (e.nd.np=0)).map (·.nd.p)
section
variable{n kO aO kD:Nat}{po nf:Int}{es:List Ent}{v:Nat}{K:List AO}{a0 a1:Option AV}{tl:Vs}
theorem z1h{rd:AV}(S:Sor kO aO kD rd po nf es v K) :
  ∀(l:List Ent) (a2:Option AV) (Q:List AV->PrS),(∀e∈l,e∈es)->(∀vs,Q ((oR l).map AV.str) vs K) ->
   lcW (WCO (Sy n) (.so (.cmp (.att (.var 2) "npredecessors") .Eq (.cst (.int 0))))) (WE (Sy n) (.att (.var 2) "node")) 2 (.vals kD (es.map k6) v) (l.map λe=>AV.loc e.kn) Q (a0::a1::a2::tl) K:=λl=>by
 induction l with
 |nil=>exact λa2 Q zz h=>gU S.d (h _)
 |cons e l ih=>
  intro a2 Q hl h;have q:=S.en e (hl e aG);refine fF S.d (v9 q.1 q.2.1 (sY ?_));unfold oR at h;refine ifb (λc=>?_) (λc=>?_)
  ·rw[iA (p:=λe:Ent=>decide (e.nd.np=0)) (decide_eq_true (eq_of_beq c))] at h;exact z6u q.1 q.2.1 (ih _ (lcD Q _) (λj hj=>hl j (aL _ hj)) h)
  ·rw[gc (p:=λe:Ent=>decide (e.nd.np=0)) (λd=>by rw[of_decide_eq_true d] at c;injection c)] at h;exact ih _ Q (λj hj=>hl j (aL _ hj)) h
theorem z7w{P:AV->List AO->Prop}(S:Sor kO aO kD .none po nf es v K)(hz:es.length<=300)(hg:∀e∈es,e.nd.sc.length<=500/\∀t∈e.nd.sc,t∈es.map (·.nd.p)/\t.length<e.nd.p.length)(ul:(es.map λe=>e.nd.sc.length).sum<=390)
  (h:∀kR K',SR kO aO kD kR po nf es v (oR es) K'->Keep kD [] K K'->K.length<=kR->P .none K'):Φ (n+2) 120 [.loc kO] K P:=by
 refine dP rfl rfl (ds:=[("self",.loc kO)]) rfl (vs:=[some (.loc kO),none,none,none,none,none,none,none,none,none]) rfl ?_;refine nA S.o S.ns rfl (Di rfl (b8 rfl (s8 S.o S.ns (Dn S.d (i:="dict.values") rfl (Yi S.d (Yu S.d (ce (by erw[aK];exact le2 hz rfl)) ⟨rfl,?_⟩))))));have el:(es.map k6).map (·.2)=es.map λe=>AV.loc e.kn:=by erw[ca];rfl
 show lcW _ _ _ _ ((es.map k6).map (·.2)) _ _ _;erw[el];refine z1h S es _ _ (λe h=>h) λzz=>?_;have S1:=S.app [.list ((oR es).map AV.str)];refine ycj S1.o S1.ns ?_;have S2:SR kO aO kD K.length po nf es v (oR es) ((K++[AO.list ((oR es).map AV.str)]).set aO (.ns (nsO kD (.loc K.length) po nf))):=
  ⟨S1.setF _ _ _,bm aN S1.ns rfl,λq=>by
   refine e12 (bo.mp q) ?_;intro e he q;exact b5 (ltG (S.en e he).2.2) q⟩
 refine m_o (f:=155) S2.s.o S2.s.ns (by kernel_rfl) (by kernel_rfl) (z8v S2.s hz hg ul λG=>?_);refine XW (b8 rfl ?_);exact h K.length _ (S2.app G) (((Keep.app kD [] K _).trans (ls':=[]) (.setO S1.ns (.inl rfl) (.inl rfl)) λq h=>.inl h).trans (Keep.app kD [] _ G) λq h=>.inl h) (aq _)
end
noncomputable def ups(x:List Cps):List (List Cps):=(ju x.length).map λk=>x.take k
theorem zms(m:Nat):ju (m+1)=(m+1)::ju m:=by
 unfold ju;erw[wz,bX,ca];exact congrArg _ (eq λj zz=>Nat.add_sub_add_right m 1 j)
theorem zyv(l:List Cps)(c:Cps):ups (l++[c])=(l++[c])::ups l:=by
 unfold ups;erw[bx,eR,zms,bX,l9 (by erw[bx];exact aq _)];refine congrArg _ (eq λk hk=>?_);refine e12 (bo.mp hk) λj hj aC=>?_;subst aC;exact Ms (gb _ _)
noncomputable def oU(ks:List Cps)(s:Cps):List Cps:=if s∈ks then ks else ks++[s]
noncomputable abbrev qL(ks:List Cps):List (Cps × AV):=ks.map λs=>(s,AV.int 0)
theorem zr5(s:Cps):∀ks:List Cps,b7 s (.int 0) (qL ks)=qL (oU ks s):=λks=>by
 induction ks with
 |nil=>exact  rfl
 |cons a ks ih=>
  show b7 s (.int 0) ((a,.int 0)::qL ks)=_;unfold b7 oU;by_cases h:a=s
  ·erw[if_pos h,if_pos (h▸aG),h];rfl
  ·erw[if_neg h,ih];unfold oU;by_cases h2:s∈ks
   ·erw[if_pos h2,if_pos (aL _ h2)];rfl
   ·erw[if_neg h2,if_neg λq=>(bu.mp q).elim (λq=>h q.symm) h2];rfl
theorem K9(ks:List Cps)(s:Cps):(oU ks s).length<=ks.length+1:=by
 unfold oU;split
 ·exact jD _
 ·exact aE (bx ..)
structure KL(ls:List Nat)(K K':List AO):Prop where
 li:∀m l,K[m]?=some (.list l)->m∉ls->K'[m]?=some (.list l)
 le:K.length<=K'.length
theorem Keep.kl{kD:Nat}{ls:List Nat}{K K':List AO}(h:Keep kD ls K K'):KL ls K K':=⟨h.li,h.le⟩
theorem KL.refl(ls:List Nat)(K:List AO):KL ls K K:=⟨λzz zz h zz=>h,aq _⟩
theorem KL.trans{ls ls':List Nat}{K K' fC:List AO}(a:KL ls K K')(b:KL ls' K' fC)(h:∀q∈ls',q∈ls\/K.length<=q):KL ls K fC :=
 ⟨λm l hm hn=>b.li m l (a.li m l hm hn) λq=>(h m q).elim hn λq=>bQ.mpr q (ltG hm),ah a.le b.le⟩
theorem KL.setO{ls:List Nat}{K:List AO}{n:Nat}{o o':AO}(h:K[n]?=some o)(h1:ke 0 o.tag=false\/n∈ls):KL ls K (K.set n o'):=
 ⟨λm l hm hn=>h1.elim (bm hm h) λq=>c8 hm λe=>hn (e▸q),aE (Aw ..).symm⟩
theorem KL.app(ls:List Nat)(K G:List AO):KL ls K (K++G):=⟨λzz zz h zz=>au h,by erw[bx];exact bK _ _⟩
structure GL(es:List Ent)(K:List AO)(aD:List Ent)(K':List AO):Prop where
 k:KL (es.map (·.ks)) K K'
 q:∀x∈aD.map (·.ks),x∈es.map (·.ks)\/K.length<=x
theorem Grow.gl{kD:Nat}{es aD:List Ent}{K K':List AO}(h:Grow kD es K aD K'):GL es K aD K':=⟨h.k.kl,h.q⟩
theorem GL.refl(es:List Ent)(K:List AO):GL es K es K:=⟨.refl _ _,λzz h=>.inl h⟩
theorem GL.trans{es aD n9:List Ent}{K K' fC:List AO}(a:GL es K aD K')(b:GL aD K' n9 fC):GL es K n9 fC:=⟨a.k.trans b.k a.q,λx h=>(b.q x h).elim (a.q x) λh=>.inr (ah a.k.le h)⟩
theorem GL.set{es:List Ent}{K:List AO}{n:Nat}{o o':AO}(h:K[n]?=some o)(h1:ke 0 o.tag=false):GL es K es (K.set n o'):=⟨.setO h (.inl h1),λzz h=>.inl h⟩
noncomputable def j4(N:List Nd)(x:List Cps):List Nd:=s9 (aA x.dropLast) (aA x) N
noncomputable def lX(ks:List Cps)(x:List Cps):List Cps:=oU ks (aA x)
theorem La(s:Cps)(N:List Nd):(gW s N).length<=N.length+1:=by
 unfold gW;split
 ·exact jD _
 ·exact aE (bx ..)
theorem Lb(s:Cps)(f:Nd->Nd)(N:List Nd):(bR s f N).length=N.length:=aK ..
theorem zv0(t s:Cps)(N:List Nd):(s9 t s N).length<=N.length+2:=by
 unfold s9;erw[Lb];have h1:=La s (bR t (cL 1) (gW t N));rw[Lb] at h1;exact ah h1 (cr (La t N))
theorem D6:∀(l:List (List Cps)) (N:List Nd) (b:Nat),Bd b N->(l.foldl j4 N).length<=N.length+2*l.length/\Bd (b+2*l.length) (l.foldl j4 N):=λl=>by
 induction l with
 |nil=>exact λN b h=>⟨aq _,h⟩
 |cons x l ih=>
  intro N b h;have ih:=ih (j4 N x) (b+2) (h.add _ _);have:(j4 N x).length<=N.length+2:=zv0 (aA x.dropLast) (aA x) N;erw[cB,bC,show b+2*(l.length+1)=b+2+2*l.length by exact jy (gC _ _ _)];exact ⟨by exact ah ih.1 (lC this (aE (gC _ _ _))),ih.2⟩
theorem Lc:∀(l:List (List Cps)) (ks:List Cps),(l.foldl lX ks).length<=ks.length+l.length:=λl=>by
 induction l with
 |nil=>exact λks=>aq _
 |cons x l ih=>
  intro ks;have h1:=ih (lX ks x);have h2:(lX ks x).length<=ks.length+1:=K9 ks (aA x);erw[cB,bC];exact lG h1 h2
theorem Ld(x:List Cps):(ups x).length=x.length:=by delta ups ju;erw[aK,aK,iy]
noncomputable def mK(x:List Cps):AV:=.tup [.str (aA x),.int (x.length:Int)]
noncomputable abbrev Lf:MB:=eh (nth i315.body 4)
noncomputable abbrev z9o:MB:=eh (nth Lf 0)
section
variable{n kO aO kD kW kA:Nat}{po nf:Int}{a0:Option AV}{tl:Vs}{R:Option Fl->PrS}
theorem z20{dy:List AV}{a4:Option AV}(jf:kW≠kD) :
  ∀(its:List AV) (x:List Cps) (es:List Ent) (v:Nat) (K:List AO) (ks:List Cps) (vW:Option Nat) (b:Nat) (a5 a6:Option AV),Fd x->its.length=x.length->Sor kO aO kD .none po nf es v K->K[kW]?=some (.dict (qL ks) vW)->Bd b (es.map (·.nd))->b+2*its.length<=400->es.length+2*its.length<=400->ks.length+its.length<=900 ->
   (∀K' aD v' iO a5 a6,Sor kO aO kD .none po nf aD v' K'->K'[kW]?=some (.dict (qL ((ups x).foldl lX ks)) iO)->aD.map (·.nd)=(ups x).foldl j4 (es.map (·.nd))->GL es K aD K'->R none (a0::some (.loc kO)::some (.loc kW)::some (.str [47])::a4::a5::a6::tl) K') ->
   foW (WA (Sy (n+3)) (.nm 5)) (WB (Sy (n+3)) z9o) (.fix dy) R its (a0::some (.loc kO)::some (.loc kW)::some (.str (aA x))::a4::a5::a6::tl) K:=λits=>by
 induction its with
 |nil=>
  intro x es v K ks vW b a5 a6 hx hl S hW hb fD m4 nZ h;cases l6.mp hl.symm;exact eY trivial (h K es v vW _ _ S hW rfl (.refl _ _))
 |cons a its ih=>
  intro x es v K ks vW b a5 a6 hx hl S hW hb fD m4 nZ h;rw[bC] at hl fD m4 nZ;rcases wf x with rfl|⟨l,c,rfl⟩
  ·injection hl
  rw[zyv] at h;have Gf:=hx.take l.length;rw[Fp] at Gf;refine fE trivial ?_;have hz:=hx.plen;exists J0 (le2 hz rfl);erw[DR l c hx.gd];refine m_o (f:=115) S.o S.ns (by kernel_rfl) (by kernel_rfl) ?_
  with_reducible refine z7r S (le2 (dR m4) rfl) (hb.mono (le2 (dR fD) rfl)) λil w1 K1 S1 N1 g1 l1=>?_
  have xo:=g1.k.di _ _ _ hW jf;refine Dr xo (by erw[aK];exact le2 (dR nZ) rfl) ?_;erw[zr5];have hp:=K9 ks (aA (l++[c]));have io:il.map (·.nd)=j4 (es.map (·.nd)) (l++[c]):=by erw[N1];unfold j4;erw[rD]
  refine ih l il w1 _ _ _ (b+2) _ _ Gf (NT (hl.trans (bx ..))) (S1.offD _ xo jf) (eP xo) (N1▸hb.add _ _) (ac1 fD) (lC l1 (ac1 m4)) (lF nZ hp) λK' aD v' iO a5 a6 S' w' e' g'=>?_;exact h K' aD v' iO a5 a6 S' w' (by erw[e',io];rfl) (g1.gl.trans (.trans (.set xo rfl) g'))
theorem ztk{Gk:List (List Cps)}(jf:kW≠kD) :
  ∀(rows:List (List Cps)) (es:List Ent) (v:Nat) (K:List AO) (ks:List Cps) (vW:Option Nat) (b:Nat) (a3 a4 a5 a6:Option AV),(∀x∈rows,Fd x/\x.length<=6)->Sor kO aO kD .none po nf es v K->K[kA]?=some (.list (Gk.map mK))->kA∉es.map (·.ks)->K[kW]?=some (.dict (qL ks) vW)->Bd b (es.map (·.nd))->b+12*rows.length<=380->es.length+12*rows.length<=380->ks.length+6*rows.length<=800 ->
   (∀K' aD v' iO a3 a4 a5 a6,Sor kO aO kD .none po nf aD v' K'->K'[kW]?=some (.dict (qL ((rows.flatMap ups).foldl lX ks)) iO)->aD.map (·.nd)=(rows.flatMap ups).foldl j4 (es.map (·.nd))->GL es K aD K'->R none (a0::some (.loc kO)::some (.loc kW)::a3::a4::a5::a6::tl) K') ->
   foW (WA (Sy (n+3)) (.tp [3,4])) (WB (Sy (n+3)) Lf) (.list kA (Gk.map mK)) R (rows.map mK) (a0::some (.loc kO)::some (.loc kW)::a3::a4::a5::a6::tl) K:=λrows=>by
 induction rows with
 |nil=>exact λes v K ks vW b a3 a4 a5 a6 hx S hA B3 hW hb fD m4 nZ h=>eY hA (h K es v vW _ _ _ _ S hW rfl (.refl _ _))
 |cons x rows ih=>
  intro es v K ks vW b a3 a4 a5 a6 hx S hA B3 hW hb fD m4 nZ h;have fx:=hx x aG;rw[bC] at fD m4 nZ;have hr:((bn x.length).map λ(j:Nat)=>AV.int (j:Int)).length=x.length:=by erw[aK,iy]
  refine fE hA (kQ (bJ ngI (upI fx.2 rfl)) (mH (le2 fx.2 rfl) ?_));refine z20 jf ((bn x.length).map λ(j:Nat)=>AV.int (j:Int)) x es v K ks vW b _ _ fx.1 hr S hW hb (by erw[hr];exact le2 (aF (dR fD) (fe _ fx.2)) rfl) (by erw[hr];exact le2 (aF (dR m4) (fe _ fx.2)) rfl) (by erw[hr];exact le2 (aF (dR nZ) fx.2) rfl) λK' aD v' iO a5 a6 S' w' e' g'=>?_;refine jq (b8 rfl ?_);have Hf:=Ld x;have hfk:=Lc (ups x) ks;have eU:aD.length<=es.length+12:=by
   have:=(D6 (ups x) (es.map (·.nd)) b hb).1;rw[<- e',aK,aK] at this;exact lD this (le2 (fe _ (ah (aE Hf) fx.2)) rfl)
  refine ih aD v' K' _ iO (b+12) _ _ _ _ (λy hy=>hx y (aL _ hy)) S' (g'.k.li _ _ hA B3) (λq=>(g'.q kA q).elim B3 λq=>bQ.mpr q (ltG hA)) w' (e'▸(D6 (ups x) (es.map (·.nd)) b hb).2.mono (fH (le2 (fe _ (ah (aE Hf) fx.2)) rfl) _)) (ac1 fD) (lC eU (ac1 m4)) (by lia) λK2 xt v2 Ow a3 a4 a5 a6 S2 w2 e2 g2=>?_;rw[NU,wM,wM] at h;exact h K2 xt v2 Ow a3 a4 a5 a6 S2 w2 (by erw[e2,e']) (g'.trans g2)
end
noncomputable abbrev wg(ks:List Cps)(g:Cps->Nat):List (Cps × AV):=ks.map λs=>(s,aT (g s))
theorem D7{g:Cps->Nat}{s:Cps}:∀{ks:List Cps},s∈ks->(wg ks g).lookup s=some (aT (g s))
 |a::ks,h=>by
  show ((a,aT (g a))::wg ks g).lookup s=_;erw[dW];by_cases e:s=a
  ·clear h;subst e;erw[beq_self_eq_true]
  ·erw[show (s==a)=false from beq_eq_false_iff_ne.mpr e];exact D7 ((bu.mp h).resolve_left e)
theorem Lg{g:Cps->Nat}{s:Cps}(k:Nat):∀{ks:List Cps},s∈ks->ks.Nodup->b7 s (aT k) (wg ks g)=wg ks λt=>if t=s then k else g t
 |a::ks,h,hn=>by
  rw[fM] at hn;show b7 s (aT k) ((a,aT (g a))::wg ks g)=(a,aT (if a=s then k else g a))::wg ks _
  unfold b7;by_cases e:a=s
  ·erw[if_pos e,if_pos e,e];refine congrArg _ (eq λt ht=>?_);show (t,aT (g t))=(t,aT (if t=s then k else g t))
   erw[if_neg λq:t=s=>hn.1 (by erw[e,<- q];exact ht)]
  ·erw[if_neg e,if_neg e,Lg k ((bu.mp h).resolve_left (bV e)) hn.2]
noncomputable def j5(g:Cps->Nat)(s:Cps):Cps->Nat:=if s=[47] then g else λt=>if t=iu s then g (iu s) ^^^ (g s+1) else g t
def okW(ks:List Cps):List Cps->(Cps->Nat)->Prop
 |[],_=>True
 |s::l,g=>s.length<=1000/\(s≠[47]->s∈ks/\iu s∈ks/\g s<15/\g (iu s)<16)/\okW ks l (j5 g s)
noncomputable abbrev k9(g:List Cps):AV:=.tup (g.map AV.str)
noncomputable abbrev Lh:MB:=eh (nth i315.body 7)
noncomputable abbrev z7v:MB:=eh (nth Lh 3)
section
variable{n kO aO kD kR kW:Nat}{po nf:Int}{v:Nat}{ks:List Cps}
theorem SR.offD{es:List Ent}{rdy:List Cps}{K:List AO}(S:SR kO aO kD kR po nf es v rdy K){m:Nat}(o:AO){l:List (Cps × AV)}{w:Option Nat}(h:K[m]?=some (.dict l w))(h2:m≠kD):SR kO aO kD kR po nf es v rdy (K.set m o):=⟨S.s.offD o h h2,bm S.r h rfl,S.n⟩
theorem SR.offL{es:List Ent}{rdy:List Cps}{K:List AO}(S:SR kO aO kD kR po nf es v rdy K){m:Nat}(o:AO){l:List AV}(h:K[m]?=some (.list l))(h2:m∉es.map (·.ks))(h3:m≠kR):SR kO aO kD kR po nf es v rdy (K.set m o):=⟨S.s.off o h h2,c8 S.r h3.symm,S.n⟩
theorem zp4{es:List Ent}{rdy:List Cps}{dy:List AV}{R:Option Fl->PrS}{a0 a1 a4 a5:Option AV}{tl:Vs}(mu:ks.Nodup)(uB:ks.length<=900)(jf:kW≠kD) :
  ∀(l:List Cps) (g:Cps->Nat) (K:List AO) (vW:Option Nat) (a3 a6:Option AV),SR kO aO kD kR po nf es v rdy K->K[kW]?=some (.dict (wg ks g) vW)->okW ks l g ->
   (∀K' iO a3 a6,SR kO aO kD kR po nf es v rdy K'->K'[kW]?=some (.dict (wg ks (l.foldl j5 g)) iO)->KL [] K K'->R none (a0::a1::some (.loc kW)::a3::a4::a5::a6::tl) K') ->
   foW (WA (Sy (n+3)) (.nm 3)) (WB (Sy (n+3)) z7v) (.fix dy) R (l.map AV.str) (a0::a1::some (.loc kW)::a3::a4::a5::a6::tl) K:=λl=>by
 induction l with
 |nil=>exact λg K vW a3 a6 S hW cN h=>eY trivial (h K vW _ _ S hW (.refl _ _))
 |cons s l ih=>
  intro g K vW a3 a6 S hW cN h;have o3:=cN.2.2;refine fE trivial (jq ?_);by_cases c:s=[47]
  ·have hg:j5 g s=g:=if_pos c;rw[hg] at o3;rw[cB,hg] at h;exact b8 (by erw[c];rfl) (ih g K vW _ _ S hW o3 h)
  ·have q:=cN.2.1 c;have hg:j5 g s=λt=>if t=iu s then g (iu s) ^^^ (g s+1) else g t:=if_neg c
   have hz:=cN.1;refine cI (by erw[beq_eq_false_iff_ne.mpr c];rfl) ?_;exists J0 (le2 hz rfl);exists J1 hW (D7 q.2.1);exists J1 hW (D7 q.1);exists YA (bJ (by lia) (by lia));exists YB;have e5:wy (g (iu s):Int) ((g s:Int)+1)=((g (iu s) ^^^ (g s+1):Nat):Int):=ZR (g (iu s)) q.2.2.2 (g s+1) (Nat.succ_lt_succ q.2.2.1);erw[e5]
   with_reducible refine Dr hW (by erw[aK];exact le2 uB rfl) ?_
   erw[show AV.int ((g (iu s) ^^^ (g s+1):Nat):Int)=aT (g (iu s) ^^^ (g s+1)) from rfl,Lg _ q.2.1 mu,<- hg];exact ih (j5 g s) _ _ _ _ (S.offD _ hW jf) (eP hW) o3 λK' iO a3 a6 S' w' k'=>h K' iO a3 a6 S' w' (.trans (.setO hW (.inl rfl)) k' λq h=>.inl h)
structure TS where
 N:List Nd
 rdy:List Cps
 g:Cps->Nat
 rs:List (List Cps)
noncomputable def zu(s:TS):TS:=⟨(s.rdy.foldl fG (s.rdy.foldl ia s.N,[])).1,(s.rdy.foldl fG (s.rdy.foldl ia s.N,[])).2,s.rdy.foldl j5 s.g,s.rs++[s.rdy]⟩
structure TOk(ks:List Cps)(s:TS):Prop where
 ne:s.rdy≠[]
 le:s.rdy.length<=10
 mem:∀x∈s.rdy,x∈s.N.map (·.p)
 bd:Bd 90 s.N
 sc:∀x∈s.N.map (·.sc),x.length<=50
 d:okD s.rdy (s.rdy.foldl ia s.N,[])
 w:okW ks s.rdy s.g
theorem Li:∀(l:List Cps) (N:List Nd),(l.foldl ia N).map (·.p)=N.map (·.p)/\(l.foldl ia N).map (·.sc)=N.map (·.sc)/\∀b:Nat,1<=b->Bd b N->Bd b (l.foldl ia N):=λl=>by
 induction l with
 |nil=>exact λN=>⟨rfl,rfl,λzz zz h=>h⟩
 |cons s l ih=>
  intro N;have ih:=ih (ia N s);exact ⟨ih.1.trans (zo _ _ (f:=npF (-1)) λzz=>rfl),ih.2.1.trans (D3 _ _ (f:=npF (-1)) λzz=>rfl),λb hb h=>ih.2.2 b hb (h.upd _ (λd q=>⟨q.1,by show -(b:Int)<=-1;exact tG (iL hb),by show (-1:Int)<=b;exact dw _⟩) (aq _))⟩
theorem z2z:∀(l:List Cps) (q:List Nd × List Cps),(l.foldl fG q).1.map (·.p)=q.1.map (·.p)/\(l.foldl fG q).1.map (·.sc)=q.1.map (·.sc):=λl=>by
 induction l with
 |nil=>exact λq=>⟨rfl,rfl⟩
 |cons s l ih=>exact λq=>have ih:=ih (fG q s);⟨ih.1.trans (D4 q s).1,ih.2.trans (D4 q s).2.1⟩
theorem D8{p:Int}:decide (p<p)=false:=decide_eq_false (Int.lt_irrefl p)
theorem zrz{T:Nat->TS}{H kL:Nat}{dy:List AV}{R:Option Fl->PrS}{a0:Option AV}{tl:Vs}(mu:ks.Nodup)(uB:ks.length<=900)(jf:kW≠kD)(BI:kL≠kR)(hH:H<=7)(hT:∀h,h<H->TOk ks (T h)/\T (h+1)=zu (T h))(hE:(T H).rdy=[]) :
  ∀(its:List AV) (h:Nat) (p:Int) (es:List Ent) (K:List AO) (vW:Option Nat) (a3 a4 a5 a6 a8 a9:Option AV),h<=H->its.length+h=8->0<=p/\p<=10*(h:Int)->SR kO aO kD kR p p es v (T h).rdy K->es.map (·.nd)=(T h).N->K[kW]?=some (.dict (wg ks (T h).g) vW)->K[kL]?=some (.list ((T h).rs.map k9))->(T h).rs.length=h->kL∉es.map (·.ks) ->
   (∀K' aD iO p' a3 a4 a5 a6 a8 a9,SR kO aO kD kR p' p' aD v [] K'->K'[kW]?=some (.dict (wg ks (T H).g) iO)->K'[kL]?=some (.list ((T H).rs.map k9))->KL [kR,kL] K K'->R (some .brk) (a0::some (.loc kO)::some (.loc kW)::a3::a4::a5::a6::some (.loc kL)::a8::a9::tl) K') ->
   foW (WA (Sy (n+3)) (.nm 8)) (WB (Sy (n+3)) Lh) (.fix dy) R its (a0::some (.loc kO)::some (.loc kW)::a3::a4::a5::a6::some (.loc kL)::a8::a9::tl) K:=λits=>by
 induction its with
 |nil=>
  intro h p es K vW a3 a4 a5 a6 a8 a9 hh hi hp S hN hW hL ku GS hq;rw[fu] at hi;exfalso;exact gF (aE hi.symm) (fJ (ah (ac2 hh) hH) (ah (bL rfl) (aE hi.symm)))
 |cons a its ih=>
  intro h p es K vW a3 a4 a5 a6 a8 a9 hh hi hp S hN hW hL ku GS hq;rw[bC] at hi;refine fE trivial (m_o (f:=134) S.s.o S.s.ns (by kernel_rfl) (by kernel_rfl) ?_);by_cases aM:h<H
  ·have ok:=(hT h aM).1;have xO:=(hT h aM).2;have le:=ok.le;exists D1 S (le2 le rfl);refine iV (b8 (by erw[D8,show (T h).rdy.isEmpty=false from List.isEmpty_eq_false_iff.mpr ok.ne];rfl) ?_);refine m_o (f:=127) S.s.o S.s.ns (by kernel_rfl) (by kernel_rfl) ?_;have hm:∀s∈(T h).rdy,s∈es.map (·.nd.p):=λs hs=>by
    have:=ok.mem s hs;rw[<- hN,ca] at this;exact this
   with_reducible refine z5m S (le2 le rfl) hm ⟨by exact bH (dw _) hp.1,by exact bH hp.2 (iL (le2 (fe _ (dL (aE hi))) rfl))⟩ λil K1 S1 N1 g1=>?_
   have L1:=g1.k.li _ _ hL λq=>BI (bM.mp q);have Gw:kL∉il.map (·.ks):=g1.e.symm▸GS;refine ir L1 (i:="list.append") rfl (j0 L1 (okm (k:=8) (le2 (ah (aE ku) (dL (aE hi))) rfl) (by decide)) (qE (okm (f:=AV.str) le (by decide)) ?_));refine zp4 mu uB jf (T h).rdy (T h).g _ vW _ _ (S1.offL _ L1 Gw BI) (bm (g1.k.di _ _ _ hW jf) L1 rfl) ok.w λK3 O7 a3 a6 S3 w3 k3=>?_;have io:il.map (·.nd)=(T h).rdy.foldl ia (T h).N:=by erw[N1,hN]
   refine m_o (f:=148) S3.s.o S3.s.ns (by kernel_rfl) (by kernel_rfl) ⟨148,rfl,(okm (f:=AV.str) le (by decide)),?_⟩;refine z6g S3 le (io▸((Li (T h).rdy (T h).N).2.2 90 (by decide) ok.bd).mono (by decide)) (by erw[io,(Li (T h).rdy (T h).N).2.1];exact ok.sc) (bW _) ⟨by exact bH (dw _) hp.1,by exact bH hp.2 (iL (le2 (fe _ (dL (aE hi))) rfl))⟩ (io▸ok.d) λse Qp K4 S4 N4 g4=>?_;rw[io] at N4;have e2:Qp=(T (h+1)).rdy:=xO▸congrArg EL N4;have F6:(T (h+1)).rs=(T h).rs++[(T h).rdy]:=by erw[xO];rfl
   have OJ:(T (h+1)).g=(T h).rdy.foldl j5 (T h).g:=by erw[xO];rfl
   rw[e2] at S4;refine ih (h+1) (p+(T h).rdy.length) se K4 O7 _ _ _ _ _ _ aM (jy (tj hi.symm (gC _ _ _))) ⟨by exact Fm hp.1 (dw _),by lia⟩ S4 (xO▸congrArg EK N4) (OJ▸g4.k.di _ _ _ w3 jf) ?_ (by erw[F6,bx,ku];rfl) (g4.e.symm▸Gw) λK' aD iO p' a3 a4 a5 a6 a8 a9 S' w' l' k'=>?_
   ·erw[F6,cf];exact g4.k.li _ _ (k3.li _ _ (eP L1) eQ) λq=>BI (bM.mp q)
   ·refine hq K' aD iO p' _ _ _ _ _ _ S' w' l' (((((g1.k.mono (ls':=[kR,kL]) λq h=>bM.mp h▸aG).kl.trans (ls':=[kL]) (.setO L1 (.inr aG)) λq h=>.inl (aL _ h)).trans k3 λq h=>absurd h eQ).trans (g4.k.mono (ls':=[kR,kL]) λq h=>bM.mp h▸aG).kl λq h=>.inl h).trans k' λq h=>.inl h)
  ·cases fJ hh (bQ.mp aM);rw[hE] at S;exists D1 S (bW _);refine iV (cI (by erw[D8];rfl) ?_);exact hq K es vW p _ _ _ _ _ _ S hW hL (.refl _ _)
end
noncomputable def qM(N:List Nd):List Cps:=(N.filter λd=>decide (d.np=0)).map (·.p)
theorem z6y(es:List Ent):oR es=qM (es.map (·.nd)):=by
 delta oR qM;erw[Ax,ca];rfl
noncomputable def N0(rows:List (List Cps)):List Nd:=(rows.flatMap ups).foldl j4 [⟨[47],0,[]⟩]
noncomputable def gA(rows:List (List Cps)):List Cps:=(rows.flatMap ups).foldl lX [[47]]
noncomputable def T0s(rows:List (List Cps)):TS:=⟨N0 rows,qM (N0 rows),λzz=>0,[]⟩
structure Lj(rows:List (List Cps))(T:Nat->TS)(H:Nat):Prop where
 fd:∀x∈rows,Fd x/\x.length<=6
 le:rows.length<=6
 sc:∀d∈N0 rows,d.sc.length<=50/\∀t∈d.sc,t∈(N0 rows).map (·.p)/\t.length<d.p.length
 tot:((N0 rows).map λd=>d.sc.length).sum<=390
 ks:(gA rows).Nodup
 z:T 0=T0s rows
 H7:H<=7
 t:∀h,h<H->TOk (gA rows) (T h)/\T (h+1)=zu (T h)
 e:(T H).rdy=[]
theorem Lk:∀(rows:List (List Cps)),(∀x∈rows,Fd x/\x.length<=6)->(rows.flatMap ups).length<=6*rows.length:=λrows=>by
 induction rows with
 |nil=>exact λzz=>aq _
 |cons x rows ih=>
  intro h;erw[NU,bx,bC,Ld];have h1:=(h x aG).2;have h2:=ih λy hy=>h y (aL _ hy);exact ac2 (aF h2 h1)
theorem GL.app(es:List Ent)(K G:List AO):GL es K es (K++G):=⟨.app _ _ _,λzz h=>.inl h⟩
theorem GL.not{es:List Ent}{K K':List AO}{k:Nat}{a:AO}(g:GL [] K es K')(h:K[k]?=some a):k∉es.map (·.ks):=λq=>(g.q k q).elim eQ λq=>bQ.mpr q (ltG h)
theorem z8f{n kA H:Nat}{rows:List (List Cps)}{T:Nat->TS}{K:List AO}{P:AV->List AO->Prop}(R:Lj rows T H)(hA:K[kA]?=some (.list (rows.map mK)))
  (h:∀kL kW vW K',K'[kL]?=some (.list ((T H).rs.map k9))->K'[kW]?=some (.dict (wg (gA rows) (T H).g) vW)->KL [] K K'->K.length<=kL->K.length<=kW->P (.tup [.loc kL,.loc kW,.bool false]) K'):Φ (n+4) 315 [.loc kA] K P:=by
 have on:=R.le;have hn:Bd 400 (([]:List Ent).map (·.nd)):=λzz h=>absurd h eQ;have S0:Sor (K.length+1) K.length (K.length+2) .none 0 0 [] 0 (K++[.ns (nsO (K.length+2) .none 0 0),.inst 165 K.length,.dict [] (some 0)]):=⟨k0 (i:=1) rfl,nB,k0 (i:=2) rfl,(λzz h=>nomatch h),rC,rC⟩;refine dP rfl rfl (ds:=[("rows",.loc kA)]) rfl (vs:=[some (.loc kA),none,none,none,none,none,none,none,none,none,none,none,none,none,none,none,none,none]) rfl ?_;exists z5i;refine m_o (f:=115) S0.o S0.ns (by kernel_rfl) (by kernel_rfl) ?_
 with_reducible refine z1b S0 (bW _) hn λil v1 K1 S1 N1 g1 zz=>?_
 exists Dr aN (bW _);erw[Du];have G1:GL [] K il K1:=.trans (.app [] K _) g1.gl;have G3:=G1.trans (.app il K1 [.dict (b7 [47] (.int 0) []) (if ([]:List (Cps × AV)).any (λx=>x.1==[47]) then some 0 else (some 0).map (·+1))])
 have jf:K1.length≠K.length+2:=gF (ltG S1.d);have io:il.map (·.nd)=[⟨[47],0,[]⟩]:=N1;have xA:il.length=1:=by erw[<- aK (f:=λe:Ent=>e.nd),io];rfl
 have xI:Bd 0 ([⟨[47],0,[]⟩]:List Nd):=λd hd=>bM.mp hd▸⟨aq _,tB _,tB _⟩;refine gT (G3.k.li _ _ hA eQ) (okm on (by decide)) ?_;refine ztk jf rows il v1 _ [[47]] _ 0 _ _ _ _ R.fd (S1.app [.dict (b7 [47] (.int 0) []) (if ([]:List (Cps × AV)).any (λx=>x.1==[47]) then some 0 else (some 0).map (·+1))]) (G3.k.li _ _ hA eQ) (G3.not hA) aN (io▸xI) (le2 (aF (aq _) (fe _ on)) rfl) (le2 (aF (aE xA) (fe _ on)) rfl) (by show 1+_<=_;exact le2 (aF (aq _) (fe _ on)) rfl) λK4 se v4 Rz a3 a4 a5 a6 S4 w4 e4 g4=>?_
 have G4:=G3.trans g4;replace e4:se.map (·.nd)=N0 rows:=by erw[e4,io];rfl
 have h2:=Lk rows R.fd;have l4:se.length<=300:=by
  have h1:=(D6 (rows.flatMap ups) [⟨[47],0,[]⟩] 0 xI).1;have h3:se.length=((rows.flatMap ups).foldl j4 [⟨[47],0,[]⟩]).length:=by erw[<- aK (f:=λe:Ent=>e.nd),e4];rfl
  rw[eR] at h1;exact le2 (ah (aE h3) (ah h1 (aF (aq _) (fe _ (ah h2 (fe _ on)))))) rfl
 refine m_o (f:=120) S4.o S4.ns (by kernel_rfl) (by kernel_rfl) ?_
 with_reducible refine z7w S4 l4 ?_ ?_ λkR K5 S5 c5 Pn=>?_
 ·intro e he;have h:=R.sc e.nd (e4▸mI he);refine ⟨ah h.1 (by decide),λt ht=>?_⟩;have h2:=h.2 t ht;rw[<- e4,ca] at h2;exact h2
 ·have h:=R.tot;rw[<- e4,ca] at h;exact h
 refine ⟨jr,?_⟩;exists kQ rfl;refine mH (m:=8) (by decide) ?_;have uB:(gA rows).length<=900:=by
  have h1:=Lc (rows.flatMap ups) [[47]];rw[eR] at h1;unfold gA;exact le2 (ah h1 (aF (aq _) (ah h2 (fe _ on)))) rfl
 have S6:=S5.app [.list []];have z1:(T 0).rdy=qM (N0 rows):=by erw[R.z];rfl
 have z2:(T 0).N=N0 rows:=by erw[R.z];rfl
 have z3:(T 0).g=λzz=>0:=by erw[R.z];rfl
 have z4:(T 0).rs=[]:=by erw[R.z];rfl
 rw[z6y,e4,<- z1] at S6;refine zrz R.ks uB jf (gF (ltG S5.r)) R.H7 R.t R.e ((bn 8).map λ(j:Nat)=>AV.int (j:Int)) 0 0 se _ Rz _ _ _ _ _ _ (bW _) (by erw[aK,iy]) ⟨tB _,tB _⟩ S6 (e4.trans z2.symm) (by erw[z3];exact au (c5.di _ _ _ w4 jf)) (by erw[z4];exact aN) (by erw[z4];rfl) (λq=>?_) λK6 es6 vW6 p' a3 a4 a5 a6 a8 a9 S7 w7 l7 k7=>?_
 ·refine e12 (bo.mp q) ?_;intro e he q;exact b5 (ltG (S5.s.en e he).2.2) q
 ·refine m_o (f:=134) S7.s.o S7.s.ns (by kernel_rfl) (by kernel_rfl) ?_;exists D1 S7 (bW _);erw[D8];have c6:KL [] K K5:=KL.trans G4.k c5.kl λq h=>.inl h;refine cV s0 (h _ _ _ _ l7 w7 ((c6.trans (.app [] _ _) λq h=>.inl h).trans k7 λq h=>.inr ?_) c6.le ?_)
  ·exact (bu.mp h).elim (λq=>q▸ah G4.k.le Pn) λh=>bM.mp h▸c6.le
  ·exact G1.k.le
theorem z09{l:List Nat}{v:Nat}(h1:v∉l)(h2:∀k,k<v->k∈l):iY l=v:=by
 refine e03 (y9 l) λa b _=>?_;rcases LL (iY l) v with h|h|h
 ·exact absurd (h2 _ h) a
 ·exact h
 ·exact absurd (b _ h) h1
noncomputable def gV(F:List (List Cps))(m:Nat):Nat:=iY (nz F (dq F m) m)
theorem zrj(F:List (List Cps))(m:Nat):∀k,(dq F (m+1+k)).getD m 0=gV F m:=λk=>by
 induction k with
 |zero=>
  erw[wu,dq,iB,wJ (by erw[v0];exact aq _),v0,tw];rfl
 |succ k ih=>
  erw[show m+1+(k+1)=(m+1+k)+1 by exact rfl,dq,iB,lf (by erw[v0];exact bK _ _),<- iB];exact ih
theorem D9{F:List (List Cps)}{M m:Nat}(h:m<M):(dq F M).getD m 0=gV F m:=by
 refine e11 (Nat.exists_eq_add_of_le (show m+1<=M from h)) λk aC=>?_;subst aC;exact zrj F m k
theorem Ll(F:List (List Cps)){i:Nat}(hi:i<F.length):(cP F (F.getD i [])).testBit i=true:=by
 unfold cP;erw[oP];simp[hi,qJ]
theorem ya0(F:List (List Cps))(m:Nat):gV F m=iY ((y8 F.length m).map λi=>gV F (m-(m &&& cP F (F.getD i [])))):=by
 show iY (nz F (dq F m) m)=_;unfold nz;congr 1;refine eq λi hi=>?_;refine e02 (d9.mp hi) λh1 h2=>?_;exact D9 (sub_lt m _ i h2 (Ll F (dc.mp h1)))
theorem zw{p q:Nat->Bool}{n:Nat}(h:∀j,j<n->p j=q j):cS p n=cS q n:=by
 unfold cS;erw[wN λj hj=>h j (dc.mp hj)]
section
variable{F:List (List Cps)}
noncomputable abbrev bel(F:List (List Cps))(i j:Nat):Bool:=pre (F.getD i []) (F.getD j [])
noncomputable def gP(F:List (List Cps))(p:Nat->Bool):Nat:=gV F (cS p F.length)
noncomputable def dM(F:List (List Cps))(p:Nat->Bool)(i:Nat):Nat->Bool:=λj=>p j&&!bel F i j
theorem ta{p q:Nat->Bool}(h:∀j,j<F.length->p j=q j):gP F p=gP F q:=by unfold gP;erw[zw h]
theorem Lm(hF:F.length<=6)(p:Nat->Bool):cS p F.length<64:=dT (s7 p F.length) (v5 hF)
theorem Ln(hF:F.length<=6)(p:Nat->Bool)(i:Nat):cS p F.length-(cS p F.length &&& cP F (F.getD i []))=cS (dM F p i) F.length:=by
 apply Nat.eq_of_testBit_eq;intro j;show (cS p F.length-(cS p F.length &&& cS (λj=>bel F i j) F.length)).testBit j=_;erw[ZP _ _ (Lm hF p) (Lm hF _),oP,oP,oP];show _=(decide (j<F.length)&&(p j&&!bel F i j));cases decide (j<F.length)<;>cases p j<;>rfl
theorem wh(hF:F.length<=6){p:Nat->Bool}{i:Nat}(hi:i<F.length)(hp:p i=true):cS (dM F p i) F.length<cS p F.length:=by
 rw[<- Ln hF];exact sub_lt _ _ i (by erw[oP];simp[hi,hp]) (Ll F hi)
theorem Ea(hF:F.length<=6)(p:Nat->Bool):gP F p=iY (((bn F.length).filter p).map λi=>gP F (dM F p i)):=by
 unfold gP;erw[ya0];unfold y8;erw[wN (q:=p) λj hj=>by erw[oP];simp[dc.mp hj]];congr 1;refine eq λi hi=>?_;rw[Ln hF]
theorem wi(hF:F.length<=6)(p:Nat->Bool):gP F p<8:=by
 rw[Ea hF];have h1:=(y9 (((bn F.length).filter p).map λi=>gP F (dM F p i))).2.2;have h2:=lj p (bn F.length);rw[aK] at h1;rw[iy] at h2;exact lT (ah h1 (ah h2 hF)) rfl
theorem Eb(hF:F.length<=6)(p:Nat->Bool):(∀i,i<F.length->p i=true->gP F (dM F p i)≠gP F p)/\∀k,k<gP F p->∃i,i<F.length/\p i=true/\gP F (dM F p i)=k:=by
 have h:=y9 (((bn F.length).filter p).map λi=>gP F (dM F p i));rw[<- Ea hF] at h;refine ⟨λi hi hp e=>h.1 (bo.mpr ⟨i,d9.mpr ⟨dc.mpr hi,hp⟩,e⟩),λk hk=>?_⟩;refine e12 (bo.mp (h.2.1 k hk)) λi hi e=>?_;refine e02 (d9.mp hi) λh1 h2=>?_;exact cH i (dc.mp h1) h2 e
theorem Ec(hF:F.length<=6){p:Nat->Bool}{v:Nat}(h1:∀i,i<F.length->p i=true->gP F (dM F p i)≠v)(h2:∀k,k<v->∃i,i<F.length/\p i=true/\gP F (dM F p i)=k):gP F p=v:=by
 rw[Ea hF];apply z09
 ·intro h;refine e12 (bo.mp h) λi hi e=>?_;refine e02 (d9.mp hi) λq1 q2=>?_;exact h1 i (dc.mp q1) q2 e
 ·intro k hk;refine e13 (h2 k hk) λi hi hp e=>?_;exact bo.mpr ⟨i,d9.mpr ⟨dc.mpr hi,hp⟩,e⟩
theorem wj(hF:F.length<=6){p:Nat->Bool}(h:∀j,j<F.length->p j=false):gP F p=0 :=
 Ec hF (λi hi hp=>by rw[h i hi] at hp;injection hp) λk hk=>by exact absurd hk (λq=>nM _ hk)
theorem z4e(hF:F.length<=6){r:Nat}(hr:r<F.length):∀(N:Nat) (p:Nat->Bool),cS p F.length<=N->p r=true->(∀j,j<F.length->p j=true->bel F r j=true)->(∀j,j<F.length->j≠r->p j=true->bel F j r=false) ->
  gP F p=gP F (λj=>p j&&decide (j≠r))+1:=by
 intro N;induction N with
 |zero=>
  intro p h hp;exact absurd (dT (wh hF hr hp) h) (qX _)
 |succ N ih=>
  intro p h hp h1 h2;have step:∀i,i<F.length->i≠r->p i=true->gP F (dM F p i)=gP F (dM F (λj=>p j&&decide (j≠r)) i)+1:=λi hi hn ml=>by
   erw[ih (dM F p i) (by have:=wh hF hi ml;exact dU (ah this h)) (by unfold dM;erw[hp,h2 i hi hn ml];rfl) (λj hj q=>h1 j hj (by unfold dM at q;simp at q;exact q.1)) λj hj hn q=>h2 j hj hn (by unfold dM at q;simp at q;exact q.1)];congr 1;exact ta λj zz=>Bool.and_right_comm _ _ _
  have zero:gP F (dM F p r)=0:=wj hF λj hj=>by
   unfold dM;cases q:p j
   ·rfl
   ·erw[h1 j hj q];rfl
  refine e02 (Eb hF (λj=>p j&&decide (j≠r))) λm1 m2=>?_;refine Ec hF (λi hi ml e=>?_) λk hk=>?_
  ·by_cases q:i=r
   ·rw[q,zero] at e;exact tx _ e.symm
   ·rw[step i hi q ml] at e;exact m1 i hi (by simp[ml,q]) (NT e)
  ·induction k using jv with
   |zero=>exact cH r hr hp zero
   |succ k=>
    refine e13 (m2 k (dU hk)) λi hi ml e=>?_;simp only[ie,decide_eq_true_eq] at ml;exact cH i hi ml.1 (by erw[step i hi ml.2 ml.1,e])
theorem Lo:∀a<8,∀b<8,∀c<8,a ^^^ c=b ^^^ c->a=b:=by decide
theorem ybd:∀a<8,∀b<8,∀k<8,k<a ^^^ b->k ^^^ b<a\/k ^^^ a<b:=by decide
theorem Lq:∀a<8,∀k<8,(k ^^^ a) ^^^ a=k:=by decide
theorem yal:∀a<8,∀b<8,a ^^^ b<8:=by decide
theorem z76(hF:F.length<=6):∀(N:Nat) (a b:Nat->Bool),cS (λj=>a j||b j) F.length<=N->(∀i j,i<F.length->j<F.length->a i=true->b j=true->bel F i j=false/\bel F j i=false) ->
  gP F (λj=>a j||b j)=gP F a ^^^ gP F b:=by
 intro N;induction N with
 |zero=>
  intro a b h _;have hz:∀j,j<F.length->(a j||b j)=false:=λj hj=>by
   cases q:(a j||b j)
   ·rfl
   ·have:=wh (p:=λj=>a j||b j) hF hj q
    exact absurd h (λq=>ri h (dL this))
  erw[wj hF hz,wj hF λj hj=>(zS.mp (hz j hj)).1,wj hF λj hj=>(zS.mp (hz j hj)).2];rfl
 |succ N ih=>
  intro a b h kB;have sa:∀i,i<F.length->a i=true->gP F (dM F (λj=>a j||b j) i)=gP F (dM F a i) ^^^ gP F b:=λi hi ha=>by
   have e:cS (dM F (λj=>a j||b j) i) F.length=cS (λj=>dM F a i j||b j) F.length:=zw λj hj=>by
    show ((a j||b j)&&!bel F i j)=((a j&&!bel F i j)||b j)
    cases q:b j
    ·cases a j<;>cases bel F i j<;>rfl
    ·erw[(kB i j hi hj ha q).1];cases a j<;>rfl
   have aM:=wh (p:=λj=>a j||b j) hF hi (by simp[ha])
   rw[e] at aM;erw[<- ih (dM F a i) b (dU (ah aM h)) λi' j mT hj h1 h2=>kB i' j mT hj (by unfold dM at h1;simp at h1;exact h1.1) h2];unfold gP;erw[e]
  have sb:∀i,i<F.length->b i=true->gP F (dM F (λj=>a j||b j) i)=gP F a ^^^ gP F (dM F b i):=λi hi hb=>by
   have e:cS (dM F (λj=>a j||b j) i) F.length=cS (λj=>a j||dM F b i j) F.length:=zw λj hj=>by
    show ((a j||b j)&&!bel F i j)=(a j||(b j&&!bel F i j))
    cases q:a j
    ·cases b j<;>cases bel F i j<;>rfl
    ·erw[(kB j i hj hi q hb).2];cases b j<;>rfl
   have aM:=wh (p:=λj=>a j||b j) hF hi (by simp[hb])
   rw[e] at aM;erw[<- ih a (dM F b i) (dU (ah aM h)) λi' j mT hj h1 h2=>kB i' j mT hj h1 (by unfold dM at h2;simp at h2;exact h2.1)];unfold gP;erw[e]
  refine e02 (Eb hF a) λa1 a2=>?_;refine e02 (Eb hF b) λb1 b2=>?_;have la:=wi hF a;have lb:=wi hF b;refine Ec hF (λi hi hp e=>?_) λk hk=>?_
  ·rcases Bool.or_eq_true_iff.mp hp with q|q
   ·rw[sa i hi q] at e;exact a1 i hi q (Lo _ (wi hF _) _ la _ lb e)
   ·rw[sb i hi q,FC,FC (gP F a)] at e;exact b1 i hi q (Lo _ (wi hF _) _ lb _ la e)
  ·have lk:k<8:=Fx hk (yal _ la _ lb);rcases ybd _ la _ lb k lk hk with q|q
   ·refine e13 (a2 _ q) λi hi Gy e=>?_;exact cH i hi (by simp[Gy]) (by erw[sa i hi Gy,e,Lq _ lb _ lk])
   ·refine e13 (b2 _ q) λi hi pw e=>?_;exact cH i hi (by simp[pw]) (by erw[sb i hi pw,e,FC,Lq _ la _ lk])
end
theorem pre_iff{x y:List Cps}:pre x y=true↔x <+: y:=by
 unfold pre;erw[decide_eq_true_eq,Ay];exact eq_comm
theorem zx{x y z:List Cps}(h1:pre x y=true)(h2:pre y z=true):pre x z=true:=pre_iff.mpr ((pre_iff.mp h1).trans (pre_iff.mp h2))
theorem Lr{x y:List Cps}(h1:pre x y=true)(h2:pre y x=true):x=y:=(pre_iff.mp h1).eq_of_length_le (pre_iff.mp h2).length_le
theorem z2l{x y z:List Cps}(h1:pre x z=true)(h2:pre y z=true)(hl:x.length=y.length):x=y:=by
 erw[Ay.mp (pre_iff.mp h1),Ay.mp (pre_iff.mp h2),hl]
theorem qN{α:Type}{l:List α}{n:Nat}(h:n<l.length):(l.take (n+1)).dropLast=l.take n:=by
 erw[Ac,i5,List.take_take];refine congrArg (l.take ·) ?_;rw[i7 h];exact i7 (jD _)
noncomputable def gD(F:List (List Cps))(x:List Cps):Nat:=gP F λj=>pre x (F.getD j [])&&decide (F.getD j []≠x)
section
variable{F:List (List Cps)}(hF:F.length<=6)(hn:F.Nodup)
include hF hn
theorem z5t{x:List Cps}(hx:x∈F):gP F (λj=>pre x (F.getD j []))=gD F x+1:=by
 obtain ⟨r,hr,rfl⟩:=qT hx;have e:F.getD r []=F[r]:=by erw[iB,eE hr];rfl
 rw[z4e hF hr _ _ (aq _) (by erw[e];exact qJ _) (λj hj q=>by unfold bel;erw[e];exact q) λj hj OX q=>?_]
 ·unfold gD;congr 1;refine ta λj hj=>?_;congr 1;have e2:F.getD j []=F[j]:=by erw[iB,eE hj];rfl
  erw[i4,decide_eq_true_eq,decide_eq_true_eq,e2];constructor
  ·intro h1 h2;exact h1 ((FD hn).mp h2)
  ·rintro h1 rfl;exact h1 rfl
 ·cases hb:bel F j r
  ·rfl
  ·have e2:F.getD j []=F[j]:=by erw[iB,eE hj];rfl
   unfold bel at hb;rw[e,e2] at hb;rw[e2] at q;exact absurd ((FD hn).mp (Lr hb q)) OX
theorem z17(L:Nat):∀(cs:List (List Cps)),(∀c∈cs,c∈F/\c.length=L)->cs.Nodup ->
  gP F (λj=>cs.any λc=>pre c (F.getD j []))=cs.foldr (λc a=>(gD F c+1) ^^^ a) 0:=λcs=>by
 induction cs with
 |nil=>exact λzz zz=>wj hF λj zz=>rfl
 |cons c cs ih=>
  intro h hd;rw[fM] at hd;erw[Az,<- ih (λd g7=>h d (aL _ g7)) hd.2,<- z5t hF hn (h c aG).1,<- z76 hF _ _ _ (aq _)]
  ·refine ta λj zz=>?_;erw[rp]
  ·intro i j hi hj q1 q2;refine e12 (re.mp q2) λd uZ q3=>?_;have bB:∀z,pre c z=true->pre d z=true->False:=λz z1 z2=>hd.1 (by erw[z2l z1 z2 (by erw[(h c aG).2,(h d (aL _ uZ)).2])];exact uZ);refine ⟨?_,?_⟩
   ·cases hb:bel F i j
    ·rfl
    ·exact (bB _ (zx q1 hb) q3).elim
   ·cases hb:bel F j i
    ·rfl
    ·exact (bB _ q1 (zx q3 hb)).elim
theorem z4b(hc:∀y∈F,y.dropLast∈F\/y.dropLast=[])(x:List Cps)(cs:List (List Cps))(h1:∀c,c∈cs↔c∈F/\c≠[]/\c.dropLast=x)(h2:cs.Nodup):gD F x=cs.foldr (λc a=>(gD F c+1) ^^^ a) 0:=by
 rw[<- z17 hF hn (x.length+1) cs (λc q=>?_) h2]
 ·refine ta λj hj=>?_;have e2:F.getD j []=F[j]:=by erw[iB,eE hj];rfl
  rw[e2,i4,ie,decide_eq_true_eq,re];constructor
  ·rintro ⟨q1,q2⟩;refine e11 (pre_iff.mp q1) λt ht=>?_;have tk:∀m,x.length+1<=m->m<=F[j].length->F[j].take m∈F:=λm=>by
    intro a b;obtain ⟨k,hk⟩:∃k,m+k=F[j].length:=⟨F[j].length-m,by exact tF b⟩;clear b;induction k generalizing m with
    |zero=>erw[show m=F[j].length from hk,wH];exact wL hj
    |succ k ih=>
     have:=hc _ (ih (m+1) (gE a) (tj (gC _ _ _) hk));rw[qN (ah (cr (bK _ _)) (aE hk))] at this;refine cT (this) (λq=>?_) λq=>?_
     ·exact q
     ·have:=congrArg b9 q;rw[i5,fu,i7 (ah (bK _ _) (aE hk))] at this;exact absurd this (gF (dT (Ag _) a))
   have hl:x.length+1<=F[j].length:=by
    induction t using bI with
    |nil=>rw[c9] at ht;exact absurd ht.symm q2
    |cons a t=>erw[<- ht];simp
   refine aB (F[j].take (x.length+1)) ((h1 _).mpr ⟨tk _ (aq _) hl,?_,?_⟩) ?_
   ·intro q;have:=congrArg b9 q;rw[i5,fu] at this;exact tx _ ((i7 hl).symm.trans this)
   ·erw[qN hl,<- ht,Fp]
   ·exact pre_iff.mpr (NV _ _)
  ·rintro ⟨c,Bt,q⟩;refine e03 ((h1 c).mp Bt) λm1 m2 m3=>?_;have px:pre x c=true:=pre_iff.mpr (by erw[<- m3];exact NW c);refine ⟨zx px q,λe=>?_⟩;rw[e] at q;have:=Lr px q;rw[<- m3] at this;have:=congrArg b9 this;rw[AA] at this;have:c.length≠0:=λz=>m2 (l6.mp z);lia
 ·refine e03 ((h1 c).mp q) λm1 m2 m3=>?_;refine ⟨m1,?_⟩;have:c.length≠0:=λz=>m2 (l6.mp z);erw[<- m3,AA];exact jy (wO (rB this))
end
theorem Ls(l:List Nat):∀i,i<=l.foldl max i/\(∀a∈l,a<=l.foldl max i)/\(l.foldl max i=i\/l.foldl max i∈l):=by
 induction l with
 |nil=>intro i;exact ⟨aq _,(λa h=>by cases h),.inl rfl⟩
 |cons b l ih=>
  intro i;refine e03 (ih (max i b)) λh1 h2 h3=>?_;erw[cB];refine ⟨ah (Nat.le_max_left _ _) h1,λa ha=>?_,?_⟩
  ·rcases bu.mp ha with q|q
   ·erw[q];exact ah (Nat.le_max_right _ _) h1
   ·exact h2 a q
  ·refine cT (h3) (λh3=>?_) λh3=>?_
   ·erw[h3];refine cT (Nat.le_total i b) (λq=>?_) λq=>?_
    ·rw[NK q];exact .inr aG
    ·rw[NL q];exact .inl rfl
   ·exact .inr (aL _ h3)
structure Tre(k:List (List Cps)):Prop where
 nd:k.Nodup
 z:[]∈k
 cl:∀x∈k,x.dropLast∈k
 fd:∀x∈k,Fd x
section
variable{k:List (List Cps)}(K:Tre k)
include K
theorem Tre.take{y:List Cps}(hy:y∈k)(m:Nat):y.take m∈k:=by
 by_cases h:m<=y.length
 ·obtain ⟨n,hn⟩:∃n,m+n=y.length:=⟨y.length-m,by exact tF h⟩;clear h;induction n generalizing m with
  |zero=>erw[show m=y.length from hn,wH];exact hy
  |succ n ih=>
   have:=K.cl _ (ih (m+1) (tj (gC _ _ _) hn))
   rwa[qN (ah (cr (bK _ _)) (aE hn))] at this
 ·erw[l9 (bk (wC h))];exact hy
theorem zy{x y:List Cps}(hy:y∈k)(hp:pre x y=true):y.length-x.length<=aZ k x :=
 (Ls _ 0).2.1 _ (bo.mpr ⟨y,d9.mpr ⟨hy,hp⟩,rfl⟩)
theorem wl{x:List Cps}(hx:x∈k):∃y∈k,pre x y=true/\y.length-x.length=aZ k x:=by
 rcases (Ls ((k.filter λy=>pre x y).map λy=>y.length-x.length) 0).2.2 with h|h
 ·exact cH x hx (qJ x) (by erw[tw];exact h.symm)
 ·refine e12 (bo.mp h) λy hy e=>?_;refine e02 (d9.mp hy) λh1 h2=>?_;exact cH y h1 h2 e
theorem qO{y:List Cps}(hy:y∈k)(bB:y≠[]):aZ k y+1<=aZ k y.dropLast:=by
 refine e13 (wl K hy) λz hz hp e=>?_;have h2:=zy K hz (zx (pre_iff.mpr (NW y)) hp);have h3:=(pre_iff.mp hp).length_le;have h4:y.length≠0:=λq=>bB (l6.mp q);rw[AA,Nat.sub_sub_right _ (rB h4),Nat.sub_add_comm h3] at h2;rw[<- e];exact h2
theorem zA{x:List Cps}(hx:x∈k){m:Nat}(h:aZ k x=m+1):∃y∈k,y≠[]/\y.dropLast=x/\aZ k y=m:=by
 refine e13 (wl K hx) λz hz hp e=>?_;rw[h] at e;have hl:=(pre_iff.mp hp).length_le;have hd:(z.take (x.length+1)).dropLast=x:=by
  erw[qN (nK e)];exact (Ay.mp (pre_iff.mp hp)).symm
 have bB:z.take (x.length+1)≠[]:=λq=>by
  have:=congrArg b9 q;rw[i5,i7 (nK e)] at this;exact tx _ this
 refine B8 _ ((K.take hz (x.length+1))) bB hd ?_;have h1:=qO K (K.take hz (x.length+1)) bB;rw[hd,h] at h1;have h2:=zy K hz (pre_iff.mpr (NV (x.length+1) z));rw[i5,i7 (nK e)] at h2;exact fJ (Nv h1) (ah (aE (congrArg pb e).symm) h2)
noncomputable def rnd(k:List (List Cps))(h:Nat):List (List Cps):=(kZ k h).getLastD []
omit K in
theorem zB(h:Nat):rnd k (h+1)=iZ k (h+1) (rnd k h):=by
 unfold rnd;erw[kZ,List.getLastD_eq_getLast?,FA];rfl
omit K in
theorem zyn{h:Nat}{gj:List (List Cps)}{x:List Cps}:x∈iZ k h gj↔aZ k x=h/\∃y∈gj,y.dropLast=x:=by
 unfold iZ;constructor
 ·intro hx;refine e12 (bo.mp hx) λi hi aC=>?_;subst aC;refine e02 (d9.mp hi) λh1 h2=>?_;simp only[ie,decide_eq_true_eq] at h2;obtain ⟨y,hy,e⟩:=bo.mp (lZ (kY (d:=_) (dc.mp h1)));exact ⟨h2.1,y,hy,e⟩
 ·rintro ⟨hd,y,hy,rfl⟩;have hm:y.dropLast∈gj.map dG:=ft hy;generalize gj.map dG=dZ at *;have:∀(l:List (List Cps)) (a:Nat),y.dropLast∈l->dZ.drop a=l->∃i,i<dZ.length/\dZ.getD i []=y.dropLast/\y.dropLast∉dZ.drop (i+1):=by
   intro l;induction l with
   |nil=>intro a h;cases h
   |cons b l ih=>
    intro a h e;have hl:a<dZ.length:=by
     have:=congrArg b9 e;rw[tv,bC] at this;exact nK this
    have e2:dZ.drop (a+1)=l:=by erw[<- List.tail_drop,e];rfl
    by_cases hb:y.dropLast∈l
    ·exact ih (a+1) hb e2
    ·refine cH a hl ?_ (by erw[e2];exact hb);have:=(bu.mp h).resolve_right hb;erw[this,iB,<- List.head?_drop,e];rfl
  refine e13 (this dZ 0 hm rfl) λi h1 h2 h3=>?_;refine bo.mpr ⟨i,d9.mpr ⟨dc.mpr h1,?_⟩,h2⟩;rw[h2];simp[hd,h3]
omit K in
theorem z1d(h:Nat)(gj:List (List Cps)):(iZ k h gj).Nodup:=by
 unfold iZ;generalize gj.map dG=dZ;unfold wP;rw[wQ];refine Ae2 ?_ ((NJ (n:=dZ.length)).filter _);intro i j hi hj aM e;refine e02 (d9.mp hi) λh1 h2=>?_;refine e02 (d9.mp hj) λh3 _=>?_;simp only[ie,decide_eq_true_eq] at h2;refine h2.2 ?_;erw[e];rw[List.mem_iff_getElem?];refine ⟨j-(i+1),?_⟩;erw[wt,show i+1+(j-(i+1))=j by exact tF aM];exact kY (d:=_) (dc.mp h3)
theorem gB:∀(h:Nat) (x:List Cps),x∈rnd k h↔x∈k/\aZ k x=h:=λh=>by
 induction h with
 |zero=>
  intro x;show x∈k.filter (λy=>decide (aZ k y=0))↔_;erw[d9,decide_eq_true_eq]
 |succ h ih=>
  intro x;erw[zB,zyn];constructor
  ·rintro ⟨h1,y,h2,rfl⟩;exact ⟨K.cl y ((ih y).mp h2).1,h1⟩
  ·rintro ⟨h1,h2⟩;refine e14 (zA K h1 h2) λy hy _ h3 h4=>?_;exact ⟨h2,y,(ih y).mpr ⟨hy,h4⟩,h3⟩
theorem Ed:∀h:Nat,(rnd k h).Nodup:=λh=>by
 induction h with
 |zero=>exact  K.nd.filter _
 |succ h ih=>
  erw[zB];exact z1d _ _
end
noncomputable def ndA(A:List (List Cps))(x:List Cps):Nd:=⟨aA x,((A.filter λy=>decide (y.dropLast=x)).length:Int),(A.filter λy=>decide (y=x)).map λy=>aA y.dropLast⟩
noncomputable def putL(k:List (List Cps))(x:List Cps):List (List Cps):=if x∈k then k else k++[x]
noncomputable def ib(k:List (List Cps))(y:List Cps):List (List Cps):=putL (putL k y.dropLast) y
abbrev oV(k:List (List Cps)):Prop:=∀x∈k,∀c∈x,Gd c
theorem putL_mem{k:List (List Cps)}{x z:List Cps}:z∈putL k x↔z∈k\/z=x:=by
 unfold putL;split
 ·rename_i h;exact ⟨.inl,λq=>q.elim id λe=>by erw[e];exact h⟩
 ·simp
theorem stepX_mem{k:List (List Cps)}{y z:List Cps}:z∈ib k y↔z∈k\/z=y.dropLast\/z=y:=by
 unfold ib;rw[putL_mem,putL_mem,or_assoc]
theorem Lu{k:List (List Cps)}(h:k.Nodup)(x:List Cps):(putL k x).Nodup:=by
 unfold putL;split
 ·exact h
 ·rename_i hx;rw[jw];exact ⟨h,by simp,λa ha b hb e=>hx (by rw[bM] at hb;erw[<- hb,<- e];exact ha)⟩
theorem Lv{k:List (List Cps)}(hk:oV k){g:List Cps->Nd}(hg:∀z,(g z).p=aA z){x:List Cps}(hx:∀c∈x,Gd c):aA x∈(k.map g).map (·.p)↔x∈k:=by
 erw[ca];constructor
 ·intro h;refine e12 (bo.mp h) λz hz e=>?_;have e:aA z=aA x:=(hg z).symm.trans e;erw[<- mF (hk z hz) hx e];exact hz
 ·intro h;exact bo.mpr ⟨x,h,hg x⟩
theorem Lw{k:List (List Cps)}(hk:oV k){g:List Cps->Nd}(hg:∀z,(g z).p=aA z){x:List Cps}(hx:∀c∈x,Gd c)(h0:x∉k->g x=⟨aA x,0,[]⟩):gW (aA x) (k.map g)=(putL k x).map g:=by
 delta gW putL;by_cases h:x∈k
 ·erw[if_pos ((Lv hk hg hx).mpr h),if_pos h]
 ·erw[if_neg λq=>h ((Lv hk hg hx).mp q),if_neg h,cf,NX,h0 h]
theorem wm{k:List (List Cps)}(hk:oV k){g:List Cps->Nd}(hg:∀z,(g z).p=aA z){x:List Cps}(hx:∀c∈x,Gd c)(f:Nd->Nd):bR (aA x) f (k.map g)=k.map λz=>if z=x then f (g z) else g z:=by
 unfold bR;erw[ca];refine eq λz hz=>?_;show (if (g z).p=aA x then f (g z) else g z)=_
 erw[hg];by_cases h:z=x
 ·erw[if_pos (by erw[h]),if_pos h]
 ·erw[if_neg λq=>h (mF (hk z hz) hx q),if_neg h]
theorem zC{k:List (List Cps)}(hk:oV k){x:List Cps}(hx:∀c∈x,Gd c):oV (putL k x):=λz hz=>by
 refine cT (putL_mem.mp hz) (λh=>?_) λh=>?_
 ·exact hk z h
 ·rw[h];exact hx
theorem Lx{y:List Cps}(hy:∀c∈y,Gd c):∀c∈y.dropLast,Gd c:=λc hc=>hy c (Ar y hc)
theorem zry{k A:List (List Cps)}(hk:oV k)(hA:∀z∈A,z∈k/\z.dropLast∈k){y:List Cps}(hy:∀c∈y,Gd c)(bB:y≠[]):j4 (k.map (ndA A)) y=(ib k y).map (ndA (A++[y])):=by
 have hd:=Lx hy;have hz:∀x,x∉k->ndA A x=⟨aA x,0,[]⟩:=λx hx=>by
  unfold ndA;erw[wR.mpr λz hz=>by simp only[decide_eq_true_eq];exact λe=>hx (by erw[<- e];exact (hA z hz).2),wR.mpr λz hz=>by simp only[decide_eq_true_eq];exact λe=>hx (by erw[<- e];exact (hA z hz).1)];rfl
 have Bk:y.dropLast≠y:=λe=>by
  have:=congrArg b9 e;rw[AA] at this;have:y.length≠0:=λq=>bB (l6.mp q);lia
 have lO:=zC hk hd;delta j4 s9;rw[Lw hk (λzz=>rfl) hd (hz _),wm lO (λzz=>rfl) hd,Lw lO ?_ hy ?_,wm (zC lO hy) ?_ hy]
 ·refine eq λz zz=>?_;by_cases h1:z=y
  ·clear hd bB lO zz hy;subst h1;erw[if_pos rfl,if_neg (bV Bk)];delta ndA scF;simp[Bk]
  ·erw[if_neg h1];by_cases h2:z=y.dropLast
   ·clear zz;subst h2;erw[if_pos rfl];delta ndA cL;simp[bV h1]
   ·erw[if_neg h2];unfold ndA;simp[bV h1,bV h2]
 ·intro z;split<;>rfl
 ·intro z;split<;>rfl
 ·intro h;erw[if_neg (bV Bk)];exact hz y λq=>h (putL_mem.mpr (.inl q))
theorem zqu:∀(L:List (List Cps)) (k A:List (List Cps)),oV k->(∀z∈A,z∈k/\z.dropLast∈k)->(∀y∈L,(∀c∈y,Gd c)/\y≠[])->L.foldl j4 (k.map (ndA A))=(L.foldl ib k).map (ndA (A++L)):=λL=>by
 induction L with
 |nil=>
  intro k A _ _ _;erw[c9];rfl
 |cons y L ih=>
  intro k A hk hA hL;refine e02 (hL y (by simp)) λh1 h2=>?_;erw[cB,cB,zry hk hA h1 h2,ih (ib k y) (A++[y]) (zC (zC hk (Lx h1)) h1) (λz hz=>?_) λz hz=>hL z (aL _ hz),bD]
  ·rfl
  ·rcases cU.mp hz with q|q
   ·exact ⟨stepX_mem.mpr (.inl (hA z q).1),stepX_mem.mpr (.inl (hA z q).2)⟩
   ·erw[bM.mp q];exact ⟨stepX_mem.mpr (.inr (.inr rfl)),stepX_mem.mpr (.inr (.inl rfl))⟩
theorem Ly:∀(L:List (List Cps)) (k:List (List Cps)) (z:List Cps),z∈L.foldl ib k↔z∈k\/∃y∈L,z=y.dropLast\/z=y:=λL=>by
 induction L with
 |nil=>
  intro k z;simp
 |cons y L ih=>
  intro k z;erw[cB,ih,stepX_mem];constructor
  ·rintro ((h|h)|⟨x,hx,h⟩)
   ·exact .inl h
   ·exact .inr ⟨y,by simp,h⟩
   ·exact .inr ⟨x,aL _ hx,h⟩
  ·rintro (h|⟨x,hx,h⟩)
   ·exact .inl (.inl h)
   ·rcases bu.mp hx with q|q
    ·exact .inl (.inr (by erw[<- q];exact h))
    ·exact .inr ⟨x,q,h⟩
theorem Lz:∀(L:List (List Cps)) (k:List (List Cps)),k.Nodup->(L.foldl ib k).Nodup:=λL=>by
 induction L with
 |nil=>exact λk h=>h
 |cons y L ih=>exact λk h=>ih _ (Lu (Lu h _) _)
theorem ups_mem{x y:List Cps}:y∈ups x↔∃m,1<=m/\m<=x.length/\y=x.take m:=by
 delta ups ju;erw[ca,bo];constructor
 ·rintro ⟨j,hj,rfl⟩;have:=dc.mp hj;exact cH (x.length-j) (Aq this) (gb _ _) rfl
 ·rintro ⟨m,h1,h2,rfl⟩;refine aB (x.length-m) (dc.mpr (NI (dT h1 h2) h1)) ?_;show x.take (x.length-(x.length-m))=_;erw[show x.length-(x.length-m)=m by exact Mw h2]
theorem Ee{x y:List Cps}(h:y∈ups x):y≠[]/\(y.dropLast=[]\/y.dropLast∈ups x):=by
 refine e13 (ups_mem.mp h) λm h1 h2 aC=>?_;subst aC;clear h;obtain ⟨m,rfl⟩:∃n,m=n+1:=⟨m-1,by exact jy (wO h1)⟩;refine ⟨λq=>?_,?_⟩
 ·have:=congrArg b9 q;rw[i5,fu] at this;exact tx _ ((i7 h2).symm.trans this)
 ·rw[qN h2];by_cases hm:m=0
  ·left;erw[hm,E1]
  ·right;exact ups_mem.mpr ⟨m,by exact rB hm,by exact bk h2,rfl⟩
noncomputable def bG(rows:List (List Cps)):List (List Cps):=(rows.flatMap ups).foldl ib [[]]
section
variable{rows:List (List Cps)}
theorem knw_mem{z:List Cps}:z∈bG rows↔z=[]\/z∈rows.flatMap ups:=by
 unfold bG;rw[Ly,bM];constructor
 ·rintro (h|⟨y,hy,h|h⟩)
  ·exact .inl h
  ·refine e12 (rE.mp hy) λx hx iI=>?_;rcases (Ee iI).2 with q|q
   ·exact .inl (h.trans q)
   ·exact .inr (rE.mpr ⟨x,hx,by rw[h];exact q⟩)
  ·exact .inr (by rw[h];exact hy)
 ·rintro (h|h)
  ·exact .inl h
  ·exact .inr ⟨z,h,.inr rfl⟩
theorem LA{y:List Cps}(h:y∈rows.flatMap ups):y≠[]:=by
 refine e12 (rE.mp h) λx hx iI=>?_;exact (Ee iI).1
theorem nD(h:∀x∈rows,Fd x):Tre (bG rows) where
 nd:=Lz _ _ (by decide)
 z:=knw_mem.mpr (.inl rfl)
 cl:=λx hx=>by
  rcases knw_mem.mp hx with rfl|q
  ·exact hx
  ·refine e12 (rE.mp q) λz hz iI=>?_;refine cT ((Ee iI).2) (λe=>?_) λe=>?_
   ·rw[e];exact knw_mem.mpr (.inl rfl)
   ·exact knw_mem.mpr (.inr (rE.mpr ⟨z,hz,e⟩))
 fd:=λx hx=>by
  rcases knw_mem.mp hx with rfl|q
  ·exact ⟨by simp,by simp⟩
  ·refine e12 (rE.mp q) λz hz iI=>?_;clear hx q;refine e13 (ups_mem.mp iI) λm _ _ aI=>?_;subst aI;exact (h z hz).take m
theorem zD(h:∀x∈rows,Fd x):N0 rows=(bG rows).map (ndA (rows.flatMap ups)):=by
 have T:=nD h;have e:([⟨[47],0,[]⟩]:List Nd)=[[]].map (ndA []):=rfl;delta N0 bG;erw[e,zqu _ _ _ (λx hx=>by rw[bM.mp hx];simp) (λz hz=>by cases hz) λy hy=>⟨(T.fd y (knw_mem.mpr (.inr hy))).gd,LA hy⟩,pf]
theorem zsa:∀(L:List (List Cps)) (ks:List Cps) (s:Cps),s∈L.foldl lX ks↔s∈ks\/∃y∈L,s=aA y:=λL=>by
 induction L with
 |nil=>
  intro ks s;simp
 |cons y L ih=>
  intro ks s;have e:s∈lX ks y↔s∈ks\/s=aA y:=by
   delta lX oU;split
   ·rename_i h;exact ⟨.inl,λq=>q.elim id λe=>by erw[e];exact h⟩
   ·simp
  erw[cB,ih,e];constructor
  ·rintro ((h|h)|⟨x,hx,h⟩)
   ·exact .inl h
   ·exact .inr ⟨y,by simp,h⟩
   ·exact .inr ⟨x,aL _ hx,h⟩
  ·rintro (h|⟨x,hx,h⟩)
   ·exact .inl (.inl h)
   ·rcases bu.mp hx with q|q
    ·exact .inl (.inr (by erw[<- q];exact h))
    ·exact .inr ⟨x,q,h⟩
theorem zwi:∀(L:List (List Cps)) (ks:List Cps),ks.Nodup->(L.foldl lX ks).Nodup:=λL=>by
 induction L with
 |nil=>exact λks h=>h
 |cons y L ih=>
  intro ks h;refine ih _ ?_;delta lX oU;split
  ·exact h
  ·rename_i hx;rw[jw];exact ⟨h,by simp,λa ha b hb e=>hx (by rw[bM] at hb;erw[<- hb,<- e];exact ha)⟩
theorem ks0_mem{s:Cps}:s∈gA rows↔∃x∈bG rows,s=aA x:=by
 unfold gA;rw[zsa,bM];constructor
 ·rintro (h|⟨y,hy,h⟩)
  ·exact aB ([]) (knw_mem.mpr (.inl rfl)) h
  ·exact aB y (knw_mem.mpr (.inr hy)) h
 ·rintro ⟨x,hx,h⟩;rcases knw_mem.mp hx with rfl|q
  ·exact .inl h
  ·exact .inr ⟨x,q,h⟩
theorem LB:(gA rows).Nodup:=zwi _ _ (by decide)
theorem z2q(h:∀x∈rows,Fd x):(gA rows).length=(bG rows).length:=by
 have T:=nD h;have hn:((bG rows).map aA).Nodup:=by
  unfold wP;rw[wQ];refine T.nd.imp_of_mem λ{a b} ha hb bB e=>bB (mF (T.fd a ha).gd (T.fd b hb).gd e)
 have h1:=(LB (rows:=rows)).length_le_of_subset (l₂:=(bG rows).map aA) λs hs=>by
  refine e12 (ks0_mem.mp hs) λx hx aS=>?_;subst aS;exact ft hx
 have h2:=hn.length_le_of_subset (l₂:=gA rows) λs hs=>by
  refine e12 (bo.mp hs) λx hx be=>?_;subst be;exact ks0_mem.mpr ⟨x,hx,rfl⟩
 rw[aK] at h1 h2;exact fJ h1 h2
end
noncomputable def gX(ds:List Drw):List (List Cps):=(ds.filter λd=>d.ok).map (·.names)
theorem zwj(names:List Cps)(k:List (List Cps)){j:Nat}(h1:1<=j)(h2:j<=names.length):fY names k j=ib k (names.take j):=by
 obtain ⟨j,rfl⟩:∃i,j=i+1:=⟨j-1,by exact jy (wO h1)⟩;delta fY ib;erw[qN h2,E0];have bB:names.take j≠names.take (j+1):=λe=>by
  have:=congrArg b9 e;rw[i5,i5] at this;exact wG _ ((i7 h2).symm.trans (this.symm.trans (i7 (bk h2))))
 unfold putL;by_cases a:names.take j∈k<;>by_cases b:names.take (j+1)∈k<;>simp[a,b,bV bB]
theorem z8l(names:List Cps)(k:List (List Cps)):(ju names.length).foldl (fY names) k=(ups names).foldl ib k:=by
 unfold ups;rw[List.foldl_map];have:∀(l:List Nat) (k:List (List Cps)),(∀j∈l,1<=j/\j<=names.length)->l.foldl (fY names) k=l.foldl (λk j=>ib k (names.take j)) k:=by
  intro l;induction l with
  |nil=>intro k _;rfl
  |cons j l ih=>
   intro k h;rw[cB,cB,zwj names k (h j (by simp)).1 (h j (by simp)).2,ih _ λi hi=>h i (aL _ hi)]
 refine this _ k λj hj=>?_;refine e12 (bo.mp hj) λi hi aC=>?_;subst aC;have:=dc.mp hi;exact ⟨by exact Aq this,by exact gb _ _⟩
theorem zvt:∀(l aa:List Cps) (d:Cps),d∈l.foldl cq aa->d∈aa\/d∈l:=λl=>by
 induction l with
 |nil=>exact λaa d h=>.inl h
 |cons c l ih=>
  intro aa d h;rcases ih _ d h with h|h
  ·unfold cq at h;split at h
   ·exact .inl (Ar _ h)
   ·split at h
    ·exact .inl h
    ·refine cT (cU.mp h) (λh=>?_) λh=>?_
     ·exact .inl h
     ·exact .inr (by rw[bM.mp h];simp)
  ·exact .inr (aL _ h)
structure tc(d:Drw):Prop where
 st:Fd d.start
 ld:d.lead∈([[47],[47,47,47],[]]:List Cps)
 pc:∃c qs,d.pieces=c::qs/\c∈P5/\(∀q∈qs,q∈P6)/\qs.length<=2
 nm:d.names=d.pieces.foldl cq (if d.lead=[] then d.start else [])
 fd:Fd d.names
theorem Ef{k:List (List Cps)}(T:Tre k){x:List Cps}(hx:x∈k):x.length+1<=k.length:=by
 have hn:((bn (x.length+1)).map λi=>x.take i).Nodup:=by
  unfold wP;rw[wQ];refine Fu.imp_of_mem λ{a b} ha hb bB e=>bB ?_;have ha:=dc.mp ha;have hb:=dc.mp hb;have:=congrArg b9 e;rw[i5,i5] at this;exact (i7 (dU ha)).symm.trans (this.trans (i7 (dU hb)))
 have:=hn.length_le_of_subset (l₂:=k) λy hy=>by
  refine e12 (bo.mp hy) λi _ aI=>?_;subst aI;exact T.take hx i
 rwa[aK,iy] at this
theorem zwe{k:List (List Cps)}{ds:List Drw}(R:vV k ds):k=bG (gX ds)/\(∀x∈gX ds,Fd x)/\k.length<=7/\∀d∈ds,tc d:=by
 induction R with
 |nil=>exact ⟨rfl,(λx h=>by cases h),by simp,λd h=>by cases h⟩
 |@snoc k ds d R hd ih=>
  refine e04 ih ?_;intro h1 h2 h3 h4;refine e05 hd ?_;intro o1 o2 aS o7 o8;refine e24 aS λc qs o3 o4 o5 o6=>?_;have T:Tre k:=by erw[h1];exact nD h2
  have et:=Ef T o1;have pl:∀q∈d.pieces,q∈P6:=λq hq=>by
   rw[o3] at hq;rcases bu.mp hq with e|e
   ·erw[e];exact (s5 o4).2.2
   ·exact o5 q e
  have ha:(if d.lead=[] then d.start else []).length<=6/\∀c∈(if d.lead=[] then d.start else []),Gd c/\c.length<=2:=by
   split
   ·exact ⟨by exact dU (ah et h3),(T.fd _ o1).2⟩
   ·exact ⟨by simp,λc h=>by cases h⟩
  have fd:Fd d.names:=by
   erw[o7];refine ⟨?_,λc hc=>⟨ZE _ _ (λc hc=>(ha.2 c hc).1) (λc hc=>DP (pl c hc)) c hc,?_⟩⟩
   ·have:=DC d.pieces (if d.lead=[] then d.start else [])
    rw[o3] at this ⊢;rw[bC] at this;exact le2 (ah this (aF ha.1 (aF o6 (aq _)))) rfl
   ·refine cT (zvt _ _ c hc) (λh=>?_) λh=>?_
    ·exact (ha.2 c h).2
    ·exact Kg (pl c h)
  have QT:tc d:=⟨(T.fd _ o1),o2,⟨c,qs,o3,o4,o5,o6⟩,o7,fd⟩;have all:∀e∈ds++[d],tc e:=λe he=>by
   rcases cU.mp he with q|q
   ·exact h4 e q
   ·erw[bM.mp q];exact QT
  cases cN:d.ok with
  |false=>
   have hr:gX (ds++[d])=gX ds:=by unfold gX;erw[rA];simp[cN]
   erw[hr];have:kU k d=k:=by unfold kU;erw[cN];rfl
   erw[this];exact ⟨h1,h2,h3,all⟩
  |true=>
   have hr:gX (ds++[d])=gX ds++[d.names]:=by unfold gX;erw[rA];simp[cN]
   have hn:kU k d=(ups d.names).foldl ib k:=by unfold kU;erw[cN,if_pos rfl,z8l]
   erw[hr,hn];have e:bG (gX ds++[d.names])=(ups d.names).foldl ib k:=by
    unfold bG;erw[List.flatMap_append,wM,List.flatMap_singleton];erw[h1];rfl
   refine ⟨e.symm,λx hx=>?_,?_,all⟩
   ·rcases cU.mp hx with q|q
    ·exact h2 x q
    ·erw[bM.mp q];exact fd
   ·rw[cN] at o8;have o8:=of_decide_eq_true o8.symm;have xi:=(Lz (ups d.names) k T.nd).length_le_of_subset (l₂:=k++(lU d.names k).map λi=>d.names.take i) λz hz=>by
     have tk:∀m,m<=d.names.length->d.names.take m∈k++(lU d.names k).map λi=>d.names.take i:=λm hm=>by
      by_cases h0:d.names.take m∈k
      ·exact lh _ h0
      ·refine md _ (bo.mpr ⟨m,d9.mpr ⟨?_,by simpa using h0⟩,rfl⟩)
       have:m≠0:=λq=>h0 (by erw[q,E1];exact T.z);exact bo.mpr ⟨m-1,dc.mpr (dT (E2 this) hm),by exact tF (rB this)⟩
     rcases (Ly _ _ z).mp hz with h|⟨y,hy,h⟩
     ·exact lh _ h
     ·refine e13 (ups_mem.mp hy) λm m1 m2 be=>?_;subst be;rcases h with h|h
      ·clear hy;obtain ⟨m,rfl⟩:∃i,m=i+1:=⟨m-1,by exact jy (wO m1)⟩;erw[h,qN m2];exact tk m (bk m2)
      ·erw[h];exact tk m m2
    rw[bx,aK] at xi;exact ah xi (dU o8)
theorem z3s(f:List Cps->Nat):∀(l:List (List Cps)) (a:Nat),l.foldr (λc a=>f c ^^^ a) a=l.foldr (λc a=>f c ^^^ a) 0 ^^^ a:=λl=>by
 induction l with
 |nil=>
  intro a;simp
 |cons c l ih=>
  intro a;erw[Az,Az,ih a,Nat.xor_assoc]
theorem zyx(t:Cps):∀(c:Nat) (N:List Nd) (rdy:List Cps) (hn:(N.map (·.p)).Nodup) (d:Nd) (hd:d∈N) (hp:d.p=t) (hc:(c:Int)<=d.np),(j8 c t).foldl iw (N,rdy)=(bR t (cL (-(c:Int))) N,rdy++if c≠0/\d.np=c then [t] else []):=λc=>by
 induction c with
 |zero=>
  intro N rdy hn d hd hp hc;have:bR t (cL (-((0:Nat):Int))) N=N:=KQ t N;erw[this];simp
 |succ c ih=>
  intro N rdy hn d hd hp hc;subst hp;erw[EE,cB];have uZ:cL (-1) d∈bR d.p (cL (-1)) N:=bo.mpr ⟨d,hd,if_pos rfl⟩;have Gm:((bR d.p (cL (-1)) N).map (·.p)).Nodup:=by erw[zo _ _ (f:=cL (-1)) λzz=>rfl];exact hn
  have hg:mJ d.p (bR d.p (cL (-1)) N)=d.np+-1:=zp (d:=cL (-1) d) Gm uZ;have e2:bR d.p (cL (-(c:Int))) (bR d.p (cL (-1)) N)=bR d.p (cL (-((c+1:Nat):Int))) N:=by
   unfold bR;erw[ca];refine eq λz zz=>?_;show (if (if z.p=d.p then cL (-1) z else z).p=d.p then _ else _)=_
   by_cases h:z.p=d.p
   ·have h':(cL (-1) z).p=d.p:=h;erw[if_pos h,if_pos h',if_pos h];dsimp only;erw[if_pos h];show ({z with np:=z.np+-1+-(c:Int)}:Nd)={z with np:=z.np+-((c+1:Nat):Int)}
    erw[show z.np+-1+-(c:Int)=z.np+-((c+1:Nat):Int) by rw[zH,NQ,Eo,El (-1)];rfl]
   ·erw[if_neg h,if_neg h,if_neg h]
  unfold iw;dsimp only;erw[hg];erw[show (j8 c d.p).foldl (λ(q:List Nd × List Cps) t=>(bR t (cL (-1)) q.1,if mJ t (bR t (cL (-1)) q.1)=0 then q.2++[t] else q.2)) (bR d.p (cL (-1)) N,if d.np+-1=0 then rdy++[d.p] else rdy)=(j8 c d.p).foldl iw (bR d.p (cL (-1)) N,if d.np+-1=0 then rdy++[d.p] else rdy) from rfl,(ih (bR d.p (cL (-1)) N) (if d.np+-1=0 then rdy++[d.p] else rdy) Gm (cL (-1) d) uZ rfl (by show (c:Int)<=d.np+-1;exact NY hc)),e2]
  congr 1;have hi:(cL (-1) d).np=d.np+-1:=rfl;erw[hi];by_cases h1:d.np+-1=0
  ·have:c=0:=Nat.le_zero.mp (uL (bH (NY hc) (lg h1)));clear ih hc e2;subst this;have:d.np=1:=Int.eq_of_sub_eq_zero h1;simp[this]
  ·erw[if_neg h1];by_cases h2:d.np=(c:Int)+1
   ·have:c≠0:=λq=>h1 (by rw[h2,q];rfl);erw[if_pos ⟨this,by exact (congrArg (·+_) h2).trans (LK _ _)⟩,if_pos ⟨by exact λq=>tx _ q,by exact h2⟩]
   ·erw[if_neg λq=>h2 ((Int.neg_add_cancel_right _ 1).symm.trans (congrArg (·+_) q.2)),if_neg λq=>h2 (by have:=q.2;exact this)]
noncomputable def qP(k:List (List Cps))(h:Nat):List (List Cps)->List (List Cps)
 |[]=>[]
 |y::l=>if aZ k y.dropLast=h/\y.dropLast∉l.map dG then y.dropLast::qP k h l else qP k h l
theorem zsr(k:List (List Cps))(h:Nat):∀l:List (List Cps),iZ k h l=qP k h l:=λl=>by
 induction l with
 |nil=>exact  rfl
 |cons y l ih=>
  have ih:=ih;unfold iZ at ih ⊢;erw[bX,bC,wz,pe,Ax];have e:((bn (l.map dG).length).filter ((λi=>decide (aZ k ((y.dropLast::l.map dG).getD i [])=h)&&decide ((y.dropLast::l.map dG).getD i []∉(y.dropLast::l.map dG).drop (i+1)))∘nG)).map ((λi=>(y.dropLast::l.map dG).getD i [])∘nG)=qP k h l:=by erw[<- ih];rfl
  unfold qP;have c:(decide (aZ k ((y.dropLast::l.map dG).getD 0 [])=h)&&decide ((y.dropLast::l.map dG).getD 0 []∉(y.dropLast::l.map dG).drop (0+1)))=decide (aZ k y.dropLast=h/\y.dropLast∉l.map dG):=by
   erw[Bool.decide_and];rfl
  erw[c];by_cases hc:aZ k y.dropLast=h/\y.dropLast∉l.map dG
  ·erw[decide_eq_true hc,if_pos rfl,if_pos hc,bX,ca,e];rfl
  ·erw[decide_eq_false hc,if_neg (by simp),if_neg hc,ca,e]
structure RD(rows k A:List (List Cps)):Prop where
 T:Tre k
 A1:∀y,y∈A↔y∈k/\y≠[]
 Al:A.length<=36
 k7:k.length<=7
 hd:∃F,k=[]::F
section
variable{rows k A:List (List Cps)}(R:RD rows k A)
noncomputable def fZ(k A:List (List Cps))(h:Nat)(Z:List (List Cps))(x:List Cps):Nat:=(A.filter λy=>decide (y.dropLast=x/\h<=aZ k y/\y∉Z)).length
noncomputable def npM(k A:List (List Cps))(h:Nat)(O Z:List (List Cps))(x:List Cps):Int:=if aZ k x<h\/x∈Z then -2 else if x∈O then -1 else (fZ k A h Z x:Int)
noncomputable def scA(A:List (List Cps))(x:List Cps):List Cps:=(A.filter λy=>decide (y=x)).map λy=>aA y.dropLast
noncomputable def ndM(k A:List (List Cps))(h:Nat)(O Z:List (List Cps))(x:List Cps):Nd:=⟨aA x,npM k A h O Z x,scA A x⟩
theorem z3o(y:List Cps):scA A y=j8 (A.filter λz=>decide (z=y)).length (aA y.dropLast):=by
 unfold scA;rw[List.eq_replicate_iff];refine ⟨by erw[aK],λb hb=>?_⟩;refine e12 (bo.mp hb) λz hz aC=>?_;subst aC;have:=(d9.mp hz).2;erw[of_decide_eq_true this]
include R
theorem RD.gd:oV k:=λx hx=>(R.T.fd x hx).gd
theorem RD.nodup{g:List Cps->Nd}(hg:∀z,(g z).p=aA z):((k.map g).map (·.p)).Nodup:=by
 erw[ca];unfold wP;rw[wQ];refine R.T.nd.imp_of_mem λ{a b} ha hb bB e=>bB (mF (R.gd a ha) (R.gd b hb) ?_);have e:(g a).p=(g b).p:=e
 rwa[hg,hg] at e
theorem zw1(x:List Cps):ndM k A 0 [] [] x=ndA A x:=by
 delta ndM ndA npM fZ scA;simp
theorem zx6:∀(l:List (List Cps)) (g:List Cps->Nd) (hg:∀z,(g z).p=aA z),(∀x∈l,x∈k)->(l.map aA).foldl ia (k.map g)=k.map λz=>if z∈l then npF (-1) (g z) else g z:=λl=>by
 induction l with
 |nil=>
  intro g hg _;simp
 |cons x l ih=>
  intro g hg h;erw[bX,cB];unfold ia;rw[wm R.gd hg (R.gd x (h x aG))];have:=ih (λz=>if z=x then npF (-1) (g z) else g z) (λz=>by split;exact hg z;exact hg z) λz hz=>h z (aL _ hz)
  unfold ia at this;erw[this];refine eq λz zz=>?_;by_cases h1:z=x
  ·clear h this;subst h1;by_cases h2:z∈l<;>simp[h2,npF]
  ·by_cases h2:z∈l<;>simp[h1,h2]
theorem z4u(h:Nat):((rnd k h).map aA).foldl ia (k.map (ndM k A h [] []))=k.map (ndM k A h (rnd k h) []):=by
 erw[zx6 R _ _ (λzz=>rfl) λx hx=>((gB R.T h x).mp hx).1];refine eq λz hz=>?_;delta ndM npF npM;by_cases h1:z∈rnd k h
 ·have hd:=((gB R.T h z).mp h1).2;simp[h1,hd]
 ·simp[h1]
theorem zt7(hy:aZ k y=h)(hZ:y∉Z):fZ k A h Z y.dropLast=fZ k A h (Z++[y]) y.dropLast+(A.filter λz=>decide (z=y)).length:=by
 unfold fZ;clear R;induction A with
 |nil=>rfl
 |cons a A ih=>
  by_cases h1:a=y
  ·subst h1;erw[iA (by simp[hy,hZ]),gc (by simp),iA (by simp),bC,bC,ih];exact qS _ _ _
  ·have e:decide (a.dropLast=y.dropLast/\h<=aZ k a/\a∉Z++[y])=decide (a.dropLast=y.dropLast/\h<=aZ k a/\a∉Z):=by simp[h1]
   erw[pe,pe,gc (by simpa using h1),e]
   split
   ·erw[bC,bC,ih];exact gC _ _ _
   ·exact ih
omit R in
theorem zrg(hx:y.dropLast≠x\/y∉A):fZ k A h (Z++[y]) x=fZ k A h Z x:=by
 unfold fZ;congr 1;refine wN λz hz=>?_;have:z=y->z.dropLast≠x:=λe=>by
  refine cT (hx) (λq=>?_) λq=>?_
  ·erw[e];exact q
  ·exact absurd (by erw[<- e];exact hz) q
 erw[i4,decide_eq_true_eq,decide_eq_true_eq,cU,bM];constructor
 ·rintro ⟨a,b,c⟩;exact ⟨a,b,λq=>c (.inl q)⟩
 ·rintro ⟨a,b,c⟩;exact ⟨a,b,λq=>q.elim c λe=>this e a⟩
noncomputable def td(k A:List (List Cps))(h:Nat)(Z:List (List Cps))(y:List Cps):List (List Cps):=if y≠[]/\fZ k A h (Z++[y]) y.dropLast=0 then [y.dropLast] else []
theorem zsw{h:Nat}{Z:List (List Cps)}{y:List Cps}(hy:y∈rnd k h)(hZ:∀z∈Z,z∈rnd k h)(GK:y∉Z)(rdy:List Cps) :
  fG (k.map (ndM k A h (rnd k h) Z),rdy) (aA y)=(k.map (ndM k A h (rnd k h) (Z++[y])),rdy++(td k A h Z y).map aA)/\lW (aA y) (k.map (ndM k A h (rnd k h) Z))=scA A y/\mJ (aA y) (k.map (ndM k A h (rnd k h) Z))=-1:=by
 refine e02 ((gB R.T h y).mp hy) λyk yd=>?_;have hm:ndM k A h (rnd k h) Z y∈k.map (ndM k A h (rnd k h) Z):=ft yk;have e1:lW (aA y) (k.map (ndM k A h (rnd k h) Z))=scA A y:=KU (R.nodup (g:=ndM k A h (rnd k h) Z) λzz=>rfl) hm;have e2:mJ (aA y) (k.map (ndM k A h (rnd k h) Z))=-1:=by
  have e:mJ (aA y) (k.map (ndM k A h (rnd k h) Z))=npM k A h (rnd k h) Z y:=zp (R.nodup (g:=ndM k A h (rnd k h) Z) λzz=>rfl) hm;erw[e];unfold npM;erw[if_neg (by simp[yd,GK]),if_pos hy]
 refine ⟨?_,e1,e2⟩;unfold fG;dsimp only;erw[e1,z3o,wm R.gd (λzz=>rfl) (R.gd y yk)];have key:∀z∈k,z≠y->(z≠y.dropLast\/y∉A)->ndM k A h (rnd k h) (Z++[y]) z=ndM k A h (rnd k h) Z z:=λz hz h1 h2=>by
  delta ndM npM;erw[zrg (h2.imp (λq e=>q e.symm) id)];simp[h1]
 have self:ndM k A h (rnd k h) (Z++[y]) y=npF (-2) (ndM k A h (rnd k h) Z y):=by
  delta ndM npF npM;simp
 by_cases h0:y=[]
 ·have hA:y∉A:=λq=>((R.A1 y).mp q).2 h0;erw[(wR.mpr λz hz=>by simp only[decide_eq_true_eq];exact λe=>hA (by rw[<- e];exact hz))];have PI:td k A h Z y=[]:=by unfold td;erw[if_neg λq=>q.1 h0]
  erw[PI];show (_,rdy)=(_,rdy++[]);erw[c9];congr 1;refine eq λz hz=>?_;by_cases h1:z=y
  ·erw[if_pos h1,h1,self]
  ·erw[if_neg h1,key z hz h1 (.inr hA)]
 ·have hA:y∈A:=(R.A1 y).mpr ⟨yk,h0⟩;have pd:=qO R.T yk h0;rw[yd] at pd;have O6:(A.filter λz=>decide (z=y)).length≠0:=λq=>by
   have:=l6.mp q;have hm:y∈A.filter λz=>decide (z=y):=d9.mpr ⟨hA,by simp⟩;rw[this] at hm;cases hm
  have GE:=zt7 R yd GK;have oh:∀Z',(∀z∈Z',z∈rnd k h)->npM k A h (rnd k h) Z' y.dropLast=(fZ k A h Z' y.dropLast:Int):=λZ' QC=>by
   unfold npM;have h1:y.dropLast∉rnd k h:=λq=>by have:=((gB R.T h _).mp q).2;exact gF pd this
   erw[if_neg (λq=>q.elim (λq=>by exact ri pd (gE q)) λq=>h1 (QC _ q)),if_neg h1]
  have Rr:∀z∈Z++[y],z∈rnd k h:=λz hz=>by
   refine cT (cU.mp hz) (λq=>?_) λq=>?_
   ·exact hZ z q
   ·erw[bM.mp q];exact hy
  have n8:ndM k A h (rnd k h) Z y.dropLast∈k.map λz=>if z=y then npF (-2) (ndM k A h (rnd k h) Z z) else ndM k A h (rnd k h) Z z:=bo.mpr ⟨y.dropLast,(R.T.cl y yk),if_neg (λe=>by rw[e,yd] at pd;exact lc _ pd)⟩
  have Ge:(ndM k A h (rnd k h) Z y.dropLast).np=(fZ k A h Z y.dropLast:Int):=oh Z hZ;erw[zyx (aA y.dropLast) _ _ rdy (R.nodup (λz=>by split<;>rfl)) _ n8 rfl (by erw[Ge];exact iL (dL (aE GE.symm))),wm R.gd (λz=>by split<;>rfl) (R.gd _ (R.T.cl y yk))]
  congr 1
  ·refine eq λz hz=>?_;by_cases h1:z=y.dropLast
   ·clear hz;subst h1;erw[if_pos rfl,if_neg (λe=>by rw[e,yd] at pd;exact lc _ pd)];delta ndM cL;dsimp only;erw[oh Z hZ,oh _ Rr];congr 1;lia
   ·erw[if_neg h1];by_cases h2:z=y
    ·erw[if_pos h2,h2,self]
    ·erw[if_neg h2,key z hz h2 (.inl h1)]
  ·congr 1;erw[Ge];unfold td;by_cases h1:fZ k A h (Z++[y]) y.dropLast=0
   ·erw[if_pos ⟨O6,by exact congrArg _ (GE.trans ((congrArg (Fk · _) h1).trans (i0 _)))⟩,if_pos ⟨h0,h1⟩];rfl
   ·erw[if_neg λq=>h1 (by have:=q.2;lia),if_neg λq=>h1 q.2];rfl
theorem zxi:∀(l Z:List (List Cps)),Z++l=rnd k h->∀rdy:List Cps,(l.map aA).foldl fG (k.map (ndM k A h (rnd k h) Z),rdy)=(k.map (ndM k A h (rnd k h) (rnd k h)),rdy++(qP k (h+1) l).map aA)/\okD (l.map aA) (k.map (ndM k A h (rnd k h) Z),rdy):=λl=>by
 induction l with
 |nil=>
  intro Z e rdy;rw[c9] at e;erw[e];exact ⟨by show (_,rdy)=(_,rdy++[]);erw[c9],trivial⟩
 |cons y l ih=>
  intro Z e rdy;have n8:∀z,z∈Z\/z=y\/z∈l->z∈rnd k h:=λz hz=>by erw[<- e];simp;exact hz
  have hy:=n8 y (.inr (.inl rfl));have fh:=Ed R.T h;rw[<- e,jw,fM] at fh;refine e03 (zsw R hy (λz hz=>n8 z (.inl hz)) (λq=>fh.2.2 _ q _ (aG) rfl) rdy) λs1 s2 s3=>?_;refine e02 (ih (Z++[y]) (by erw[bD];exact e) (rdy++(td k A h Z y).map aA)) λi1 i2=>?_;refine e02 ((gB R.T h y).mp hy) λyk yd=>?_;refine ⟨?_,?_,s3,?_,?_⟩
  ·erw[bX,cB,s1,i1];congr 1;erw[bD,<- cf];congr 2;unfold td;rw[qP];by_cases h0:y=[]
   ·have:¬ (aZ k y.dropLast=h+1/\y.dropLast∉l.map dG):=λq=>by
     have:=q.1;rw[h0] at this yd;rw[NZ,yd] at this;exact wG _ this.symm
    erw[if_neg λq=>q.1 h0,if_neg this];rfl
   ·have pd:=qO R.T yk h0;rw[yd] at pd;have:(y≠[]/\fZ k A h (Z++[y]) y.dropLast=0)↔(aZ k y.dropLast=h+1/\y.dropLast∉l.map dG):=by
     have hc:fZ k A h (Z++[y]) y.dropLast=0↔∀z∈k,z≠[]->z.dropLast=y.dropLast->h<=aZ k z->z∈Z++[y]:=by
      unfold fZ;rw[l6,wR];constructor
      ·intro q z z1 z2 z3 z4;have:=q z ((R.A1 z).mpr ⟨z1,z2⟩);simp only[decide_eq_true_eq] at this;exact Classical.byContradiction λz5=>this ⟨z3,z4,z5⟩
      ·intro q z hz;refine e02 ((R.A1 z).mp hz) λz1 z2=>?_;simp only[decide_eq_true_eq];rintro ⟨z3,z4,z5⟩;exact z5 (q z z1 z2 z3 z4)
     rw[hc];constructor
     ·rintro ⟨_,q⟩;have jS:aZ k y.dropLast=h+1:=by
       obtain ⟨m,hm⟩:∃m,aZ k y.dropLast=m+1:=⟨aZ k y.dropLast-1,by exact jy (wO (dL pd))⟩;refine e14 (zA R.T (R.T.cl y yk) hm) λz z1 z2 z3 z4=>?_;have:=q z z1 z2 z3 (ah (dU (ah pd (aE hm))) (aE z4.symm));have:=((gB R.T h z).mp (n8 z (by rcases cU.mp this with a|a;exact .inl a;exact .inr (.inl (bM.mp a))))).2
       exact hm.trans (congrArg nG (z4.symm.trans this))
      refine ⟨jS,λq2=>?_⟩;refine e12 (bo.mp q2) λz hz ez=>?_;refine e02 ((gB R.T h z).mp (n8 z (.inr (.inr hz)))) λzk zd=>?_;have ua:z≠[]:=λq=>by
       rw[q,NZ] at ez;rw[<- ez,<- q,zd] at jS;exact wG _ jS.symm
      rcases cU.mp (q z zk ua ez (aE zd.symm)) with a|a
      ·exact fh.2.2 z a z (aL _ hz) rfl
      ·rw[bM.mp a] at hz;exact fh.2.1.1 hz
     ·rintro ⟨q1,q2⟩;refine ⟨h0,λz z1 z2 z3 z4=>?_⟩;have:=qO R.T z1 z2;rw[z3,q1] at this;have hz:z∈rnd k h:=(gB R.T h z).mpr ⟨z1,by exact fJ (dU this) z4⟩;rw[<- e] at hz;refine cT (cU.mp hz) (λa=>?_) λa=>?_
      ·exact lh _ a
      ·refine cT (bu.mp a) (λa=>?_) λa=>?_
       ·erw[a];simp
       ·exact absurd (bo.mpr ⟨z,a,z3⟩) q2
    by_cases h1:y≠[]/\fZ k A h (Z++[y]) y.dropLast=0
    ·erw[if_pos h1,if_pos (this.mp h1)];rfl
    ·erw[if_neg h1,if_neg λq=>h1 (this.mpr q)];rfl
  ·skip;erw[ca];exact bo.mpr ⟨y,yk,rfl⟩
  ·intro t ht;have ht:t∈lW (aA y) (k.map (ndM k A h (rnd k h) Z)):=ht;rw[s2] at ht;refine e12 (bo.mp ht) λz hz aI=>?_;subst aI;erw[ca];exact bo.mpr ⟨z.dropLast,R.T.cl z ((R.A1 z).mp (d9.mp hz).1).1,rfl⟩
  ·show okD (l.map aA) (fG (k.map (ndM k A h (rnd k h) Z),rdy) (aA y));erw[s1];exact i2
theorem zzp(h:Nat):k.map (ndM k A h (rnd k h) (rnd k h))=k.map (ndM k A (h+1) [] []):=by
 refine eq λz hz=>?_;delta ndM npM;have e1:(aZ k z<h\/z∈rnd k h)↔(aZ k z<h+1\/z∈([]:List (List Cps))):=by
  rw[gB R.T h z];simp[hz];exact Nat.lt_succ_iff_lt_or_eq.symm
 have e2:fZ k A h (rnd k h) z=fZ k A (h+1) [] z:=by
  unfold fZ;congr 1;refine wN λy hy=>?_;erw[i4,decide_eq_true_eq,decide_eq_true_eq,gB R.T h y];have:=((R.A1 y).mp hy).1;simp[this];lia
 erw[e2];by_cases q:aZ k z<h\/z∈rnd k h
 ·erw[if_pos q,if_pos (e1.mp q)]
 ·erw[if_neg q,if_neg λw=>q (e1.mpr w),if_neg λw=>q (.inr w),if_neg eQ]
end
noncomputable def wn(P:List (List Cps))(x:List Cps):List (List Cps):=P.filter λy=>decide (y≠[]/\y.dropLast=x)
noncomputable def gx(F P:List (List Cps))(x:List Cps):Nat:=(wn P x).foldr (λc a=>(gD F c+1) ^^^ a) 0
theorem z6t(F P:List (List Cps))(y x:List Cps):gx F (P++[y]) x=if y≠[]/\y.dropLast=x then gx F P x ^^^ (gD F y+1) else gx F P x:=by
 delta gx wn;erw[rA];by_cases h:y≠[]/\y.dropLast=x
 ·erw[if_pos h,iA (by simpa using h),Fz,List.foldr_append,z3s (λc=>gD F c+1)]
  simp
 ·erw[if_neg h,gc (by simpa using h),Fz,c9]
theorem LC{F:List (List Cps)}(hF:F.length<=6)(x:List Cps):gD F x<8:=wi hF _
theorem yat{F:List (List Cps)}(hF:F.length<=6)(P:List (List Cps))(x:List Cps):gx F P x<16:=by
 unfold gx;induction wn P x with
 |nil=>exact (by decide:(0:Nat)<16)
 |cons c l ih=>
  erw[Az];have:=LC hF c;exact Nat.xor_lt_two_pow (n:=4) (lT (aF (bk this) (aq _)) rfl) ih
noncomputable def PrR(k:List (List Cps)):Nat->List (List Cps)
 |0=>[]
 |h+1=>PrR k h++rnd k h
theorem zp9(k:List (List Cps)):∀m,kZ k m=(bn (m+1)).map (rnd k):=λm=>by
 induction m with
 |zero=>exact  rfl
 |succ m ih=>
  erw[Fq,cf,NX,<- ih,kZ];erw[zB];rfl
section
variable{k F:List (List Cps)}(T:Tre k)
include T
theorem qQ:∀(h:Nat) (x:List Cps),x∈PrR k h↔x∈k/\aZ k x<h:=λh=>by
 induction h with
 |zero=>
  intro x;simp[PrR]
 |succ h ih=>
  intro x;rw[PrR,cU,ih x,gB T];constructor
  ·rintro (⟨a,b⟩|⟨a,b⟩)
   ·exact ⟨a,by exact gE b⟩
   ·exact ⟨a,by exact cr (aE b)⟩
  ·rintro ⟨a,b⟩;by_cases q:aZ k x<h
   ·exact .inl ⟨a,q⟩
   ·exact .inr ⟨a,by exact fJ (dU b) (d8 q)⟩
theorem Eg:∀h:Nat,(PrR k h).Nodup:=λh=>by
 induction h with
 |zero=>exact  rC
 |succ h ih=>
  rw[PrR,jw];refine ⟨ih,Ed T h,λa ha b hb e=>?_⟩;have h1:=((qQ T h a).mp ha).2;have h2:=((gB T h b).mp hb).2;rw[e] at h1;exact gF h1 h2.symm
variable(hk:k=[]::F)(h7:k.length<=7)
include hk h7
theorem Eh{P:List (List Cps)}(hP:P.Nodup)(Qi:∀y∈P,y∈k){x:List Cps}(hx:∀y∈k,y≠[]->y.dropLast=x->y∈P):gx F P x=gD F x:=by
 have fh:=T.nd;rw[hk,fM] at fh;have m:∀y,y∈F↔y∈k/\y≠[]:=λy=>by
  rw[hk,bu];constructor
  ·intro h;exact ⟨.inr h,λe=>fh.1 (by erw[<- e];exact h)⟩
  ·rintro ⟨a|a,b⟩
   ·exact absurd a b
   ·exact a
 unfold gx;rw[z4b (by rw[hk,bC] at h7;exact dU h7) fh.2 (λy hy=>?_) x (wn P x) (λc=>?_) (hP.filter _)]
 ·by_cases e:y.dropLast=[]
  ·exact .inr e
  ·exact .inl ((m _).mpr ⟨T.cl y ((m y).mp hy).1,e⟩)
 ·unfold wn;rw[d9,decide_eq_true_eq,m c];constructor
  ·rintro ⟨a,b,d⟩;exact ⟨⟨Qi c a,b⟩,b,d⟩
  ·rintro ⟨⟨a,b⟩,_,d⟩;exact ⟨hx c a b d,b,d⟩
theorem zud(ks:List Cps)(mu:∀x∈k,aA x∈ks){h:Nat}:∀(l Z:List (List Cps)),Z++l=rnd k h->∀g:Cps->Nat,(∀x∈k,g (aA x)=gx F (PrR k h++Z) x) ->
  okW ks (l.map aA) g/\∀x∈k,((l.map aA).foldl j5 g) (aA x)=gx F (PrR k h++rnd k h) x:=λl=>by
 induction l with
 |nil=>
  intro Z e g hg;rw[c9] at e;erw[<- e];exact ⟨trivial,hg⟩
 |cons y l ih=>
  intro Z e g hg;have hF:F.length<=6:=by rw[hk,bC] at h7;exact dU h7
  refine e02 ((gB T h y).mp (by rw[<- e];simp)) λyk yd=>?_;have fy:=T.fd y yk;have mS:=fy.plen;have step:∀x∈k,j5 g (aA y) (aA x)=gx F (PrR k h++(Z++[y])) x:=λx hx=>by
   erw[<- bD,z6t];by_cases h0:y=[]
   ·erw[if_neg λq=>q.1 h0];unfold j5;erw[if_pos (by erw[h0];rfl)];exact hg x hx
   ·refine e21 ((wf y).resolve_left h0) λa c aC=>?_;subst aC;have ak:a∈k:=by have:=T.cl _ yk;rwa[rD] at this
    have bB:aA (a++[c])≠[47]:=λq=>h0 (mF fy.gd (y:=[]) (λ_ h=>by cases h) q);unfold j5;rw[if_neg bB,(DR a c fy.gd),rD,hg a ak,hg _ yk];by_cases h1:x=a
    ·clear ak yk fy mS bB;subst h1;erw[if_pos rfl,if_pos ⟨h0,rfl⟩];congr 2;refine Eh T hk h7 ?_ ?_ ?_
     ·have:=Eg T (h+1);rw[PrR,<- e,<- bD] at this;exact (jw.mp this).1
     ·intro z hz;rcases cU.mp hz with q|q
      ·exact ((qQ T h z).mp q).1
      ·exact ((gB T h z).mp (by erw[<- e];exact lh _ q)).1
     ·intro z zk ua zd;refine lh _ ((qQ T h z).mpr ⟨zk,?_⟩);have:=qO T zk ua;rw[zd,yd] at this;exact this
    ·have:aA x≠aA a:=λq=>h1 (mF (T.fd x hx).gd (T.fd a ak).gd q);erw[if_neg this,if_neg λq=>h1 q.2.symm];exact hg x hx
  refine e02 (ih (Z++[y]) (by erw[bD];exact e) (j5 g (aA y)) step) λi1 i2=>?_;refine ⟨⟨by exact le2 mS rfl,λbB=>?_,i1⟩,i2⟩;clear i1 i2 mS step;refine e21 ((wf y).resolve_left (λq=>bB (by rw[q];rfl))) λa c aI=>?_;subst aI;have ak:a∈k:=by have:=T.cl _ yk;rwa[rD] at this
  erw[(DR a c fy.gd)];refine ⟨mu _ yk,mu a ak,?_,by erw[hg a ak];exact yat hF _ _⟩;rw[hg _ yk,Eh T hk h7 (P:=PrR k h++Z) ?_ ?_ ?_]
  ·have:=LC hF (a++[c]);exact lT (bk this) rfl
  ·have:=Eg T (h+1);rw[PrR,<- e,<- bD] at this;exact (jw.mp this).1
  ·intro z hz;rcases cU.mp hz with q|q
   ·exact ((qQ T h z).mp q).1
   ·exact ((gB T h z).mp (by erw[<- e];exact lh _ q)).1
  ·intro z zk ua zd;refine lh _ ((qQ T h z).mpr ⟨zk,?_⟩);have:=qO T zk ua;rw[zd,yd] at this;exact this
end
theorem z2e(l:List Cps)(c:Cps)(hc:c≠[]):(aA l).length<(aA (l++[c])).length:=by
 have h:0<c.length:=by
  induction c using bI with
  |nil=>exact absurd rfl hc
  |cons=>simp
 unfold aA;induction l using bI with
 |nil=>simpa[bq] using h
 |cons a l=>erw[Kt];simp
theorem LD:∀(L F:List (List Cps)),∃F',L.foldl ib ([]::F)=[]::F':=λL=>by
 induction L with
 |nil=>exact λF=>⟨F,rfl⟩
 |cons y L ih=>
  intro F;have:∃F',ib ([]::F) y=[]::F':=by
   delta ib putL;split<;>split<;>exact ⟨_,rfl⟩
  refine e11 this ?_;clear this;intro F' e;erw[cB,e];exact ih F'
theorem z7e(n:Nat):∀l:List Nat,(∀a∈l,a<=n)->l.sum<=n*l.length:=λl=>by
 induction l with
 |nil=>
  intro _;simp
 |cons a l ih=>
  intro h;have h1:=ih λb hb=>h b (aL _ hb);have h2:=h a aG;erw[Nn,bC,Nat.mul_succ];exact ac2 (aF h1 h2)
noncomputable def Tq(rows:List (List Cps)):Nat->TS
 |0=>T0s rows
 |h+1=>zu (Tq rows h)
section
variable{rows:List (List Cps)}(cQ:∀x∈rows,Fd x)(hr:rows.length<=6)(h7:(bG rows).length<=7)
include cQ h7
theorem LF{x:List Cps}(hx:x∈rows):x.length<=6:=by
 have hk:x∈bG rows:=by
  rw[knw_mem];by_cases h:x=[]
  ·exact .inl h
  ·have:x.length≠0:=λq=>h (l6.mp q);exact .inr (rE.mpr ⟨x,hx,ups_mem.mpr ⟨x.length,by exact rB this,aq _,by erw[wH]⟩⟩)
 have:=Ef (nD cQ) hk;exact dU (ah this h7)
include hr
theorem qR:RD rows (bG rows) (rows.flatMap ups) where
 T:=nD cQ
 A1:=λy=>⟨λh=>⟨knw_mem.mpr (.inr h),LA h⟩,λh=>(knw_mem.mp h.1).resolve_left h.2⟩
 Al:=ah (Lk rows λx hx=>⟨cQ x hx,LF cQ h7 hx⟩) (le2 (fe _ hr) rfl)
 k7:=h7
 hd:=LD _ _
theorem zqf:qM ((bG rows).map (ndA (rows.flatMap ups)))=(rnd (bG rows) 0).map aA:=by
 have R:=qR cQ hr h7;unfold qM;erw[Ax,ca];have e:(bG rows).filter ((λd:Nd=>decide (d.np=0))∘ndA (rows.flatMap ups))=rnd (bG rows) 0:=by
  refine wN λx hx=>?_;show decide ((((rows.flatMap ups).filter λy=>decide (y.dropLast=x)).length:Int)=0)=_;erw[i4,decide_eq_true_eq,decide_eq_true_eq];have:(((rows.flatMap ups).filter λy=>decide (y.dropLast=x)).length:Int)=0↔(rows.flatMap ups).filter (λy=>decide (y.dropLast=x))=[]:=by
   rw[<- l6];exact Int.natCast_eq_zero
  rw[this,wR];constructor
  ·intro h;cases hd:aZ (bG rows) x with
   |zero=>rfl
   |succ m=>
    refine e14 (zA R.T hx hd) λy y1 y2 y3 _=>?_;exact absurd (decide_eq_true y3) (h y ((R.A1 y).mpr ⟨y1,y2⟩))
  ·intro h y hy;refine e02 ((R.A1 y).mp hy) λy1 y2=>?_;have:=qO R.T y1 y2;simp only[decide_eq_true_eq];intro q;rw[q,h] at this;exact nM _ this
 erw[e];rfl
structure Ei(rows F:List (List Cps))(h:Nat)(s:TS):Prop where
 N:s.N=(bG rows).map (ndM (bG rows) (rows.flatMap ups) h [] [])
 r:s.rdy=(rnd (bG rows) h).map aA
 g:∀x∈bG rows,s.g (aA x)=gx F (PrR (bG rows) h) x
 s:s.rs=(bn h).map λi=>(rnd (bG rows) i).map aA
theorem LG{F:List (List Cps)}(hF:bG rows=[]::F){h:Nat}{s:TS}(I:Ei rows F h s) :
  Ei rows F (h+1) (zu s)/\okD s.rdy (s.rdy.foldl ia s.N,[])/\okW (gA rows) s.rdy s.g:=by
 have R:=qR cQ hr h7;refine e02 (zxi R (h:=h) (rnd (bG rows) h) [] rfl []) λd1 d2=>?_;obtain ⟨w1,w2⟩:=zud R.T hF h7 (gA rows) (λx hx=>ks0_mem.mpr ⟨x,hx,rfl⟩) (h:=h) (rnd (bG rows) h) [] rfl s.g λx hx=>by erw[c9];exact I.g x hx
 have ho:=z4u R h;refine ⟨⟨?_,?_,?_,?_⟩,?_,?_⟩
 ·show (s.rdy.foldl fG (s.rdy.foldl ia s.N,[])).1=_;erw[I.r,I.N,ho,d1];exact zzp R h
 ·show (s.rdy.foldl fG (s.rdy.foldl ia s.N,[])).2=_;erw[I.r,I.N,ho,d1,zB,zsr];rfl
 ·intro x hx;show (s.rdy.foldl j5 s.g) (aA x)=_;erw[I.r];exact w2 x hx
 ·show s.rs++[s.rdy]=_;erw[I.s,I.r,Fq,cf];rfl
 ·erw[I.r,I.N,ho];exact d2
 ·rw[I.r];exact w1
theorem zE{F:List (List Cps)}(hF:bG rows=[]::F):∀h:Nat,Ei rows F h (Tq rows h):=λh=>by
 induction h with
 |zero=>
  have R:=qR cQ hr h7;refine ⟨(zD cQ).trans (eq λx zz=>(zw1 R x).symm),?_,λx zz=>rfl,rfl⟩;show qM (N0 rows)=_;erw[(zD cQ)];exact zqf cQ hr h7
 |succ h ih=>exact  (LG cQ hr h7 hF (ih)).1
theorem LH{h:Nat}{d:Nd}(hd:d∈(bG rows).map (ndM (bG rows) (rows.flatMap ups) h [] [])):d.sc.length<=36/\-2<=d.np/\d.np<=36:=by
 have Al:=(qR cQ hr h7).Al;refine e12 (bo.mp hd) λx hx aC=>?_;subst aC;refine ⟨?_,?_⟩
 ·show (scA _ x).length<=36;unfold scA;erw[aK];exact ah (lj _ _) Al
 ·show -2<=npM _ _ h [] [] x/\npM _ _ h [] [] x<=36;have hc:fZ (bG rows) (rows.flatMap ups) h [] x<=36:=ah (lj _ _) Al;unfold npM;split
  ·exact by decide
  ·erw[if_neg eQ];exact ⟨bH (by decide) (dw _),iL hc⟩
theorem z8e{F:List (List Cps)}(hF:bG rows=[]::F):Lj rows (Tq rows) (aZ (bG rows) []+1) where
 fd:=λx hx=>⟨cQ x hx,LF cQ h7 hx⟩
 le:=hr
 sc:=λd hd=>by
  have R:=qR cQ hr h7;rw[(zD cQ)] at hd ⊢;refine e12 (bo.mp hd) λx hx aI=>?_;subst aI;have Al:=R.Al;refine ⟨?_,λt ht=>?_⟩
  ·show (((rows.flatMap ups).filter λy=>decide (y=x)).map λy=>aA y.dropLast).length<=50;erw[aK];exact ah (lj _ _) (le2 Al rfl)
  ·refine e12 (bo.mp ht) λy hy aS=>?_;subst aS;refine e02 (d9.mp hy) λGA iI=>?_;have iI:=of_decide_eq_true iI;subst iI;refine e02 ((R.A1 y).mp GA) λyk OR=>?_;refine ⟨?_,?_⟩
   ·rw[ca];exact bo.mpr ⟨y.dropLast,R.T.cl y yk,rfl⟩
   ·show (aA y.dropLast).length<(aA y).length;have fy:=R.T.fd y yk;clear GA hx ht iI yk hd hy;refine e21 ((wf y).resolve_left OR) λa c be=>?_;subst be;erw[rD];exact z2e a c (fy.gd c (md _ aG)).1
 tot:=by
  have Al:=(qR cQ hr h7).Al;erw[zD cQ,ca];refine ah (z7e 36 _ λa ha=>?_) (by erw[aK];exact le2 (fe _ h7) rfl);refine e12 (bo.mp ha) λx hx bw=>?_;subst bw;show (((rows.flatMap ups).filter λy=>decide (y=x)).map λy=>aA y.dropLast).length<=36;erw[aK];exact ah (lj _ _) Al
 ks:=LB
 z:=rfl
 H7:=by
  have T:=nD cQ;refine e13 (wl T T.z) λy hy _ e=>?_;have:=Ef T hy;rw[fu] at e;exact ah (lC (aE e.symm) this) h7
 t:=λh hh=>by
  have T:=(qR cQ hr h7).T;have I:=zE cQ hr h7 hF h;refine e03 (LG cQ hr h7 hF I) λ_ o1 o2=>?_;have jS:(rnd (bG rows) h).length<=7:=ah ((Ed T h).length_le_of_subset λx hx=>((gB T h x).mp hx).1) h7;refine ⟨⟨?_,?_,?_,?_,?_,o1,o2⟩,rfl⟩
  ·erw[I.r];have:∀m,h+m=aZ (bG rows) []->∃x∈bG rows,aZ (bG rows) x=h:=by
    intro m;have:∀m',∀x∈bG rows,aZ (bG rows) x=h+m'->∃x∈bG rows,aZ (bG rows) x=h:=by
     intro m';induction m' with
     |zero=>intro x hx e;exact ⟨x,hx,e⟩
     |succ m' ih=>
      intro x hx e;refine e14 (zA T hx (m:=h+m') e) λy y1 _ _ y4=>?_;exact ih y y1 y4
    intro e;exact this m [] T.z e.symm
   refine e12 (this (aZ (bG rows) []-h) (tF (dU hh))) λx hx e=>?_;intro q;have hm:=(gB T h x).mpr ⟨hx,e⟩;rw[Fy] at q;rw[q] at hm;cases hm
  ·erw[I.r,aK];exact le2 jS rfl
  ·intro s hs;rw[I.r] at hs;refine e12 (bo.mp hs) λx hx bA=>?_;subst bA;erw[I.N,ca];exact bo.mpr ⟨x,((gB T h x).mp hx).1,rfl⟩
  ·rw[I.N];intro d hd;have:=LH cQ hr h7 hd;exact ⟨le2 this.1 rfl,bH (by decide) this.2.1,bH this.2.2 (by decide)⟩
  ·erw[I.N];intro l hl;refine e12 (bo.mp hl) λd hd bN=>?_;subst bN;have:=LH cQ hr h7 hd;exact le2 this.1 rfl
 e:=by
  have T:=nD cQ;erw[(zE cQ hr h7 hF _).r,Fy];refine List.eq_nil_iff_forall_not_mem.mpr λx hx=>?_;refine e02 ((gB T _ x).mp hx) λxk xd=>?_;refine e13 (wl T xk) λy hy _ e=>?_;have:=zy T hy (x:=[]) rfl;rw[fu] at this;exact gF (aE xd.symm) (fJ (ah (ah (aE e.symm) (gb _ _)) this) (bk (aE xd.symm)))
theorem z1z{F:List (List Cps)}(hF:bG rows=[]::F):(Tq rows (aZ (bG rows) []+1)).rs=(kZ (bG rows) (aZ (bG rows) [])).map (λg=>g.map aA)/\∀x∈bG rows,(Tq rows (aZ (bG rows) []+1)).g (aA x)=gD F x:=by
 have T:=nD cQ;refine ⟨?_,λx hx=>?_⟩
 ·erw[(zE cQ hr h7 hF (aZ (bG rows) []+1)).s,zp9,ca];rfl
 ·erw[(zE cQ hr h7 hF (aZ (bG rows) []+1)).g x hx];have all:∀y∈bG rows,y∈PrR (bG rows) (aZ (bG rows) []+1):=λy hy=>(qQ T _ y).mpr ⟨hy,by
   refine e13 (wl T hy) λz hz _ e=>?_;have:=zy T hz (x:=[]) rfl;rw[fu] at this;exact Nat.lt_succ_of_le (ah (aE e.symm) (ah (gb _ _) this))⟩
  exact Eh T hF h7 (Eg T _) (λy hy=>((qQ T _ y).mp hy).1) λy hy zz zz=>all y hy
end
theorem LI(p:Nat->Bool)(i:Nat)(hp:p i=true):∀n,i<n->cS p n=cS (λj=>p j&&decide (j≠i)) n+2 ^ i
 |n+1,h=>by
  erw[vZ,vZ];by_cases e:i=n
  ·clear h;subst e;erw[if_pos hp,if_neg (by simp)];erw[zw (q:=λj=>p j&&decide (j≠i)) λj hj=>by
    have:j≠i:=λq=>b5 hj q;simp[this]]
   exact rfl
  ·have:(p n&&decide (n≠i))=p n:=by simp[bV e]
   erw[this,LI p i hp n (Av (dU h) e)];split<;>exact gC _ _ _
theorem zx9:∀n,cS (λzz=>true) n+1=2 ^ n:=λn=>by
 induction n with
 |zero=>exact  rfl
 |succ n ih=>
  have:=ih;erw[vZ,Fs,if_pos rfl];lia
theorem Ej(s:Cps)(d:AV)(l:List (Cps × AV))(h:s∉l.map (·.1)):(b7 s d l).map (·.1)=l.map (·.1)++[s]:=by
 erw[(wd s d l (zr h)).1,cf];rfl
theorem ztd{α:Type}(f:α->Cps)(g:α->AV):∀(l:List α) (aa:List (Cps × AV)),(aa.map (·.1)++l.map f).Nodup->(l.foldl (λaa x=>b7 (f x) (g x) aa) aa).map (·.1)=aa.map (·.1)++l.map f:=λl=>by
 induction l with
 |nil=>
  intro aa h;simp
 |cons x l ih=>
  intro aa h;have hx:f x∉aa.map (·.1):=λq=>by
   rw[bX,jw] at h;exact h.2.2 _ q _ (aG) rfl
  erw[cB,ih _ (by erw[(Ej (f x) (g x) aa hx),bD];exact h),(Ej (f x) (g x) aa hx),bD];rfl
section
variable{F:List (List Cps)}(hF:F.length<=6)(T:Tre ([]::F))
include hF T
theorem LJ:(ze F).length=F.length+1/\∀x∈[]::F,(ze F).lookup (aA x)=some (aT (gD F x)):=by
 have fh:=T.nd;rw[fM] at fh;have get:∀{i},(hi:i<F.length)->F.getD i []=F[i]:=λ{i} hi=>by erw[iB,eE hi];rfl
 have mem:∀{i},i<F.length->F.getD i []∈F:=λ{i} hi=>by erw[get hi];exact wL hi
 have inj:∀{i j},i<F.length->j<F.length->F.getD i []=F.getD j []->i=j:=λ{i j} hi hj e=>by rw[get hi,get hj] at e;exact (FD fh.2).mp e
 have gd:∀x∈F,∀c∈x,Gd c:=λx hx=>(T.fd x (aL _ hx)).gd;have FX:∀x∈F,aA x≠[47]:=λx hx q=>fh.1 (by erw[<- mF (gd x hx) (y:=[]) (λzz h=>by cases h) q];exact hx);have GH:(bn F.length).foldl (lV F (dq F (2 ^ F.length))) []=(bn F.length).foldl (λaa i=>b7 (aA (F.getD i [])) (aT ((dq F (2 ^ F.length)).getD (cP F (F.getD i [])-2 ^ i) 0)) aa) []:=rfl;have RC:∀{i},i<F.length->(dq F (2 ^ F.length)).getD (cP F (F.getD i [])-2 ^ i) 0=gD F (F.getD i []):=λ{i} hi=>by
  have e1:cP F (F.getD i [])-2 ^ i=cS (λj=>pre (F.getD i []) (F.getD j [])&&decide (j≠i)) F.length:=by
   show cS _ _-_=_;erw[(LI (λj=>pre (F.getD i []) (F.getD j [])) i (qJ _) F.length hi)];exact E0 _ _
  erw[e1,D9 (s7 _ _)];refine ta λj hj=>?_;congr 1;erw[i4,decide_eq_true_eq,decide_eq_true_eq];constructor
  ·intro a b;exact a (inj hj hi b)
  ·rintro a rfl;exact a rfl
 have keys:((bn F.length).foldl (lV F (dq F (2 ^ F.length))) []).map (·.1)=(bn F.length).map λi=>aA (F.getD i []):=by
  rw[GH,ztd (λi=>aA (F.getD i [])) _ _ [] ?_]
  ·rfl
  ·show ((bn F.length).map λi=>aA (F.getD i [])).Nodup;unfold wP;rw[wQ];refine Fu.imp_of_mem λ{a b} ha hb bB e=>bB ?_;have ha:=dc.mp ha;exact inj ha (dc.mp hb) (mF (gd _ (mem ha)) (gd _ (mem (dc.mp hb))) e)
 have By:([47]:Cps)∉((bn F.length).foldl (lV F (dq F (2 ^ F.length))) []).map (·.1):=by
  erw[keys];intro q;refine e12 (bo.mp q) λi hi e=>?_;exact FX _ (mem (dc.mp hi)) e
 refine ⟨?_,λx hx=>?_⟩
 ·have:=congrArg b9 (Ej [47] (aT ((dq F (2 ^ F.length)).getD (2 ^ F.length-1) 0)) _ By);rw[bx,aK,keys,aK,iy] at this;exact this
 ·unfold ze;erw[DV];rcases bu.mp hx with h|h
  ·clear hx;subst h;erw[if_pos (show aA []=[47] from rfl)];congr 2;have e:2 ^ F.length-1=cS (λzz=>true) F.length:=by have:=zx9 F.length;exact fJ (Nat.sub_le_of_le_add (aE this.symm)) (Nat.le_sub_of_add_le (aE this))
   erw[e,D9 (s7 _ _)];refine ta λj hj=>?_;have:F.getD j []≠[]:=λq=>fh.1 (by erw[<- q];exact mem hj);show true=(pre [] _&&decide (F.getD j []≠[]));erw[decide_eq_true this,Bool.and_true];exact (pre_iff.mpr (List.nil_prefix)).symm
  ·erw[if_neg (FX x h),GH];clear hx;obtain ⟨i,hi,rfl⟩:=qT h;have e:=KC (λi=>aA (F.getD i [])) (λi=>aT ((dq F (2 ^ F.length)).getD (cP F (F.getD i [])-2 ^ i) 0)) (bn F.length) [] i (λj hj e=>by
    erw[inj (dc.mp hj) hi (mF (gd _ (mem (dc.mp hj))) (gd _ (mem hi)) e)]) (.inl (dc.mpr hi))
   rw[RC hi,get hi] at e;exact e
end
theorem z4r(H:List AO)(es:List (Cps × AV)):∀l:List (Cps × AV),(∀q∈l,∃m:Int,q.2=.int m/\es.lookup q.1=some (.int m))->oy H es l=some true:=λl=>by
 induction l with
 |nil=>exact λ_=>rfl
 |cons q l ih=>
  intro h;refine e12 (h q aG) λm h1 h2=>?_;show (es.lookup q.1).elim (some false) (λu=>(aeq H 4 q.2 u).bind λa=>(oy H es l).map (a&&·))=_;erw[h1,h2,ih λq hq=>h q (aL _ hq)];show some ((m==m)&&true)=_;erw[beq_self_eq_true];rfl
theorem zxr(H:List AO):∀gs:List (List Cps),hV (aeq H 6) (gs.map k9) (gs.map k9)=some true:=λgs=>by
 induction gs with
 |nil=>exact  rfl
 |cons g gs ih=>
  have e:aeq H 6 (k9 g) (k9 g)=some true:=by
   show hV (aeq H 5) (g.map AV.str) (g.map AV.str)=_;erw[Ke H 4 g g];simp
  show (aeq H 6 (k9 g) (k9 g)).bind (λx=>(hV (aeq H 6) (gs.map k9) (gs.map k9)).map (x&&·))=_;erw[e,ih];rfl
noncomputable abbrev z3g:MB:=eh (nth i339.body 2)
theorem zpu(d:Drw)(ds:List Drw):gX (d::ds)=(if d.ok=true then [d.names] else [])++gX ds:=by
 unfold gX;erw[pe];split<;>rfl
theorem Ek{n kD kA:Nat}{rW:List (Drw × Nat)}{R:Option Fl->PrS}{a0 a1 a2:Option AV}{tl:Vs}(uV:kD≠kA) :
  ∀(qs:List (Drw × Nat)) (rows:List (List Cps)) (K:List AO) (a4 a5 a6 a7 a8 a9 bU:Option AV),K[kD]?=some (.list (rW.map mE))->(∀q∈qs,tc q.1/\K[q.2]?=some (.list (q.1.pieces.map AV.str))/\q.2≠kA)->K[kA]?=some (.list (rows.map mK))->rows.length+qs.length<=100 ->
   (∀K' a4 a5 a6 a7 a8 a9 bU,K'[kA]?=some (.list ((rows++gX (qs.map (·.1))).map mK))->Fr [kA] K K'->R none (a0::a1::a2::some (.loc kA)::a4::a5::a6::a7::a8::a9::bU::tl) K') ->
   foW (WA (Sy (n+4)) (.tp [4,5,6,7,8])) (WB (Sy (n+4)) z3g) (.list kD (rW.map mE)) R (qs.map mE) (a0::a1::a2::some (.loc kA)::a4::a5::a6::a7::a8::a9::bU::tl) K
 |[],rows,K,a4,a5,a6,a7,a8,a9,bU,hD,hg,hA,hz,h=>eY hD (h K _ _ _ _ _ _ _ ((c9 rows).symm▸hA) (.refl _ _))
 |(d,kP)::qs,rows,K,a4,a5,a6,a7,a8,a9,bU,hD,hg,hA,hz,h=>by
  have q:=hg (d,kP) aG;have g:tc d:=q.1;have hP:K[kP]?=some (.list (d.pieces.map AV.str)):=q.2.1;refine e24 g.pc λc ps p1 p2 p3 p4=>?_;rw[bC] at hz;have pl:∀q∈d.pieces,q.length<=2:=λq hq=>by
   rw[p1] at hq;exact (bu.mp hq).elim (λe=>e▸Zr p2) λe=>Kg (p3 q e)
  have plen:d.pieces.length<=3:=by erw[p1,bC];exact cr p4
  have BS:(d.pieces.map b9).sum<=6:=ah (Kw pl) (fe 2 plen);have ll:d.lead.length<=3:=(show ∀x∈[[47],[47,47,47],[]],b9 x<=3 by decide) _ g.ld;have jl:=qG d.pieces;have jz:(bq [47] d.pieces).length<=10:=le2 (ah jl (aF BS plen)) rfl;have kj:okL ((d.pieces.map b9).sum+d.pieces.length*([47]:Cps).length)=true:=ce (by
   erw[show ([47]:Cps).length=1 from rfl];exact le2 (aF BS (Ao _ plen)) rfl)
  have sl:=g.st.plen;have tl:(d.lead++bq [47] d.pieces).length<=20:=by erw[bx];exact le2 (aF ll jz) rfl
  have jt:(gz (aA d.start) (d.lead++bq [47] d.pieces)).length<=200:=by
   unfold gz;split
   ·exact le2 tl rfl
   ·split
    ·erw[bx];exact le2 (aF sl tl) rfl
    ·rw[bx,bC];exact le2 (aF sl (aF tl (aq _))) rfl
  have jb:(gz [] (d.lead++bq [47] d.pieces)).length<=200:=by
   unfold gz;erw[if_pos (.inr rfl)];exact le2 tl rfl
  have PJ:iX (gz (aA d.start) (d.lead++bq [47] d.pieces))=aA d.names:=by erw[p1,ZM p2 p3 d.start g.st.gd d.lead g.ld,g.nm,p1]
  have Q2:iX (gz [] (d.lead++bq [47] d.pieces))=oM d.lead d.pieces:=by erw[p1,ZN p2 p3 d.lead g.ld]
  show foW _ _ _ R (AV.tup [aJ d.start,.str d.lead,.loc kP,aJ d.names,.bool d.ok]::qs.map mE) _ K;refine fE hD (iW (i:="str.join") rfl ?_);exists vO hP (qF _) kj;exists oK (ce (le2 (aF ll jz) rfl));exists mG g.st;exists JY (lT (aF sl tl) rfl)
  with_reducible refine J8 (le2 jt rfl) λG1=>?_
  erw[PJ];exists mG g.fd;exists jq;refine b8 (by erw[beq_self_eq_true];rfl) ?_
  with_reducible refine JY (by erw[fu];exact lT (aF (aq _) tl) rfl) ?_
  with_reducible refine J8 (le2 jb rfl) λG2=>?_
  erw[Q2]
  with_reducible refine YR (au (au hP)) (le2 plen rfl) (ah BS (by decide)) (le2 ll rfl) λG3=>?_
  exists jq;refine b8 (by erw[beq_self_eq_true];rfl) (b8 rfl (iV ?_));have F3:Fr [kA] K (K++G1++G2++G3):=(Fr.app _ _ _).trans ((Fr.app _ _ _).trans (.app _ _ _));have xD:=au (G:=G3) (au (G:=G2) (au (G:=G1) hA));have GF:∀q∈qs,tc q.1/\(K++G1++G2++G3)[q.2]?=some (.list (q.1.pieces.map AV.str))/\q.2≠kA:=λq hq=>
   have w:=hg q (aL _ hq)
   ⟨w.1,F3 _ _ (λq=>w.2.2 (bM.mp q)) w.2.1,w.2.2⟩
  rw[bX,zpu] at h;refine ifb (λc=>?_) (λc=>?_)
  ·rw[show d.ok=true from c] at h;refine ir xD (i:="list.append") rfl (nv (okm g.fd.1 (by decide)) ⟨js,?_⟩);exists j0 xD (okm (k:=100) (le2 (dR hz) rfl) (by decide));have on:(AV.tup [.str (aA d.names),.int ((d.names.map AV.str).length:Int)])=mK d.names:=by unfold mK;erw[aK]
   erw[on];have F4:Fr [kA] (K++G1++G2++G3) ((K++G1++G2++G3).set kA (.list (rows.map mK++[mK d.names]))):=.set _ aG;refine Ek uV qs (rows++[d.names]) _ _ _ _ _ _ _ _ (F4 _ _ (λq=>uV (bM.mp q)) (F3 _ _ (λq=>uV (bM.mp q)) hD)) (λq hq=>have w:=GF q hq;⟨w.1,F4 _ _ (λq=>w.2.2 (bM.mp q)) w.2.1,w.2.2⟩) (by erw[cf];exact eP xD) (by erw[bx,eR];exact ac1 hz) λK' a4 a5 a6 a7 a8 a9 bU e F=>?_;exact h K' _ _ _ _ _ _ _ (by erw[e,bD];rfl) (F3.trans (F4.trans F))
  ·rw[show d.ok=false from c] at h;exact Ek uV qs rows _ _ _ _ _ _ _ _ (F3 _ _ (λq=>uV (bM.mp q)) hD) GF xD (bk hz) λK' a4 a5 a6 a7 a8 a9 bU e F=>h K' _ _ _ _ _ _ _ e (F3.trans F)
theorem z6x{n kS:Nat}{gK:List Int}{K:List AO}{P:AV->List AO->Prop}(hz:gK.length<=63)(hS:K[kS]?=some (.pin (gK.map AV.int)))(h:∀K',P (.bool true) K'):Φ (n+5) 339 [.loc kS] K P:=by
 refine dP rfl rfl (ds:=[("script",.loc kS)]) rfl (vs:=[some (.loc kS),none,none,none,none,none,none,none,none,none,none,none,none,none,none,none,none,none,none]) rfl ?_
 with_reducible refine Zt hz hS λkK kD known qs K1 I BN=>?_
 refine e04 (zwe I.rel) λr1 r2 r3 r4=>?_;refine e11 ((LD ((gX (qs.map (·.1))).flatMap ups) []:∃F',bG _=[]::F')) λF hF=>?_;have GQ:(gX (qs.map (·.1))).length<=6:=by
  unfold gX;erw[aK];exact ah (lj _ _) (by erw[aK];exact (aE BN))
 have T:Tre known:=by erw[r1];exact nD r2
 have pQ:known=[]::F:=r1.trans hF;have Bq:F.length<=6:=by rw[pQ,bC] at r3;exact dU r3
 have R:=z8e r2 GQ (by rw[<- r1];exact r3) hF;have u:=z1z r2 GQ (by rw[<- r1];exact r3) hF;rw[<- r1] at R u;refine ⟨jr,?_⟩;refine gT (au I.hD) (okm (k:=6) (aE BN) (by decide)) ?_;refine Ek (b5 (ltG I.hD)) qs [] (K1++[.list []]) _ _ _ _ _ _ _ (au I.hD) (λq hq=>⟨r4 q.1 (ft hq),au (I.pc q hq).1,b5 (ltG (I.pc q hq).1)⟩) aN (by erw[fu];exact le2 (aF (aq _) (aE BN)) rfl) λK2 a4 a5 a6 a7 a8 a9 bU g4 F2=>?_
 with_reducible refine z8f R (pf (gX _)▸g4) λkL kW vW K3 GJ xL P3 hlL hlW=>?_
 have BM:=P3.li _ _ (F2 _ _ (λq=>b5 (ltG I.hK) (bM.mp q)) (au I.hK)) eQ
 with_reducible refine z7q (le2 r3 rfl) T.fd T.z T.cl BM λkR G4 Rx Pm=>?_
 have Gc:=au (G:=G4) BM;rw[pQ] at Gc
 with_reducible refine z62 Bq (λx hx=>T.fd x (by erw[pQ];exact aL _ hx)) Gc λkE vE G5 Oy GC=>?_
 refine ⟨s0,?_⟩;have aR:(K3++G4++G5)[kR]?=some (.list ((Tq (gX (qs.map (·.1))) (aZ known []+1)).rs.map k9)):=by
  erw[au Rx,u.1,ca];refine congrArg (λl=>some (AO.list l)) (eq λg _=>?_);unfold zf;show _=AV.tup ((g.map aA).map AV.str);erw[ca];rfl
 have q1:aeq (K3++G4++G5) 7 (.loc kL) (.loc kR)=some true:=by
  erw[Dw (b5 (dT (ltG GJ) Pm)) (au (G:=G5) (au (G:=G4) GJ)) aR];exact zxr _ _
 have q2:aeq (K3++G4++G5) 7 (.loc kW) (.loc kE)=none:=by
  show (if kW=kE then none else (liO (K3++G4++G5)[kW]?).bind λl=>(liO (K3++G4++G5)[kE]?).bind (hV (aeq (K3++G4++G5) 6) l))=none
  erw[if_neg (b5 (dT (ltG (au xL)) GC)),(au (G:=G5) (au (G:=G4) xL))];rfl
 have q3:mw (K3++G4++G5) (.loc kW) (.loc kE)=some true:=by
  unfold mw;erw[q2];show (if kW=kE then none else (diO (K3++G4++G5)[kW]?).bind λd=>(diO (K3++G4++G5)[kE]?).bind λe=>if d.length=e.length then oy (K3++G4++G5) e d else some false)=_
  erw[if_neg (b5 (dT (ltG (au xL)) GC)),(au (G:=G5) (au (G:=G4) xL)),Oy];show (if _=_ then oy _ _ _ else some false)=_
  rw[if_pos,z4r]
  ·intro q hq;refine e12 (bo.mp hq) λs hs aC=>?_;subst aC;clear hq;refine e12 (ks0_mem.mp hs) λx hx aI=>?_;subst aI;rw[<- r1] at hx;exact ⟨_,rfl,by erw[u.2 x hx];exact (LJ Bq (pQ▸T)).2 x (by erw[<- pQ];exact hx)⟩
  ·erw[aK,z2q r2,(LJ Bq (pQ▸T)).1,<- r1,pQ];rfl
 have qe:eqF (K3++G4++G5) (.tup [.loc kL,.loc kW,.bool false]) (.tup [.loc kR,.loc kE,.bool false])=some true:=by
  have e1:aeq (K3++G4++G5) 8 (.tup [.loc kL,.loc kW,.bool false]) (.tup [.loc kR,.loc kE,.bool false])=none:=by
   show (aeq (K3++G4++G5) 7 (.loc kL) (.loc kR)).bind (λx=>((aeq (K3++G4++G5) 7 (.loc kW) (.loc kE)).bind λy=>(hV (aeq (K3++G4++G5) 7) [.bool false] [.bool false]).map (y&&·)).map (x&&·))=none;erw[q1,q2];rfl
  have e2:mw (K3++G4++G5) (.loc kL) (.loc kR)=some true:=by unfold mw;erw[q1];rfl
  have e3:mw (K3++G4++G5) (.bool false) (.bool false)=some true:=rfl;unfold eqF;erw[e1];show (mw (K3++G4++G5) (.loc kL) (.loc kR)).bind (λx=>((mw (K3++G4++G5) (.loc kW) (.loc kE)).bind λy=>((mw (K3++G4++G5) (.bool false) (.bool false)).bind λz=>(some true).map (z&&·)).map (y&&·)).map (x&&·))=_;erw[e2,q3,e3];rfl
 exists yO qe;refine iV (yK rfl ?_)
 with_reducible refine ZZ (le2 r3 rfl) T.fd (au (au BM)) λG6=>?_
 exact h _
theorem zt9{ρ:List Addr}{h:Heap}{vs:List Value}{xs:List Int}(hI:IntsAre vs xs):VReps ρ h (xs.map AV.int) vs:=by
 induction hI with
 |nil=>exact rfl
 |cons n t _ ih=>exact ⟨_,_,rfl,⟨_,rfl⟩,ih⟩
theorem z8p{S:Sys}{c:Cps}{H:List AO}{P:AV->List AO->Prop}(h:P (.str c) H):sS S i242 [.str c] H P:=by
 unfold sS;refine cA rfl ?_;show WB S i242.body [some (.str c),none,none,none,none,none,none,none,none,none,none,none] H (sP P);exists JU;exists cV js;exists JS;exists iV;exists cI rfl;exact h
theorem z1x{w:gh}{ai:Shared}{mg mb:Str->Option Value}(KX:(K0 w.params).In ai.heap)(hg:ai.heap.Ns rF mg)(hb:ai.heap.Ns wT mb)(nl:ai.heap.NoLimit)(bt:∀x:Str,x≠"__name__"->mb x=FE x) (gens:ai.gens=#[])
  {fa l:Addr} (hm:mg (l8 "law")=some (.ref fa)) {vs:List Value} {xs:List Int} (hL:ai.heap.IsList l vs.toArray) (hI:IntsAre vs xs) (hz:xs.length<=63) (h1:l≠1) :
  cM (av Em w) callerA (.call (.ref fa) ⟨[.ref l],[]⟩) (λr s'=>r=.ok (.ret (.bool true))/\(∀b o,ai.heap.get? b=some o->s'.heap.get? b=some o)/\s'.os=ai.os/\s'.gens=#[]) ai:=by
 let Γ:Gam:=⟨Em,w,ai.heap,ai.os,K0 w.params,mg,mb,KX,hg,hb,nl,bt⟩
 have Rw:fa=339:=by
  have e:nsIn (K0 w.params) rF (l8 "law")=some (some (.ref 339)):=by kernel_rfl
  have:=(mg_of KX hg e).symm.trans hm;injection this with this
  injection this with this
  exact this.symm
 clear hm;subst Rw;have mr:∀f,T0.idf=some f->∀H c,FnSpec Γ 2 f [.str c] H (.str c) H:=λf hf H c=>by
  (injection hf with aC;subst aC)
  refine e23 (XD (Γ:=Γ) (T:=T0) (P:=λd H'=>d=.str c/\H'=H) (JG w.params (vK T0) rfl rfl rfl) (JH w.params (vK T0) rfl) (JF w.params 242 i242 rfl) (z8p ⟨rfl,rfl⟩)) λd H' fs e1 e2=>?_;subst e1;subst e2;exact fs
 refine e22 (XC (Γ:=Γ) (JF w.params) mr (JG w.params T0 rfl rfl rfl) (JH w.params T0 rfl) (XT w.params) 5 339 [.loc 0] [.pin (xs.map AV.int)] (λd zz=>d=.bool true) (z6x hz rfl λzz=>rfl)) λd K' aI hd=>?_;refine e02 aI λfs _=>?_;subst hd;refine e13 hL ?_;clear hL;intro o q1 q2 aS;refine e11 aS λn q3=>?_;have S:SimH Γ [l] [.pin (xs.map AV.int)] ai:=by
  refine ⟨.refl _,gens,rfl,rfl,by simp,λi o' a e1 e2=>?_,λi a e1 e2=>?_,λa ha=>by erw[bM.mp ha];exact h1⟩
  ·induction i using jv with
   |zero=>
    (injection e1 with be;subst be);(injection e2 with bw;subst bw)
    exact ⟨o,_,n,q1,q2,q3,zt9 hI,q1⟩
   |succ i=>simp at e1
  ·induction i using jv with
   |zero=>exact absurd rfl (e2 _)
   |succ i=>simp at e1
 refine tN (fs callerA ai [l] [.ref l] ⟨by decide,by decide,λzz=>rfl,rfl⟩ S ⟨_,_,rfl,⟨l,rfl,rfl⟩,rfl⟩ (λl' h=>by (injection h with bA;subst bA);exact λe he=>by cases he)) ?_
 rintro r s' ⟨v,ae,rfl,st,S',hv⟩;cases (hv);exact ⟨rfl,S'.base,S'.os,S'.gens⟩
end Mine
open Mine
theorem Mine.law_all:oW.Holds:=hd0 (by
 intro w s₀ ai mg mb G Y fa o pm cd doc dV kV ho g7 hcd hD OD hg args vals as O3 Pv Rk OP uM;have KX:=kIn_of Y;have hm:mg (l8 "law")=some (.ref fa):=OD;have Qx:=uM
 w_strict (wrow_args O3 Pv Rk OP uM)
 rename_i xs _ _ _ _ _ _ _ l vs _ hL _ _ r0 hI _ hc _;have O2:l≠1:=by
  cases r0;have:=Qx l aG;rintro rfl;exact absurd this (by decide)
 refine enter_call (tN (z1x KX G.T.g G.T.b G.T.nolimit G.T.builtins hg hm hL hI (uL (iN hc)) O2) ?_);rintro r s' ⟨rfl,k1,k2,k3⟩;refine GoodW.toG ⟨.inl ⟨_,.bool true,[],rfl,λ_=>rfl,.bool true,?_,λ_=>⟨rC,λa h=>by cases h⟩⟩,k1,k2,k3⟩
 wrow_post)
theorem PySem.Challenge.cw_in0182_01_holds : PySem.Challenge.rw_in0182_01.Holds :=
 Mine.law_all
