import PyProof.Rows.All
import Wide.All
import OpenK.AllK
import Wide.FinOn
import Lean
import PySem.Challenge.RW_op0289_01
set_option maxRecDepth 100000
set_option Elab.async false
set_option genInjectivity false
set_option genSizeOf false
set_option linter.all false
namespace Mine
open Array renaming length_toList → ve, eraseIdxIfInBounds → Gv
open Bool renaming and_eq_true_iff → l1, rec → p8, false_eq_true → rg, not_eq_true' → rh, false_ne_true → xV, noConfusion → AM, and_eq_true → Gx, or_eq_false_iff → PJ
open Eq renaming trans → xX
open Except.ok renaming inj → GG
open Int renaming add_zero → vi, fmod_eq_emod_of_nonneg → P1, fmod_lt_of_pos → P2, fmod_nonneg_of_pos → P4
open List renaming mem_cons_self → cY, map_append → c0, not_mem_nil → c4, length_map → de, mem_cons → dx, map → dF, mem_cons_of_mem → dG, mem_singleton → dN, mem_append → dU, zip → d4, append_nil → d9, length_append → ea, length_cons → ed, mem_map_of_mem → ep, mem_append_right → eJ, mem_append_left → eS, flatten_cons → fz, nodup_append → fA, mem_map → fC, range' → fH, append_assoc → f9, nodup_cons → gy, map_cons → hd, length_set → hD, flatten_nil → h2, length_singleton → ig, getD_eq_getElem?_getD → jw, flatten_append → kY, range → lA, getElem?_map → mL, map_map → mM, mem_filter → mN, nodup_nil → mO, getElem?_eq_getElem → nr, length_nil → nt, tail_drop → om, getElem?_drop → o9, getElem_mem → pa, drop → qe, length → rk, map_set → rl, filter_cons → sS, append_eq_nil_iff → vl, getElem?_eq_some_iff → vm, perm_middle → vn, all_eq_true → x1, filter_sublist → x2, length_pos_iff → x3, mem_of_getElem? → x4, perm_append_comm → x5, perm_ext_iff_of_nodup → x6, count_cons → A6, count_pos_iff → A7, find?_eq_none → A8, map_congr_left → A9, map_take → Ba, mem_flatten → Bb, mem_range'_1 → Bc, nodup_range' → Bd, pairwise_map → Be, perm_append_comm_assoc → Bf, rec → Bg, zip_append → Bh, append_of_mem → GP, cons_append → GQ, count_set → GR, findIdx?_eq_none_iff → GS, findIdx?_toArray → GU, foldl_cons → GV, getElem?_append_left → GW, getElem?_append_right → GX, length_drop → GY, length_eq_one_iff → GZ, length_take → G0, map_eq_nil_iff → G1, map_nil → G2, map_singleton → G3, mem_range → G4, mem_singleton_self → G5, nodup_range → G6, replicate → G7, dropLast_concat_getLast → Qc, getElem?_eq_none → Qd, getElem?_eq_none_iff → Qe, getElem?_range → Qf, length_eq_zero_iff → Qg, length_filter_le → Qh, singleton_append → Qi, take_of_length_le → Qj
open List.Perm renaming nodup_iff → A4, append_left → GO
open List.cons renaming inj → A5
open Nat renaming lt_trans → fh, le_refl → fk, le_trans → gh, lt_of_le_of_lt → iK, zero_add → jd, le_add_right → jx, not_lt → j9, blt → kZ, ne_of_lt → k0, zero_le → k1, add_comm → lB, lt_of_lt_of_le → on, add_assoc → pb, beq → pc, lt_succ_self → pd, ne_of_gt → pe, add_zero → rn, le_of_ble_eq_true → ro, le_succ → rp, not_le → sV, strongRecOn → sW, succ_add_eq_add_succ → sX, add_le_add_right → vo, le_of_eq → vp, lt_of_succ_lt → vq, mul_le_mul_left → x7, not_lt_zero → x8, add_le_add → Bj, add_le_add_left → Bk, lt_succ_of_lt → Bl, succ_ne_zero → Bm, succ_pos → Bn, add_right_comm → G8, le_add_left → G9, le_of_lt → Ha, add_lt_add_left → Ql, add_sub_cancel_left → Qm, pos_of_ne_zero → Qn
open Ne renaming symm → ih
open Option renaming bind_eq_some_iff → sY, isSome_iff_exists → Bq, bind_some → Hb
open Option.some renaming inj → x9
open Prod.mk renaming inj → je
open PySem renaming Value → ag, Obj → ao, World → aG, Addr → aM, Shared → aR, Str → a6, Params → bp, wpAny_bind → bE, Code → cn, Result → cD, Env → cE, Expr → cT, Pos → c2, Stmt → c5, Around → c9, Sem → e5, DictEntry → f8, Heap → gg, codeAny_mono → gR, Fin → h3, strKind → h4, GenState → iJ, Thread → iN, sizeLine_eq → jr, entryFor_of_tree → kd, Flow → kt, eval → k7, Scope → l4, behindInMarks → l7, compareOp → mc, Args → mH, ExceptHandler → mI, wpAny_holding → oa, wpAny_updateSeq → ob, Program → oo, noteFrame → oT, seg_bind_wrap → o1, pyNext → pO, setFlight → pR, table → pU, truthy → pY, wpAny_field → p3, wpAny_mkInt → p4, pyIter → q0, updateSeq → rb, Comprehension → ri, Model → rm, codeAny_of_own → rC, entryFor → rK, wpAny_newObj_type → sJ, leaving → tU, plainId_quiet → uE, pushEnvs → uH, wpAny_letGo → u7, wpAny_seqItems → u8, wpOwn_of_wpAny → u9, Builtin → vf, OsState → vr, SetTable → vx, binaryOp → vD, relayAll → xB, seqItems? → xJ, wpAny_of_eq → xP, wpAny_truthy_bool → xQ, wpOwn_bind → xR, bindName → ym, richCompare → Am, setField → Ar, slicePick → At, wpAny_standAt → AF, FuncData → AW, Operator → Bp, mainGlobals → Ex, typeIs_str → F3, wpAny_load → Gg, wpAny_mono → Gh, wpAny_setField → Gi, wpAny_tryCatch → Gj, wpAny_typeOf → Gk, again → Hg, callFunction → H3, callSpecial? → H4, codeAny_builtin → H9, codeAny_of_tree → Ia, enterFrame → IV, entry_list_getitem → IW, readyFrames → Om, typeIs_int → Pg, wpAny_callSpecial?_slot → Pw, wpAny_call_entry → Px, wpAny_dictGet_of → Py, wpAny_isInstance → Pz, wpAny_listPart → PA, wpAny_listSubscript_int → PB, wpAny_specialOf → PC, codeAny_compStart_list → Ss, markedBehindIn_of_false → abb, wpAny_loadName_local → afP, wpAny_notOrdered_dict → afQ, wpAny_pyIter_listiter → afR, wpAny_pyNext_genexp → afS, wpAny_pyNext_list_end → afT, wpAny_pyNext_list_item → afU
open PySem.Around renaming under_plainId → rf, under_of_weight → vd
open PySem.AutoSeq1 renaming list___iadd___list_list_0 → Qr
open PySem.Builtin.Dict renaming takeOut → PK
open PySem.Builtin.Frozenset renaming addrOf → PL, oneOther → PM
open PySem.Builtin.Int renaming intBits → PN
open PySem.Builtin.List renaming listItems → vg, listSubscript? → xW, listExtendWith → AN, listSameRef → AO, listFitsIndex → Gy, listUpdate → Gz, listLengthHint → PO, listTooLong → PP, listTouch → PQ
open PySem.Builtin.SmallTypes renaming stopIteration → AP
open PySem.Builtin.Str renaming occurrences → oh, glued → GA, tooLong → GB, partsBetween → PR
open PySem.Code renaming func → AR
open PySem.EntryCells renaming newEntry → PS
open PySem.F renaming plain_sum_loop → vh, plain_extend_loop → AV, slot_str_join → GH, entry_extend_loop → PT
open PySem.Heap renaming get?_update_self → hc, lt_size → hC, get?_push_of_some → iv, size_push → ku, get?_push_size → nq, SameBut → o7, push → xZ, get?_update_other → PY
open PySem.Heap.SameBut renaming update → hQ
open PySem.Obj renaming mapSeq → e4, mapFields → lC, putSet → Bo
open PySem.Sem renaming wp_bind → hf, wp → oq, wp_mono → ot, wp_bind' → qg, pure → s0, bind → vv, wp_onRaise → vw, onRaise_eq_wrap → Hj, wp_holding → Hk, wp_operate → Hl, wp_stack → Hm, wp_cmd_standAt → Qt
open PySem.SeqAt renaming EqAt → Hn
open PySem.SeqAt.EqAt renaming of_refs → Qu
open PySem.SeqAt.RcAt renaming lists → BE
open PySem.SeqAt.RcNeAt renaming lists → Qv
open PySem.SetTable renaming grown → qh
open PySem.Str renaming ofString → s1, ofString → Hf, length → Hp
open PySem.Thread renaming atExitBegin → Hq
open PySem.Value renaming isStrOf → BH
open PySem.W renaming alive → nz, SharedT → pg, opening → wO, absHeap → yi
open PySem.W.BT renaming get_ins → AK, get_node → AL
open PySem.W.S renaming strDecS → sZ
open PySem.W.SharedT renaming abs → Ho
open PySem.W.X renaming AllIn → re
open WellFounded renaming fix_eq → Qz
open _root_ renaming Nat → y, List → B, Int → ai, Option → aK, Bool → bW, True → bZ, Array → cp, False → dm, if_neg → dt, if_pos → d1, congrArg → fV, String → kv, decide_eq_true → k5, decide_eq_false → md, if_false → qJ, beq_iff_eq → ru, decide_eq_true_eq → rD, beq_self_eq_true → BP, beq_eq_false_iff_ne → Q9
section
open PySem PySem.W
section
noncomputable def Iu (b f:y) :y->B y:=Nat.rec (λ_=>[]) (λ_ bO n=>p8 (Nat.mod n b::bO (Nat.div n b)) [] (pc n 1)) f
noncomputable def aY:=Iu 16 2000
noncomputable def lF:=Iu 256 2000
noncomputable def dW (a n:y) :B y:=Nat.rec (λ_=>[]) (λ_ bO k=>k::bO (Nat.succ k)) n a
noncomputable def kJ:=aY 0x1054000040000000400000004302200020002130220002000288800000000000200021
noncomputable def us:=[84,111,112,111,108,111,103,105,99,97,108,83,111,114,116,101,114,46,95,102,105,110,100,95,99,121,99,108,101]
noncomputable def ng:=[99,112,121,51,49,51,46,103,114,97,112,104,108,105,98]
noncomputable def my:=[47,99,108,97,105,109,47,99,117,116,46,112,121]
noncomputable def xj:=aY 0x199930220002000213022000200021302200020002130220002000213022000200021302200020002130220002000213022000200021
noncomputable def gv:=[115,101,108,102]
noncomputable def sp:=[95,95,115,116,97,116,105,99,95,97,116,116,114,105,98,117,116,101,115,95,95]
noncomputable def oV:=[99,112,121,51,49,51,46,115,104,108,101,120]
noncomputable def xt:=aY 0x13022000200021111130220002000213022000200021302200020002130220002000213022000200021
noncomputable def f1:=aY 0x1200000
noncomputable def si:=[95,95,102,105,114,115,116,108,105,110,101,110,111,95,95]
noncomputable def ER:=aY 0x120110000000100000001300332011000000010000000132011000000010000000155500210000100000001000000013334444440000400444400303333300
noncomputable def ne:=[95,95,105,110,105,116,95,95]
noncomputable def z3:=[84,111,112,111,108,111,103,105,99,97,108,83,111,114,116,101,114,46,100,111,110,101]
noncomputable def w7:=[84,111,112,111,108,111,103,105,99,97,108,83,111,114,116,101,114]
noncomputable def w9:=aY 0x1a999808000008000000000008000818080000080000000080808000810
noncomputable def E0:=[84,111,112,111,108,111,103,105,99,97,108,83,111,114,116,101,114,46,103,101,116,95,114,101,97,100,121]
noncomputable def mx:=aY 0x107600006000600061
noncomputable def E7:=[84,111,112,111,108,111,103,105,99,97,108,83,111,114,116,101,114,46,112,114,101,112,97,114,101]
noncomputable def lU:=aY 0x130220002000211
noncomputable def kK:=aY 0x120000010000
noncomputable def xf:=[115,117,99,99,101,115,115,111,114,95,105,110,102,111]
noncomputable def ut:=[108,97,119,95,111,112,48,50,56,57,95,48,49]
noncomputable def qW:=aY 0x1302200020002113022000200021
noncomputable def Fa:=[33,0,29,28,30,1,2,3,4,5,6,7,8,9,10,11,12,13,14,15,16,17,18,19,20,21,22,23,24,25,26,27]
noncomputable def sn:=[95,95,109,111,100,117,108,101,95,95]
noncomputable def z9:=[112,117,110,99,116,117,97,116,105,111,110,95,99,104,97,114,115]
noncomputable def lo:=[110,111,100,101]
noncomputable def Fb:=[33,0,1,2,3,4,5,6,7,8,9,10,11,12,13,14,15,16,17,18,19,20,21,22,23,24,25,26,27,34,29]
noncomputable def Fc:=lF 0x11f1d1d1d1e1e1e0300020200000002000000021e0300020200000002000000021e1e1e1e1e00
noncomputable def NJ:=[84,111,112,111,108,111,103,105,99,97,108,83,111,114,116,101,114,46,95,103,101,116,95,110,111,100,101,105,110,102,111]
noncomputable def Aa:=aY 0x17070000070000000000070007170700000700000000707070007
noncomputable def uu:=[95,108,97,119,95,119,111,114,100,115]
noncomputable def uv:=[95,108,97,119,95,100,101,97,108,116]
noncomputable def nX:=aY 0x110000000101110
noncomputable def pM:=[95,95,100,111,99,95,95]
noncomputable def uw:=[95,115,105,102,116,100,111,119,110]
noncomputable def j0:=[32,9,13,10]
noncomputable def xg:=[110,111,100,101,50,115,116,97,99,107,105]
noncomputable def kL:=aY 0x12000000
noncomputable def Fd:=lF 0x11b1a191817161514131211100f0e0d0c0b0a090807060504030201001c1e1d
noncomputable def ux:=[35,35,35,35,35,35,35,35,35,35,36]
noncomputable def NK:=[84,111,112,111,108,111,103,105,99,97,108,83,111,114,116,101,114,46,105,115,95,97,99,116,105,118,101]
noncomputable def Fe:=[95,83,116,114,105,110,103,73,79,95,95,110,101,119,108,105,110,101]
noncomputable def uy:=[110,111,100,101,105,110,102,111]
noncomputable def kM:=[110,50,105]
noncomputable def NL:=[84,111,112,111,108,111,103,105,99,97,108,83,111,114,116,101,114,46,95,95,105,110,105,116,95,95]
noncomputable def xh:=aY 0x101118080000080000000000080008111
noncomputable def xi:=[67,121,99,108,101,69,114,114,111,114]
noncomputable def Ff:=[115,104,108,101,120,46,114,101,97,100,95,116,111,107,101,110]
noncomputable def uz:=aY 0x13333100007066000000600061
noncomputable def xk:=[95,108,97,119,95,110,97,109,101,115]
noncomputable def xl:=[84,101,120,116,73,79,66,97,115,101]
noncomputable def uA:=[95,108,97,119,95,100,117,101]
noncomputable def Fg:=aY 0x1302200020002111302200020002130220002000213022000200021
noncomputable def NM:=aY 0x13c3333201100010001ccccc009210000100010001999bb8bbbbb888940400000400000000404040004
noncomputable def nY:=[110,97,109,101]
noncomputable def xm:=[115,117,99,99,101,115,115,111,114]
noncomputable def so:=[115,111,114,116,101,114]
noncomputable def NN:=[115,104,108,101,120,46,112,117,110,99,116,117,97,116,105,111,110,95,99,104,97,114,115]
noncomputable def Ab:=[99,112,121,51,49,51,46,104,101,97,112,113]
noncomputable def xn:=[95,78,111,100,101,73,110,102,111]
noncomputable def uB:=[95,115,105,102,116,117,112]
noncomputable def xo:=[104,101,97,112,112,117,115,104]
noncomputable def Ac:=[95,95,119,101,97,107,114,101,102,95,95]
noncomputable def qX:=[104,97,110,100,115]
noncomputable def NO:=[84,111,112,111,108,111,103,105,99,97,108,83,111,114,116,101,114,46,97,100,100]
noncomputable def Fh:=[110,112,114,101,100,101,99,101,115,115,111,114,115]
noncomputable def Fi:=[115,104,108,101,120,46,95,95,110,101,120,116,95,95]
noncomputable def NP:=[83,116,114,105,110,103,73,79,46,95,95,116,114,97,110,115,108,97,116,101,100]
noncomputable def Fj:=[95,103,101,116,95,110,111,100,101,105,110,102,111]
noncomputable def Fk:=[95,83,116,114,105,110,103,73,79,95,95,112,111,115]
noncomputable def xp:=[83,116,114,105,110,103,73,79]
noncomputable def Fl:=[95,83,116,114,105,110,103,73,79,95,95,98,117,102]
noncomputable def sq:=[110,111,100,101,115]
noncomputable def Fm:=aY 0x1201100010001420110001000142011000100014440
noncomputable def xq:=[104,101,97,112,112,111,112]
noncomputable def uC:=aY 0x120000000000000000
noncomputable def Fn:=aY 0x13022000200021130220002000213022000200021
noncomputable def Ad:=aY 0x17070000070000000000070007222
noncomputable def Ae:=aY 0x17070000070000000000070007111
noncomputable def NQ:=lF 0x10300020200000002000000021d00000300020200000002000000021d1d1d00
noncomputable def NR:=aY 0x13a3333201100010001aaaaa009210000100010001920110001000199999990
noncomputable def xr:=[105,116,115,116,97,99,107]
noncomputable def NS:=aY 0x17201100010001772011000100017222010001010100017772011000100017
noncomputable def NT:=lF 0x11b1a191817161514131211100f0e0d0c0b0a0908070605040302011d1e1c
noncomputable def NU:=aY 0x1720110001000177778201100010001820110001000188201100010001888
noncomputable def xs:=[66,121,116,101,115,73,79]
noncomputable def NV:=[95,78,111,100,101,73,110,102,111,46,95,95,105,110,105,116,95,95]
noncomputable def NW:=aY 0x10210000100010001855555201100010001888002100001000100017770
noncomputable def uD:=[115,112,108,105,116]
noncomputable def Fo:=[95,102,105,110,100,95,99,121,99,108,101]
noncomputable def NX:=[83,116,114,105,110,103,73,79,46,95,95,105,110,105,116,95,95]
noncomputable def xu:=[95,105,110,100,101,120]
noncomputable def xv:=aY 0x1200000000000000000
noncomputable def sr:=[108,105,110,101]
noncomputable def NY:=[115,104,108,101,120,46,103,101,116,95,116,111,107,101,110]
noncomputable def Fp:=[115,117,99,99,101,115,115,111,114,115]
noncomputable def Fq:=[114,101,97,100,95,116,111,107,101,110]
noncomputable def Nh:=lF 0x11f1e1e1e1d1d1d0300020200000002000000021d1d1d1e1e1e1e
noncomputable def zZ:=[95,95,105,116,101,114,95,95]
noncomputable def z0:=[95,95,110,101,120,116,95,95]
noncomputable def wU:=aY 0x166605000505050005
noncomputable def wV:=aY 0x133302000202020002
noncomputable def Ni:=[83,116,114,105,110,103,73,79,46,95,95,99,104,101,99,107]
noncomputable def Nj:=aY 0x13d3333201100010001ddddd009210000100010001999bb8bbbb
noncomputable def uc:=aY 0x12001000033331
noncomputable def sh:=[114,101,97,100]
noncomputable def EP:=[103,101,116,95,116,111,107,101,110]
noncomputable def Nk:=aY 0x1772011000100017222010001010100017772011000100017
noncomputable def sj:=aY 0x1200000000
noncomputable def wW:=[73,79,66,97,115,101]
noncomputable def wX:=[115,104,108,101,120]
noncomputable def wY:=[113,117,111,116,101]
noncomputable def EQ:=[103,101,116,95,114,101,97,100,121]
noncomputable def wZ:=aY 0x1302200020002111
noncomputable def w0:=[108,105,110,101,115]
noncomputable def Nl:=[115,104,108,101,120,46,95,95,105,110,105,116,95,95]
noncomputable def Nm:=[115,104,108,101,120,46,95,95,105,116,101,114,95,95]
noncomputable def ud:=aY 0x120000000000
noncomputable def ue:=[106,111,105,110]
noncomputable def ES:=[105,115,95,97,99,116,105,118,101]
noncomputable def uf:=[116,111,108,100]
noncomputable def z1:=[114,101,115,117,108,116]
noncomputable def w1:=aY 0x120010000000000
noncomputable def ug:=[115,116,97,116]
noncomputable def Nn:=[73,79,66,97,115,101,46,95,95,110,101,119,95,95]
noncomputable def No:=[83,116,114,105,110,103,73,79,46,114,101,97,100]
noncomputable def uh:=aY 0x12000000000
noncomputable def ET:=[115,116,97,114,116,112,111,115]
noncomputable def z2:=[115,99,114,105,112,116]
noncomputable def w2:=aY 0x16055000500051
noncomputable def w3:=[115,116,97,99,107]
noncomputable def Np:=[95,114,101,97,100,121,95,110,111,100,101,115]
noncomputable def Nq:=[101,115,99,97,112,101,100,115,116,97,116,101]
noncomputable def w4:=aY 0x1200000000000
noncomputable def Nr:=[95,95,116,114,97,110,115,108,97,116,101,100]
noncomputable def EU:=[110,101,119,105,116,101,109]
noncomputable def EV:=[0,0,0,0,32,0,32,33,33,34,34]
noncomputable def Nt:=[95,110,112,97,115,115,101,100,111,117,116]
noncomputable def Nu:=aY 0x18889004040000040000000000040004999aaa
noncomputable def w5:=[115,101,101,110]
noncomputable def w6:=[114,105,110,103]
noncomputable def sk:=aY 0x1200001
noncomputable def Nv:=lF 0x101010101010300020200000002000000021d
noncomputable def Nw:=lF 0x11d0303030002000000020002000200000002
noncomputable def EW:=[112,114,101,112,97,114,101]
noncomputable def EX:=[95,95,100,105,99,116,95,95]
noncomputable def sl:=aY 0x1000001
noncomputable def sm:=aY 0x1200101
noncomputable def EY:=aY 0x12000010000000000000011
noncomputable def z4:=[116,111,107,101,110]
noncomputable def nf:=dW 4 28
noncomputable def ui:=[1,3,35,36,37]
noncomputable def Nx:=[95,110,102,105,110,105,115,104,101,100]
noncomputable def w8:=[104,101,97,112]
noncomputable def z5:=aY 0x113022000200021
noncomputable def Ny:=[95,110,111,100,101,50,105,110,102,111]
noncomputable def Nz:=aY 0x1302200020002999000000000002000211
noncomputable def uj:=aY 0x15432106
noncomputable def uk:=[33,33,33,34]
noncomputable def ul:=[0,1,33,32,3]
noncomputable def um:=dW 0 32++[36]
noncomputable def NA:=[95,95,112,97,99,107,97,103,101,95,95]
noncomputable def xa:=aY 0x1717777111
noncomputable def EZ:=[95,95,110,101,119,95,95]
noncomputable def NB:=aY 0x13330200020202000213022000200021
noncomputable def NC:=[95,95,108,111,97,100,101,114,95,95]
noncomputable def un:=[108,97,119]
noncomputable def uo:=aY 0x1111122
noncomputable def z6:=aY 0x1000000000001
noncomputable def uq:=[38,38,38,3]
noncomputable def ur:=[40,39,0,39]
noncomputable def E1:=aY 0x1010553333333334444
noncomputable def xb:=aY 0x187654390
noncomputable def ND:=[39,105,116,39,34,39,34,39,115,39]
noncomputable def NE:=aY 0x1370700000700000000000700072
noncomputable def xc:=aY 0x12001000
noncomputable def xd:=aY 0x17777770
noncomputable def z7:=aY 0x10000000000
noncomputable def NG:=aY 0x170700000700000000707070007
noncomputable def E2:=aY 0x1004411211113333
noncomputable def xe:=aY 0x1111222
noncomputable def E3:=aY 0x101055333333333
noncomputable def NH:=aY 0x122122223333221222232111
noncomputable def NI:=aY 0x102222214300003000300031
noncomputable def E4:=aY 0x12222211665500
noncomputable def E5:=aY 0x12000000000000
noncomputable def E6:=[112,108,97,99,101]
noncomputable def z8:=aY 0x166661111
noncomputable def E8:=[100,111,110,101]
noncomputable def qV:=dW 0 6
noncomputable def E9:=aY 0x17333334444
theorem c6 {p:Prop}(h:p:=by intro F n t;kernel_rfl) :p:=h
@[elab_as_elim] theorem H {dd:Sort u}{a b:dd}(h:a=b){p:dd->Prop}(e:p b) :p a:=h▸e
@[elab_as_elim] theorem df {dd:Sort u}{a b:dd}(h:b=a){p:dd->Prop}(e:p b) :p a:=h▸e
theorem fp {bk:Prop}(h:∀ P:Prop,(bk->P)->P) :bk:=h bk id
noncomputable abbrev iy:cn->e5 Fin:=PySem.W.Fast.tw11892475500146522536 PySem.W.Fast.tw14364793385576792824
theorem It:denote treeTable=iy:=by unfold iy;exact H (PySem.W.Fast.te11892475500146522536 ..) (H (PySem.W.Fast.te14364793385576792824 ..) rfl)
noncomputable abbrev FR:=PySem.W.Fast.tw8437177126325714943
theorem aeG:@step=@FR:=PySem.W.Fast.te8437177126325714943
section Wr
universe u
variable {R:Type u}
noncomputable def tx (v:ag)(ac:ag->R) :R:=match v with
 | .none=>ac .none
 | .ellipsis=>ac .ellipsis
 | .notImplemented=>ac .notImplemented
 | .bool b=>ac (.bool b)
 | .int i t=>ac (.int i t)
 | .float x t=>ac (.float x t)
 | .str s t=>ac (.str s t)
 | .bytes b t=>ac (.bytes b t)
 | .type n=>ac (.type n)
 | .builtin n=>ac (.builtin n)
 | .ref a=>ac (.ref a)
theorem vX (v:ag)(ac:ag->R) :tx v ac=ac v:=by rcases v with _ | _ <;> rfl
noncomputable def vY:B ag->(B ag->R)->R
 | [],ac=>ac []
 | v::l,ac=>tx v λxO=>vY l λdH=>ac (xO::dH)
theorem I9:∀ (l:B ag) (ac:B ag->R),vY l ac=ac l
 | [],_=>rfl
 | v::l,ac=>by unfold vY;exact H (vX ..) (H (I9 l ..) rfl)
noncomputable def yM:B f8->(B f8->R)->R
 | [],ac=>ac []
 | ⟨h,k,v⟩::l,ac=>tx k λlQ=>tx v λxO=>yM l λdH=>ac (⟨h,lQ,xO⟩::dH)
theorem I7:∀ (l:B f8) (ac:B f8->R),yM l ac=ac l
 | [],_=>rfl
 | ⟨h,k,v⟩::l,ac=>by unfold yM;exact H (vX ..) (H (vX ..) (H (I7 l ..) rfl))
noncomputable def qr (n:y)(ac:y->R) :R:=match n with
 | 0=>ac 0
 | m+1=>ac (m+1)
theorem I8 (n:y)(ac:y->R) :qr n ac=ac n:=by rcases n with _ | _ <;> rfl
noncomputable def CC (d:Data)(ac:Data->R) :R:=match d with
 | .plain=>ac .plain
 | .prim v=>tx v λxO=>ac (.prim xO)
 | .seq ca n=>vY ca.toList λl=>qr n λkG=>ac (.seq ⟨l⟩ kG)
 | .dict aC n=>yM aC.toList λl=>qr n λkG=>ac (.dict ⟨l⟩ kG)
 | .set aC n t=>ac (.set aC n t)
 | .bytearray b n=>ac (.bytearray b n)
 | .cell v=>ac (.cell v)
 | .func f=>ac (.func f)
 | .cls c=>ac (.cls c)
 | .fields vs=>vY vs.toList λl=>ac (.fields ⟨l⟩)
 | .freed=>ac .freed
theorem VK (d:Data)(ac:Data->R) :CC d ac=ac d:=by rcases d with _ | _ <;> simp only [CC,vX,I9,I7,I8]
noncomputable def qs (o:ao)(ac:ao->R) :R:=match o with
 | ⟨c,d,Io,bq⟩=>tx c λff=>CC Io λSB=>ac ⟨ff,d,SB,bq⟩
theorem yN (o:ao)(ac:ao->R) :qs o ac=ac o:=by obtain ⟨c,d,Io,bq⟩:=o;simp only [qs,vX,VK]
noncomputable def lW:BT->y->ao->(BT->R)->R
 | .nil,_,o,ac=>ac (.node o .nil .nil)
 | .node v l r,i,o,ac=>match pc i 0 with
  | true=>ac (.node o l r)
  | false=>match pc (i % 2) 1 with
   | true=>lW l (i / 2) o λdH=>ac (.node v dH r)
   | false=>lW r (i / 2 - 1) o λcz=>ac (.node v l cz)
theorem qZ:∀ (T:BT) (i:y) (o:ao) (ac:BT->R),lW T i o ac=ac (T.ins i o)
 | .nil,_,_,_=>rfl
 | .node v l r,i,o,ac=>by
  unfold lW BT.ins
  induction pc i 0 with
  | true=>rfl
  | false=>
   induction pc (i % 2) 1 with
   | true=>exact qZ l _ o _
   | false=>exact qZ r _ o _
end Wr
theorem FL (f:ao->ao) :∀ (T:BT) (a:y) (o:ao),T.get a=some o->T.set a f=T.ins a (f o)
 | .nil,_,_,h=>by simp [BT.get] at h
 | .node v l r,i,o,h=>by
  unfold BT.get at h;unfold BT.set BT.ins;revert h;cases pc i 0 with
  | true=>intro h;cases h;rfl
  | false=>
   cases pc (i % 2) 1 with
   | true=>intro h;show BT.node v (l.set _ f) r=BT.node v (l.ins _ (f o)) r;rw [FL f l _ o h]
   | false=>intro h;show BT.node v l (r.set _ f)=BT.node v l (r.ins _ (f o));exact H (FL f r _ o h ..) rfl
noncomputable def lc {R:Type}(b:bW)(k:aK R) :aK R:=match b with
 | true=>k
 | false=>none
theorem rQ {R:Type}{b:bW}{k:aK R}{r:R}(h:lc b k=some r) :b=true/\k=some r:=by
 induction b with
 | true=>exact ⟨rfl,h⟩
 | false=>injection h
noncomputable def Av {R:Type}(p:oo)(w:aG)(T:BT)(n:y)(aI:cp iJ)(d:Drawn)(t:y)(os:vr)(code:cn)(pos:c2)(gL:B Frame)(ac:BT->y->cp iJ->Drawn->y->vr->iN->aK R) :e5 Fin->aK R
 | .load a _ k=>lc (kZ a n) ((T.get a).bind λo=>(nz o).bind λo'=>ac T n aI d t os ⟨k o',code,pos,gL⟩)
 | .update a _ h k=>lc (kZ a n) ((T.get a).bind λo=>(nz o).bind λ_=>qs (h o) λo'=>lW T a o' λd0=>ac d0 n aI d t os ⟨k (),code,pos,gL⟩)
 | .alloc o k=>qs o λo'=>lW T n o' λd0=>lc (d0.get n).isSome (ac d0 (n+1) aI d t os ⟨k n,code,pos,gL⟩)
 | .loadIfAlive a k=>match kZ a n with
  | true=>(T.get a).bind λo=>ac T n aI d t os ⟨k (nz o),code,pos,gL⟩
  | false=>ac T n aI d t os ⟨k none,code,pos,gL⟩
 | c=>match FR iy p w ⟨{},aI,d,t,os⟩ ⟨c,code,pos,gL⟩ with
  | .go ⟨_,tB,B7,js,EK⟩ kT=>ac T n tB B7 js EK kT
  | .halt _ _=>none
noncomputable def uP {R:Type}(p:oo)(w:aG)(life:Life)(ok kR:iN->bW)(ac:pg->iN->aK R) :y->BT->y->cp iJ->Drawn->y->vr->iN->aK R
 | 0=>λ_ _ _ _ _ _ _=>none
 | f+1=>λT n aI d t os bR=>match kR bR with
  | true=>ac ⟨T,n,life,aI,d,t,os⟩ bR
  | false=>lc (ok bR) (Av p w T n aI d t os bR.code bR.pos bR.stack (uP p w life ok kR ac f) bR.cur)
inductive sQ (p:oo) (w:aG) (ok kR:iN->bW) :y->aR->iN->aR->iN->Prop where
 | Df {n s t} :kR t=true->sQ p w ok kR (n+1) s t s t
 | step {n s t eo F4 an js} :kR t=false->ok t=true->step (denote treeTable) p w s t= .go eo F4->sQ p w ok kR n eo F4 an js->sQ p w ok kR (n+1) s t an js
theorem aeF {R:Type}{p:oo}{w:aG}{life:Life}{T:BT}{n:y}{aI:cp iJ}{d:Drawn}{t:y}{os:vr}{code:cn}{pos:c2}{gL:B Frame}{ac:BT->y->cp iJ->Drawn->y->vr->iN->aK R}{il:e5 Fin}{r:R}(h:Av p w T n aI d t os code pos gL ac il=some r) :
  ∃ S bR,stepT (denote treeTable) p w ⟨T,n,life,aI,d,t,os⟩ ⟨il,code,pos,gL⟩=some (S,bR)/\S.life=life/\ac S.tree S.n S.gens S.drawn S.toks S.os bR=some r:=by
 have rO:∀ il,stepT (denote treeTable) p w ⟨T,n,life,aI,d,t,os⟩ ⟨il,code,pos,gL⟩=(match step (denote treeTable) p w ⟨{},aI,d,t,os⟩ ⟨il,code,pos,gL⟩ with | .go an kT=>some (⟨T,n,life,an.gens,an.drawn,an.toks,an.os⟩,kT) | .halt _ _=>none)->
   (match FR iy p w ⟨{},aI,d,t,os⟩ ⟨il,code,pos,gL⟩ with | .go ⟨_,tB,B7,js,EK⟩ kT=>ac T n tB B7 js EK kT | .halt _ _=>none)=some r->
   ∃ S bR,stepT (denote treeTable) p w ⟨T,n,life,aI,d,t,os⟩ ⟨il,code,pos,gL⟩=some (S,bR)/\S.life=life/\ac S.tree S.n S.gens S.drawn S.toks S.os bR=some r:=by
  intro il e az;rw [<- aeG,<- It] at az;rw [e];revert az;cases step (denote treeTable) p w ⟨{},aI,d,t,os⟩ ⟨il,code,pos,gL⟩ with
  | halt _ _=>intro az;cases az
  | go an kT=>exact λaz=>⟨_,_,rfl,rfl,az⟩
 cases il
 case load a q k=>obtain ⟨a5,h⟩:=rQ h;obtain ⟨o,bt,h⟩:=sY.mp h;obtain ⟨o',cd,h⟩:=sY.mp h;refine ⟨⟨T,n,life,aI,d,t,os⟩,⟨k o',code,pos,gL⟩,?_,rfl,h⟩;refine xX (b:=lc (kZ a n) ((T.get a).bind λo=>(nz o).bind λo'=>some ((⟨T,n,life,aI,d,t,os⟩ :pg),(⟨k o',code,pos,gL⟩ :iN)))) (by kernel_rfl) ?_;rw [a5,bt];show (nz o).bind _ =_;rw [cd];rfl
 case update a q u k=>obtain ⟨a5,h⟩:=rQ h;obtain ⟨o,bt,h⟩:=sY.mp h;obtain ⟨o',cd,h⟩:=sY.mp h;rw [yN,qZ,<- FL u T a o bt] at h;refine ⟨⟨T.set a u,n,life,aI,d,t,os⟩,⟨k (),code,pos,gL⟩,?_,rfl,h⟩;refine xX (b:=lc (kZ a n) ((T.get a).bind λo=>(nz o).bind λo'=>some ((⟨T.set a u,n,life,aI,d,t,os⟩ :pg),(⟨k (),code,pos,gL⟩ :iN)))) (by kernel_rfl) ?_;rw [a5,bt];show (nz o).bind _ =_;rw [cd];rfl
 case alloc o k=>have h:qs o (λo'=>lW T n o' λd0=>lc (d0.get n).isSome (ac d0 (n+1) aI d t os ⟨k n,code,pos,gL⟩))=some r:=h;rw [yN,qZ] at h;obtain ⟨a5,h⟩:=rQ h;refine ⟨⟨T.ins n o,n+1,life,aI,d,t,os⟩,⟨k n,code,pos,gL⟩,?_,rfl,h⟩;show lc ((T.ins n o).get n).isSome (some ((⟨T.ins n o,n+1,life,aI,d,t,os⟩ :pg),(⟨k n,code,pos,gL⟩ :iN)))=_;rw [a5];rfl
 case loadIfAlive a k=>
  cases a5:kZ a n with
  | false=>have h:(match kZ a n with | true=>(T.get a).bind λo=>ac T n aI d t os ⟨k (nz o),code,pos,gL⟩ | false=>ac T n aI d t os ⟨k none,code,pos,gL⟩)=some r:=h;rw [a5] at h;refine ⟨⟨T,n,life,aI,d,t,os⟩,⟨k none,code,pos,gL⟩,?_,rfl,h⟩;refine xX (b:=(match kZ a n with | true=>(T.get a).bind λo=>some ((⟨T,n,life,aI,d,t,os⟩ :pg),(⟨k (nz o),code,pos,gL⟩ :iN)) | false=>some ((⟨T,n,life,aI,d,t,os⟩ :pg),(⟨k none,code,pos,gL⟩ :iN)))) (by kernel_rfl) ?_;exact H a5 rfl
  | true=>have h:(match kZ a n with | true=>(T.get a).bind λo=>ac T n aI d t os ⟨k (nz o),code,pos,gL⟩ | false=>ac T n aI d t os ⟨k none,code,pos,gL⟩)=some r:=h;rw [a5] at h;obtain ⟨o,bt,h⟩:=sY.mp h;refine ⟨⟨T,n,life,aI,d,t,os⟩,⟨k (nz o),code,pos,gL⟩,?_,rfl,h⟩;refine xX (b:=(match kZ a n with | true=>(T.get a).bind λo=>some ((⟨T,n,life,aI,d,t,os⟩ :pg),(⟨k (nz o),code,pos,gL⟩ :iN)) | false=>some ((⟨T,n,life,aI,d,t,os⟩ :pg),(⟨k none,code,pos,gL⟩ :iN)))) (by kernel_rfl) ?_;refine H a5 (H bt ?_);rfl
 all_goals exact rO _ rfl h
theorem FE {R:Type}{p:oo}{w:aG}{life:Life}{ok kR:iN->bW}{ac:pg->iN->aK R} :
  ∀ (f:y) (T:BT) (n:y) (aI:cp iJ) (d:Drawn) (t:y) (os:vr) (bR:iN) (r:R),uP p w life ok kR ac f T n aI d t os bR=some r->
   ∃ (S:pg) (kT:iN),sQ p w ok kR f (Ho ⟨T,n,life,aI,d,t,os⟩) bR S.abs kT/\ac S kT=some r
 | 0,_,_,_,_,_,_,_,_,h=>by injection h
 | f+1,T,n,aI,d,t,os,bR,r,h=>by
  induction hs:kR bR with
  | true=>have h:(match kR bR with | true=>ac ⟨T,n,life,aI,d,t,os⟩ bR | false=>lc (ok bR) (Av p w T n aI d t os bR.code bR.pos bR.stack (uP p w life ok kR ac f) bR.cur))=some r:=h;rw [hs] at h;exact ⟨_,_,.Df hs,h⟩
  | false=>have h:(match kR bR with | true=>ac ⟨T,n,life,aI,d,t,os⟩ bR | false=>lc (ok bR) (Av p w T n aI d t os bR.code bR.pos bR.stack (uP p w life ok kR ac f) bR.cur))=some r:=h;rw [hs] at h;obtain ⟨aV,h⟩:=rQ h;obtain ⟨⟨agb,agJ,l₁,agk,agg,F4,agK⟩,agR,e,al,h⟩:=aeF (life:=life) h;subst al;obtain ⟨S,kT,a,b⟩:=FE f _ _ _ _ _ _ _ _ h;exact ⟨S,kT,.step hs aV (stepT_spec e) a,b⟩
end
end
section
open PySem PySem.W PySem.W.X PyProof.Rows
noncomputable abbrev aL:oo:=PySem.Challenge.pw_op0289_01
noncomputable def U (l:B y) :a6:=⟨⟨l⟩⟩
noncomputable def hs (P:bp)(s:a6) :ai:=if s.cps.isEmpty then 0 else reduceHash (P.strHash s.cps)
noncomputable def aj (P:bp)(k:B y)(t:Tok)(v:ag) :f8:=⟨hs P (U k),.str (U k) t,v⟩
noncomputable abbrev p9:=Arguments×B c5×l4
noncomputable def acm:c5->B cT×B (B c5)×c2×B mI×Arguments×l4
 | .FunctionDef _ a b _ _ _ sz _ _ p=>([],[b],p,[],a,sz)
 | .ClassDef _ _ _ b _ _ _ _ _ _ p=>([],[b],p,default)
 | .For t i b o p=>([t,i],[b,o],p,default)
 | .While t b o p=>([t],[b,o],p,default)
 | .If t b o p=>([t],[b,o],p,default)
 | .Try b h o f p=>([],[b,o,f],p,h,default)
 | .Assign aZ v p=>(v::aZ,[],p,default)
 | .Return (some e) p=>([e],[],p,default)
 | .Expr e p=>([e],[],p,default)
 | _=>default
noncomputable def oW:cT->B cT×c2×a6×y×Bp×l4×B (cT×cT)
 | .Name x p=>([],p,x,0,.Add,default,[])
 | .Constant _ k p=>([],p,default,k,.Add,default,[])
 | .Call f aB _ p=>(f::aB,p,default,0,.Add,default,[])
 | .Attribute o n p=>([o],p,n,0,.Add,default,[])
 | .GeneratorExp e m0 sz p=>([e],p,default,0,.Add,sz,m0.map λaI=>(aI.target,aI.iter))
 | .ListComp e m0 sz p=>([e],p,default,0,.Add,sz,m0.map λaI=>(aI.target,aI.iter))
 | .BinOp l fR r p=>([l,r],p,default,0,fR,default,[])
 | .IfExp t b o p=>([t,b,o],p,default,0,.Add,default,[])
 | .BoolOp _ aC p=>(aC,p,default,0,.Add,default,[])
 | .Compare l _ ls p=>(l::ls,p,default,0,.Add,default,[])
 | _=>([],default,default,0,.Add,default,[])
noncomputable def uL (o:aK c5) :B cT×B (B c5)×c2×B mI×Arguments×l4:=Option.rec default acm o
noncomputable abbrev kP (o:aK c5)(i:y) :cT:=(uL o).1.getD i default
noncomputable abbrev q2 (o:aK c5)(i:y) :B c5:=(uL o).2.1.getD i []
noncomputable abbrev oX (o:aK c5) :c2:=(uL o).2.2.1
noncomputable abbrev hq (e:cT)(i:y) :cT:=(oW e).1.getD i default
noncomputable abbrev kO (e:cT) :c2:=(oW e).2.1
noncomputable abbrev Ft (e:cT) :a6:=(oW e).2.2.1
noncomputable abbrev Of (e:cT) :y:=(oW e).2.2.2.1
noncomputable abbrev Og (e:cT) :l4:=(oW e).2.2.2.2.2.1
noncomputable def Jq (o:aK c5) :p9:=((uL o).2.2.2.2.1,q2 o 0,(uL o).2.2.2.2.2)
noncomputable def Rd (o:aK c5) :B c5:=q2 o 0
noncomputable def ew (i:y) :p9:=Jq aL.main.body[i]?
noncomputable def e7 (i j:y) :p9:=Jq (Rd aL.main.body[i]?)[j]?
noncomputable def Wl (d:p9)(name qual:a6)(aI:aM)(Im KH doc iG yx bI:ag)(b:aM) :AW:=
 {name:=name,qualname:=qual,params:=d.1,body:=.stmts d.2.1,scope:=d.2.2,globals:=aI,closure:=[],defaults:=Im,kwdefaults:=KH,doc:=doc,pyModule:=iG,annotations:=none,code:=yx,closureTuple:=bI,builtins:=b}
noncomputable def qm (name:a6)(bases mro:B ag)(ns:aM)(qual:a6)(hasDict:bW)(slots:B a6)(aeW:B ag)(QE:bW)(St:aK bW)(SH:bW) :ClassData:=
 {name:=name,bases:=bases,mro:=mro,ns:=ns,qualname:=qual,hasDict:=hasDict,slotNames:=slots,subclasses:=aeW,abstract:=QE,collection:=St,hasDel:=SH}
noncomputable def N8:a6:=U my
noncomputable def hh (n q:B y)(t:y)(l a b d:ai)(r:y)(u:y) :ao:={cls:=(.type "code"),data:=(.fields ⟨[.str (U n) t,.str (U q) (t+1),.str N8 (t+2),.int l 0,.int a 0,.int b 0,.int 0 0,.int d 0,.ref r,.bool true,.int 318 0,.ref (r+1),.none,.ref (r+2),.ref (r+3),.ref (r+4),.int u 0,.int l 0,.str N8 (u+1)]⟩)}
noncomputable def gs (f:p9)(n q:B y)(v:ag)(m:B y)(t c:y) :ao:={cls:=(.type "function"),data:=(.func (Wl f (U n) (U q) 3 v .none .none (.str (U m) t) (.ref c) .none 0))}
noncomputable def wL (P:bp) :ao:={cls:=(.type "dict"),data:=(.dict ⟨[aj P [95,95,110,97,109,101,95,95] 1 (.str (U [98,117,105,108,116,105,110,115]) 160),aj P pM 2 (.builtin "builtins.__doc__:str#opaque"),aj P NA 3 (.builtin "builtins.__package__:str#opaque"),aj P NC 4 (.builtin "builtins.__loader__:shared#opaque"),aj P [95,95,115,112,101,99,95,95] 5 (.builtin "builtins.__spec__#opaque"),aj P [95,95,98,117,105,108,100,95,99,108,97,115,115,95,95] 6 (.builtin "__build_class__"),aj P [95,95,105,109,112,111,114,116,95,95] 7 (.builtin "__import__"),aj P [97,98,115] 8 (.builtin "abs"),aj P [97,108,108] 9 (.builtin "all"),aj P [97,110,121] 10 (.builtin "any"),aj P [97,115,99,105,105] 11 (.builtin "ascii"),aj P [98,105,110] 12 (.builtin "bin"),aj P [98,114,101,97,107,112,111,105,110,116] 13 (.builtin "breakpoint"),aj P [99,97,108,108,97,98,108,101] 14 (.builtin "callable"),aj P [99,104,114] 15 (.builtin "chr"),aj P [99,111,109,112,105,108,101] 16 (.builtin "compile"),aj P [100,101,108,97,116,116,114] 17 (.builtin "delattr"),aj P [100,105,114] 18 (.builtin "dir"),aj P [100,105,118,109,111,100] 19 (.builtin "divmod"),aj P [101,118,97,108] 20 (.builtin "eval"),aj P [101,120,101,99] 21 (.builtin "exec"),aj P [102,111,114,109,97,116] 22 (.builtin "format"),aj P [103,101,116,97,116,116,114] 23 (.builtin "getattr"),aj P [103,108,111,98,97,108,115] 24 (.builtin "globals"),aj P [104,97,115,97,116,116,114] 25 (.builtin "hasattr"),aj P [104,97,115,104] 26 (.builtin "hash"),aj P [104,101,120] 27 (.builtin "hex"),aj P [105,100] 28 (.builtin "id"),aj P [105,110,112,117,116] 29 (.builtin "input"),aj P [105,115,105,110,115,116,97,110,99,101] 30 (.builtin "isinstance"),aj P [105,115,115,117,98,99,108,97,115,115] 31 (.builtin "issubclass"),aj P [105,116,101,114] 32 (.builtin "iter"),aj P [97,105,116,101,114] 33 (.builtin "aiter"),aj P [108,101,110] 34 (.builtin "len"),aj P [108,111,99,97,108,115] 35 (.builtin "locals"),aj P [109,97,120] 36 (.builtin "max"),aj P [109,105,110] 37 (.builtin "min"),aj P [110,101,120,116] 38 (.builtin "next"),aj P [97,110,101,120,116] 39 (.builtin "anext"),aj P [111,99,116] 40 (.builtin "oct"),aj P [111,114,100] 41 (.builtin "ord"),aj P [112,111,119] 42 (.builtin "pow"),aj P [112,114,105,110,116] 43 (.builtin "print"),aj P [114,101,112,114] 44 (.builtin "repr"),aj P [114,111,117,110,100] 45 (.builtin "round"),aj P [115,101,116,97,116,116,114] 46 (.builtin "setattr"),aj P [115,111,114,116,101,100] 47 (.builtin "sorted"),aj P [115,117,109] 48 (.builtin "sum"),aj P [118,97,114,115] 49 (.builtin "vars"),aj P [78,111,110,101] 50 .none,aj P [69,108,108,105,112,115,105,115] 51 .ellipsis,aj P [78,111,116,73,109,112,108,101,109,101,110,116,101,100] 52 .notImplemented,aj P [70,97,108,115,101] 53 (.bool false),aj P [84,114,117,101] 54 (.bool true),aj P [98,111,111,108] 55 (.type "bool"),aj P [109,101,109,111,114,121,118,105,101,119] 56 (.type "memoryview"),aj P [98,121,116,101,97,114,114,97,121] 57 (.type "bytearray"),aj P [98,121,116,101,115] 58 (.type "bytes"),aj P [99,108,97,115,115,109,101,116,104,111,100] 59 (.type "classmethod"),aj P [99,111,109,112,108,101,120] 60 (.type "complex"),aj P [100,105,99,116] 61 (.type "dict"),aj P [101,110,117,109,101,114,97,116,101] 62 (.type "enumerate"),aj P [102,105,108,116,101,114] 63 (.type "filter"),aj P [102,108,111,97,116] 64 (.type "float"),aj P [102,114,111,122,101,110,115,101,116] 65 (.type "frozenset"),aj P [112,114,111,112,101,114,116,121] 66 (.type "property"),aj P [105,110,116] 67 (.type "int"),aj P [108,105,115,116] 68 (.type "list"),aj P [109,97,112] 69 (.type "map"),aj P [111,98,106,101,99,116] 70 (.type "object"),aj P [114,97,110,103,101] 71 (.type "range"),aj P [114,101,118,101,114,115,101,100] 72 (.type "reversed"),aj P [115,101,116] 73 (.type "set"),aj P [115,108,105,99,101] 74 (.type "slice"),aj P [115,116,97,116,105,99,109,101,116,104,111,100] 75 (.type "staticmethod"),aj P [115,116,114] 76 (.type "str"),aj P [115,117,112,101,114] 77 (.type "super"),aj P [116,117,112,108,101] 78 (.type "tuple"),aj P [116,121,112,101] 79 (.type "type"),aj P [122,105,112] 80 (.type "zip"),aj P [95,95,100,101,98,117,103,95,95] 81 (.bool true),aj P [66,97,115,101,69,120,99,101,112,116,105,111,110] 82 (.type "BaseException"),aj P [66,97,115,101,69,120,99,101,112,116,105,111,110,71,114,111,117,112] 83 (.type "BaseExceptionGroup"),aj P [69,120,99,101,112,116,105,111,110] 84 (.type "Exception"),aj P [71,101,110,101,114,97,116,111,114,69,120,105,116] 85 (.type "GeneratorExit"),aj P [75,101,121,98,111,97,114,100,73,110,116,101,114,114,117,112,116] 86 (.type "KeyboardInterrupt"),aj P [83,121,115,116,101,109,69,120,105,116] 87 (.type "SystemExit"),aj P [65,114,105,116,104,109,101,116,105,99,69,114,114,111,114] 88 (.type "ArithmeticError"),aj P [65,115,115,101,114,116,105,111,110,69,114,114,111,114] 89 (.type "AssertionError"),aj P [65,116,116,114,105,98,117,116,101,69,114,114,111,114] 90 (.type "AttributeError"),aj P [66,117,102,102,101,114,69,114,114,111,114] 91 (.type "BufferError"),aj P [69,79,70,69,114,114,111,114] 92 (.type "EOFError"),aj P [73,109,112,111,114,116,69,114,114,111,114] 93 (.type "ImportError"),aj P [76,111,111,107,117,112,69,114,114,111,114] 94 (.type "LookupError"),aj P [77,101,109,111,114,121,69,114,114,111,114] 95 (.type "MemoryError"),aj P [78,97,109,101,69,114,114,111,114] 96 (.type "NameError"),aj P [79,83,69,114,114,111,114] 97 (.type "OSError"),aj P [82,101,102,101,114,101,110,99,101,69,114,114,111,114] 98 (.type "ReferenceError"),aj P [82,117,110,116,105,109,101,69,114,114,111,114] 99 (.type "RuntimeError"),aj P [83,116,111,112,65,115,121,110,99,73,116,101,114,97,116,105,111,110] 100 (.type "StopAsyncIteration"),aj P [83,116,111,112,73,116,101,114,97,116,105,111,110] 101 (.type "StopIteration"),aj P [83,121,110,116,97,120,69,114,114,111,114] 102 (.type "SyntaxError"),aj P [83,121,115,116,101,109,69,114,114,111,114] 103 (.type "SystemError"),aj P [84,121,112,101,69,114,114,111,114] 104 (.type "TypeError"),aj P [86,97,108,117,101,69,114,114,111,114] 105 (.type "ValueError"),aj P [87,97,114,110,105,110,103] 106 (.type "Warning"),aj P [70,108,111,97,116,105,110,103,80,111,105,110,116,69,114,114,111,114] 107 (.type "FloatingPointError"),aj P [79,118,101,114,102,108,111,119,69,114,114,111,114] 108 (.type "OverflowError"),aj P [90,101,114,111,68,105,118,105,115,105,111,110,69,114,114,111,114] 109 (.type "ZeroDivisionError"),aj P [66,121,116,101,115,87,97,114,110,105,110,103] 110 (.type "BytesWarning"),aj P [68,101,112,114,101,99,97,116,105,111,110,87,97,114,110,105,110,103] 111 (.type "DeprecationWarning"),aj P [69,110,99,111,100,105,110,103,87,97,114,110,105,110,103] 112 (.type "EncodingWarning"),aj P [70,117,116,117,114,101,87,97,114,110,105,110,103] 113 (.type "FutureWarning"),aj P [73,109,112,111,114,116,87,97,114,110,105,110,103] 114 (.type "ImportWarning"),aj P [80,101,110,100,105,110,103,68,101,112,114,101,99,97,116,105,111,110,87,97,114,110,105,110,103] 115 (.type "PendingDeprecationWarning"),aj P [82,101,115,111,117,114,99,101,87,97,114,110,105,110,103] 116 (.type "ResourceWarning"),aj P [82,117,110,116,105,109,101,87,97,114,110,105,110,103] 117 (.type "RuntimeWarning"),aj P [83,121,110,116,97,120,87,97,114,110,105,110,103] 118 (.type "SyntaxWarning"),aj P [85,110,105,99,111,100,101,87,97,114,110,105,110,103] 119 (.type "UnicodeWarning"),aj P [85,115,101,114,87,97,114,110,105,110,103] 120 (.type "UserWarning"),aj P [66,108,111,99,107,105,110,103,73,79,69,114,114,111,114] 121 (.type "BlockingIOError"),aj P [67,104,105,108,100,80,114,111,99,101,115,115,69,114,114,111,114] 122 (.type "ChildProcessError"),aj P [67,111,110,110,101,99,116,105,111,110,69,114,114,111,114] 123 (.type "ConnectionError"),aj P [70,105,108,101,69,120,105,115,116,115,69,114,114,111,114] 124 (.type "FileExistsError"),aj P [70,105,108,101,78,111,116,70,111,117,110,100,69,114,114,111,114] 125 (.type "FileNotFoundError"),aj P [73,110,116,101,114,114,117,112,116,101,100,69,114,114,111,114] 126 (.type "InterruptedError"),aj P [73,115,65,68,105,114,101,99,116,111,114,121,69,114,114,111,114] 127 (.type "IsADirectoryError"),aj P [78,111,116,65,68,105,114,101,99,116,111,114,121,69,114,114,111,114] 128 (.type "NotADirectoryError"),aj P [80,101,114,109,105,115,115,105,111,110,69,114,114,111,114] 129 (.type "PermissionError"),aj P [80,114,111,99,101,115,115,76,111,111,107,117,112,69,114,114,111,114] 130 (.type "ProcessLookupError"),aj P [84,105,109,101,111,117,116,69,114,114,111,114] 131 (.type "TimeoutError"),aj P [73,110,100,101,110,116,97,116,105,111,110,69,114,114,111,114] 132 (.type "IndentationError"),aj P [95,73,110,99,111,109,112,108,101,116,101,73,110,112,117,116,69,114,114,111,114] 133 (.type "_IncompleteInputError"),aj P [73,110,100,101,120,69,114,114,111,114] 134 (.type "IndexError"),aj P [75,101,121,69,114,114,111,114] 135 (.type "KeyError"),aj P [77,111,100,117,108,101,78,111,116,70,111,117,110,100,69,114,114,111,114] 136 (.type "ModuleNotFoundError"),aj P [78,111,116,73,109,112,108,101,109,101,110,116,101,100,69,114,114,111,114] 137 (.type "NotImplementedError"),aj P [80,121,116,104,111,110,70,105,110,97,108,105,122,97,116,105,111,110,69,114,114,111,114] 138 (.type "PythonFinalizationError"),aj P [82,101,99,117,114,115,105,111,110,69,114,114,111,114] 139 (.type "RecursionError"),aj P [85,110,98,111,117,110,100,76,111,99,97,108,69,114,114,111,114] 140 (.type "UnboundLocalError"),aj P [85,110,105,99,111,100,101,69,114,114,111,114] 141 (.type "UnicodeError"),aj P [66,114,111,107,101,110,80,105,112,101,69,114,114,111,114] 142 (.type "BrokenPipeError"),aj P [67,111,110,110,101,99,116,105,111,110,65,98,111,114,116,101,100,69,114,114,111,114] 143 (.type "ConnectionAbortedError"),aj P [67,111,110,110,101,99,116,105,111,110,82,101,102,117,115,101,100,69,114,114,111,114] 144 (.type "ConnectionRefusedError"),aj P [67,111,110,110,101,99,116,105,111,110,82,101,115,101,116,69,114,114,111,114] 145 (.type "ConnectionResetError"),aj P [84,97,98,69,114,114,111,114] 146 (.type "TabError"),aj P [85,110,105,99,111,100,101,68,101,99,111,100,101,69,114,114,111,114] 147 (.type "UnicodeDecodeError"),aj P [85,110,105,99,111,100,101,69,110,99,111,100,101,69,114,114,111,114] 148 (.type "UnicodeEncodeError"),aj P [85,110,105,99,111,100,101,84,114,97,110,115,108,97,116,101,69,114,114,111,114] 149 (.type "UnicodeTranslateError"),aj P [69,120,99,101,112,116,105,111,110,71,114,111,117,112] 150 (.type "ExceptionGroup"),aj P [69,110,118,105,114,111,110,109,101,110,116,69,114,114,111,114] 151 (.type "OSError"),aj P [73,79,69,114,114,111,114] 152 (.type "OSError"),aj P [111,112,101,110] 153 (.builtin "open"),aj P [113,117,105,116] 154 (.builtin "builtins.quit#opaque"),aj P [101,120,105,116] 155 (.builtin "builtins.exit#opaque"),aj P [99,111,112,121,114,105,103,104,116] 156 (.builtin "builtins.copyright#opaque"),aj P [99,114,101,100,105,116,115] 157 (.builtin "builtins.credits#opaque"),aj P [108,105,99,101,110,115,101] 158 (.builtin "builtins.license#opaque"),aj P [104,101,108,112] 159 (.builtin "builtins.help#opaque")]⟩ 159)}
noncomputable def cy (P:bp) :ao:={cls:=.none,data:=(.dict ⟨[aj P [105,109,112,111,114,116,46,108,111,97,100,101,100,46,95,115,114,101] 183 (.bool true),aj P [99,108,97,115,115,46,95,102,114,111,122,101,110,95,105,109,112,111,114,116,108,105,98,46,66,117,105,108,116,105,110,73,109,112,111,114,116,101,114] 185 (.ref 14),aj P [119,97,116,99,104,101,100,46,105,109,112,111,114,116] 206 (.ref 18),aj P [99,108,97,115,115,46,95,102,114,111,122,101,110,95,105,109,112,111,114,116,108,105,98,46,77,111,100,117,108,101,83,112,101,99] 216 (.ref 22),aj P [115,121,115,46,109,111,100,117,108,101,115,46,98,111,111,107,101,100,45,101,112,111,99,104] 245 (.int 4 0),aj P [105,109,112,111,114,116,46,108,97,116,101,114,45,108,97,105,100,46,95,115,114,101] 270 (.bool true),aj P [119,97,116,99,104,101,100,46,108,105,98,114,97,114,121] 272 (.ref 27),aj P [119,97,116,99,104,101,100,46,108,105,98,114,97,114,121,45,111,98,106,101,99,116,115] 0 (.str (U [12,30]) 0),aj P [119,97,116,99,104,101,100,46,108,105,98,114,97,114,121,45,100,101,101,112,46,95,115,114,101] 273 (.str (U [4,0,0,11,4,0,0,11,4,0,0,3,4,0,0,11,8,4,100,105,99,116,2]) 0),aj P [105,109,112,111,114,116,46,108,111,97,100,101,100,46,95,99,111,108,108,101,99,116,105,111,110,115] 280 (.bool true),aj P [115,121,115,46,109,111,100,117,108,101,115,46,108,97,110,100,101,100,46,95,99,111,108,108,101,99,116,105,111,110,115] 294 (.bool true),aj P [105,109,112,111,114,116,46,108,97,116,101,114,45,108,97,105,100,46,95,99,111,108,108,101,99,116,105,111,110,115] 309 (.bool true),aj P [119,97,116,99,104,101,100,46,108,105,98,114,97,114,121,45,100,101,101,112,46,95,99,111,108,108,101,99,116,105,111,110,115] 311 (.str (U [4,0,0,29,4,0,0,29,4,0,0,3,4,0,0,29,8,4,100,105,99,116,2]) 0),aj P [116,121,112,101,46,95,95,115,117,98,99,108,97,115,115,101,115,95,95,46,79,83,69,114,114,111,114,46,48] 633 (.int 221 0),aj P [116,121,112,101,46,95,95,115,117,98,99,108,97,115,115,101,115,95,95,46,79,83,69,114,114,111,114,46,110] 634 (.int 1 0)]⟩ 15)}
noncomputable def dz (P:bp) :ao:={cls:=(.type "dict"),data:=(.dict ⟨[aj P [95,95,110,97,109,101,95,95] 165 (.str (U ut) 1481),aj P pM 166 .none,aj P NA 167 .none,aj P NC 168 (.builtin "__main__.__loader__#opaque"),aj P [95,95,115,112,101,99,95,95] 169 .none,aj P [95,95,97,110,110,111,116,97,116,105,111,110,115,95,95] 170 (.ref 6),aj P [95,95,98,117,105,108,116,105,110,115,95,95] 171 (.ref 4),aj P [95,95,102,105,108,101,95,95] 173 (.str (U my) 172),aj P [95,95,99,97,99,104,101,100,95,95] 174 .none,aj P [95,115,114,101] 275 (.ref 12),aj P [100,101,113,117,101] 317 (.type "collections.deque"),aj P [95,119,97,108,108] 330 (.ref 44),aj P xo 340 (.ref 51),aj P xq 349 (.ref 58),aj P uw 361 (.ref 65),aj P uB 374 (.ref 72),aj P [95,78,79,68,69,95,79,85,84] 379 (.int (-1) 378),aj P [95,78,79,68,69,95,68,79,78,69] 382 (.int (-2) 381),aj P xn 419 (.ref 91),aj P xi 437 (.ref 106),aj P w7 556 (.ref 188),aj P [95,116,119,105,110,95,114,101,95,49] 596 (.ref 197),aj P [95,119,104,101,110,99,101] 606 (.ref 204),aj P xu 614 (.ref 211),aj P [85,110,115,117,112,112,111,114,116,101,100,79,112,101,114,97,116,105,111,110] 636 (.ref 221),aj P wW 668 (.ref 241),aj P [66,117,102,102,101,114,101,100,73,79,66,97,115,101] 686 (.ref 256),aj P xl 704 (.ref 268),aj P xs 966 (.ref 498),aj P xp 1253 (.ref 745),aj P [95,107,105,110,100] 1264 (.ref 754),aj P [95,102,115,112,97,116,104] 1273 (.ref 761),aj P [95,99,104,101,99,107,95,97,114,103,95,116,121,112,101,115] 1283 (.ref 768),aj P [105,115,97,98,115] 1290 (.ref 775),aj P ue 1301 (.ref 899),aj P [106,111,105,110,95,112,97,116,104] 1302 (.ref 782),aj P [100,105,114,110,97,109,101] 1312 (.ref 789),aj P wX 1453 (.ref 880),aj P uD 1463 (.ref 892),aj P [106,111,105,110,95,115,104,108,101,120] 1471 (.ref 899),aj P [95,102,105,110,100,95,117,110,115,97,102,101] 1473 (.ref 900),aj P wY 1480 (.ref 907),aj P xk 1488 (.ref 914),aj P uu 1494 (.ref 919),aj P uv 1500 (.ref 924),aj P uA 1506 (.ref 929),aj P un 1512 (.ref 934)]⟩ 47)}
noncomputable def kH (P:bp) :ao:={cls:=(.type "module"),data:=.plain,dict:=some 0}
noncomputable def Mb (P:bp) :ao:=hh xo xo 333 7 2 0 3 45 338
noncomputable def Md (P:bp) :ao:=gs (ew 4) xo xo .none Ab 331 50
noncomputable def Mk (P:bp) :ao:=hh xq xq 341 10 1 0 3 52 347
noncomputable def Ml (P:bp) :ao:=gs (ew 5) xq xq .none Ab 331 57
noncomputable def Mm (P:bp) :ao:=hh uw uw 350 18 3 0 3 59 359
noncomputable def Mn (P:bp) :ao:=gs (ew 6) uw uw .none Ab 331 64
noncomputable def Mr (P:bp) :ao:=hh uB uB 362 29 2 0 3 66 372
noncomputable def Ms (P:bp) :ao:=gs (ew 7) uB uB .none Ab 331 71
noncomputable def MF (P:bp) :ao:=hh ne NV 399 49 2 0 3 81 404
noncomputable def MH (P:bp) :ao:=gs (e7 11 1) ne NV .none ng 375 86
noncomputable def MR (P:bp) :ao:={cls:=(.type "dict"),data:=(.dict ⟨[aj P sn 390 (.str (U ng) 375),aj P si 394 (.int 46 393),aj P [95,95,115,108,111,116,115,95,95] 398 (.ref 80),aj P ne 406 (.ref 87),aj P sp 410 (.ref 88),aj P lo 412 (.ref 92),aj P Fh 414 (.ref 93),aj P Fp 416 (.ref 94),aj P pM 417 .none]⟩ 5)}
noncomputable def MU (P:bp) :ao:={cls:=(.type "type"),data:=(.cls (qm (U xn) [.type "object"] [.ref 91,.type "object"] 90 (U xn) false [U lo,U Fh,U Fp] [] false none false)),slots:=⟨[none,none,some (.str (U xn) 383),some (.str (U xn) 391),some (.builtin "object.__new__"),some (.bool false)]⟩}
noncomputable def MZ (P:bp) :ao:={cls:=(.type "member_descriptor"),data:=(.fields ⟨[.str (U lo) 411,.ref 91,.builtin "proto.slot",.builtin "proto.slot#set",.int 2 0]⟩)}
noncomputable def M4 (P:bp) :ao:={cls:=(.type "member_descriptor"),data:=(.fields ⟨[.str (U Fh) 413,.ref 91,.builtin "proto.slot",.builtin "proto.slot#set",.int 1 0]⟩)}
noncomputable def M6 (P:bp) :ao:={cls:=(.type "member_descriptor"),data:=(.fields ⟨[.str (U Fp) 415,.ref 91,.builtin "proto.slot",.builtin "proto.slot#set",.int 0 0]⟩)}
noncomputable def LC (P:bp) :ao:={cls:=(.type "dict"),data:=(.dict ⟨[aj P sn 427 (.str (U ng) 375),aj P si 431 (.int 53 430),aj P sp 432 (.ref 104),aj P Ac 434 (.ref 107),aj P pM 435 .none]⟩ 3)}
noncomputable def LD (P:bp) :ao:={cls:=(.type "type"),data:=(.cls (qm (U xi) [.type "ValueError"] [.ref 106,.type "ValueError",.type "Exception",.type "BaseException",.type "object"] 105 (U xi) true [] [] false none false)),slots:=⟨[some (.ref 97),none,some (.str (U xi) 420),some (.str (U xi) 428),some (.builtin "ValueError.__new__"),some (.bool true)]⟩}
noncomputable def LF (P:bp) :ao:={cls:=(.type "tuple"),data:=(.seq ⟨[.none]⟩ 0)}
noncomputable def LG (P:bp) :ao:=hh ne NL 450 57 2 0 3 118 457
noncomputable def LH (P:bp) :ao:=gs (e7 13 0) ne NL (.ref 117) ng 375 123
noncomputable def LI (P:bp) :ao:=hh Fj NJ 460 66 2 0 3 125 466
noncomputable def LJ (P:bp) :ao:=gs (e7 13 1) Fj NJ .none ng 375 130
noncomputable def LK (P:bp) :ao:=hh [97,100,100] NO 469 71 2 0 7 132 478
noncomputable def LL (P:bp) :ao:=gs (e7 13 2) [97,100,100] NO .none ng 375 137
noncomputable def LM (P:bp) :ao:={cls:=(.type "code"),data:=(.fields ⟨[.str (U EW) 481,.str (U E7) 482,.str (U my) 483,.int 80 0,.int 1 0,.int 0 0,.int 0 0,.int 3 0,.ref 139,.bool true,.int 318 0,.ref 140,.none,.none,.none,.ref 141,.int 484 0,.int 80 0,.str (U my) 485]⟩)}
noncomputable def LN (P:bp) :ao:=gs (e7 13 3) EW E7 .none ng 375 142
noncomputable def LO (P:bp) :ao:=hh EQ E0 487 88 1 0 3 144 494
noncomputable def LP (P:bp) :ao:=gs (e7 13 4) EQ E0 .none ng 375 149
noncomputable def LQ (P:bp) :ao:=hh ES NK 497 99 1 0 3 151 501
noncomputable def LR (P:bp) :ao:=gs (e7 13 5) ES NK .none ng 375 156
noncomputable def LS (P:bp) :ao:=hh E8 z3 511 107 1 0 7 165 522
noncomputable def LU (P:bp) :ao:=gs (e7 13 7) E8 z3 .none ng 375 170
noncomputable def LV (P:bp) :ao:=hh Fo us 525 130 1 0 3 172 535
noncomputable def LW (P:bp) :ao:=gs (e7 13 8) Fo us .none ng 375 177
noncomputable def LX (P:bp) :ao:={cls:=(.type "dict"),data:=(.dict ⟨[aj P sn 445 (.str (U ng) 375),aj P si 449 (.int 55 448),aj P ne 459 (.ref 124),aj P Fj 468 (.ref 131),aj P [97,100,100] 480 (.ref 138),aj P EW 486 (.ref 143),aj P EQ 496 (.ref 150),aj P ES 503 (.ref 157),aj P [95,95,98,111,111,108,95,95] 510 (.ref 164),aj P E8 524 (.ref 171),aj P Fo 537 (.ref 178),aj P [115,116,97,116,105,99,95,111,114,100,101,114] 544 (.ref 185),aj P sp 549 (.ref 186),aj P EX 551 (.ref 189),aj P Ac 553 (.ref 190),aj P pM 554 .none]⟩ 4)}
noncomputable def LY (P:bp) :ao:={cls:=(.type "type"),data:=(.cls (qm (U w7) [.type "object"] [.ref 188,.type "object"] 187 (U w7) true [] [] false none false)),slots:=⟨[none,none,some (.str (U w7) 438),some (.str (U w7) 446),some (.builtin "object.__new__"),some (.bool true)]⟩}
noncomputable def LZ (P:bp) :ao:={cls:=(.type "tuple"),data:=(.seq ⟨[.int 14 0,.int 17 0,.int 4 0,.int 1 0,.int 1 0,.int 21 0,.int 9 0,.int 0 0,.int 604043296 0,.int 1 0,.int 0 0,.int 0 0,.int 0 0,.int 0 0,.int 0 0,.int 8 0,.int 4 0,.int 0 0,.int 13 0,.int 14 0,.int 21 0,.int 9 0,.int 0 0,.int 604043296 0,.int 1 0,.int 0 0,.int 0 0,.int 0 0,.int 0 0,.int 0 0,.int 8 0,.int 4 0,.int 0 0,.int 1 0]⟩ 0)}
noncomputable def L0 (P:bp) :ao:={cls:=(.type "re.Pattern"),data:=(.fields ⟨[.str (U [91,94,92,119,64,37,43,61,58,44,46,47,45,93]) 558,.int 256 595,.int 0 0,.none,.none,.ref 196,.int 0 0]⟩)}
noncomputable def L1 (P:bp) :ao:=hh xu xu 607 168 2 0 3 205 612
noncomputable def L2 (P:bp) :ao:=gs (ew 17) xu xu .none [105,111] 597 210
noncomputable def L3 (P:bp) :ao:=hh EZ Nn 651 180 1 1 15 232 657
noncomputable def L4 (P:bp) :ao:=gs (e7 19 1) EZ Nn .none [105,111] 597 237
noncomputable def L5 (P:bp) :ao:={cls:=(.type "dict"),data:=(.dict ⟨[aj P sn 644 (.str (U [105,111]) 649),aj P si 648 (.int 177 647),aj P EZ 659 (.ref 242),aj P sp 660 (.ref 239),aj P EX 663 (.ref 243),aj P Ac 665 (.ref 244),aj P pM 666 .none]⟩ 4)}
noncomputable def L6 (P:bp) :ao:={cls:=(.type "type"),data:=(.cls (qm (U wW) [.type "object"] [.ref 241,.type "object"] 240 (U wW) true [] [.ref 256,.ref 268] false none false)),slots:=⟨[none,none,some (.str (U wW) 637),some (.str (U wW) 645),some .none,some (.bool true)]⟩}
noncomputable def L7 (P:bp) :ao:={cls:=(.type "staticmethod"),data:=(.fields ⟨[.ref 238]⟩)}
noncomputable def L8 (P:bp) :ao:={cls:=(.type "dict"),data:=(.dict ⟨[aj P sn 694 (.str (U [105,111]) 699),aj P si 698 (.int 186 697),aj P sp 701 (.ref 266),aj P pM 702 .none]⟩ 2)}
noncomputable def L9 (P:bp) :ao:={cls:=(.type "type"),data:=(.cls (qm (U xl) [.ref 241] [.ref 268,.ref 241,.type "object"] 267 (U xl) true [] [.ref 745] false none false)),slots:=⟨[some (.ref 259),none,some (.str (U xl) 687),some (.str (U xl) 695),some .none,some (.bool true)]⟩}
noncomputable def Ma (P:bp) :ao:={cls:=(.type "type"),data:=(.cls (qm (U xs) [.ref 256] [.ref 498,.ref 256,.ref 241,.type "object"] 497 (U xs) true [] [] false none false)),slots:=⟨[some (.ref 271),none,some (.str (U xs) 705),some (.str (U xs) 713),some .none,some (.bool true)]⟩}
noncomputable def Mc (P:bp) :ao:={cls:=(.type "tuple"),data:=(.seq ⟨[.str (U []) 981,.str (U [10]) 982]⟩ 0)}
noncomputable def Me (P:bp) :ao:=hh ne NX 983 361 3 0 3 509 989
noncomputable def Mf (P:bp) :ao:=gs (e7 23 1) ne NX (.ref 508) [105,111] 597 514
noncomputable def Mg (P:bp) :ao:=hh Nr NP 992 374 2 0 3 516 998
noncomputable def Mh (P:bp) :ao:=gs (e7 23 2) Nr NP .none [105,111] 597 521
noncomputable def Mi (P:bp) :ao:=hh [95,95,99,104,101,99,107] Ni 1001 382 1 0 3 523 1005
noncomputable def Mj (P:bp) :ao:=gs (e7 23 3) [95,95,99,104,101,99,107] Ni .none [105,111] 597 528
noncomputable def Mo (P:bp) :ao:={cls:=(.type "tuple"),data:=(.seq ⟨[.int (-1) 1174]⟩ 0)}
noncomputable def Mp (P:bp) :ao:=hh sh No 1175 504 2 2 3 685 1182
noncomputable def Mq (P:bp) :ao:=gs (e7 23 25) sh No (.ref 684) [105,111] 597 690
noncomputable def Mt (P:bp) :ao:={cls:=(.type "dict"),data:=(.dict ⟨[aj P sn 974 (.str (U [95,105,111]) 979),aj P si 978 (.int 358 977),aj P ne 991 (.ref 515),aj P [95,83,116,114,105,110,103,73,79,95,95,116,114,97,110,115,108,97,116,101,100] 1000 (.ref 522),aj P [95,83,116,114,105,110,103,73,79,95,95,99,104,101,99,107] 1007 (.ref 529),aj P [95,83,116,114,105,110,103,73,79,95,95,99,104,101,99,107,95,100,111,116] 1014 (.ref 536),aj P [95,83,116,114,105,110,103,73,79,95,95,108,105,110,101] 1029 (.ref 543),aj P [99,108,111,115,101,100] 1037 (.ref 551),aj P [108,105,110,101,95,98,117,102,102,101,114,105,110,103] 1045 (.ref 559),aj P [110,101,119,108,105,110,101,115] 1053 (.ref 567),aj P [101,110,99,111,100,105,110,103] 1061 (.ref 575),aj P [101,114,114,111,114,115] 1069 (.ref 583),aj P [99,108,111,115,101] 1076 (.ref 590),aj P [95,95,101,110,116,101,114,95,95] 1083 (.ref 597),aj P [95,95,101,120,105,116,95,95] 1091 (.ref 604),aj P [114,101,97,100,97,98,108,101] 1098 (.ref 611),aj P [119,114,105,116,97,98,108,101] 1105 (.ref 618),aj P [115,101,101,107,97,98,108,101] 1112 (.ref 625),aj P [105,115,97,116,116,121] 1119 (.ref 632),aj P [102,108,117,115,104] 1126 (.ref 639),aj P [102,105,108,101,110,111] 1133 (.ref 646),aj P [100,101,116,97,99,104] 1140 (.ref 653),aj P [103,101,116,118,97,108,117,101] 1147 (.ref 660),aj P [116,101,108,108] 1154 (.ref 667),aj P [115,101,101,107] 1164 (.ref 675),aj P [116,114,117,110,99,97,116,101] 1172 (.ref 683),aj P sh 1184 (.ref 691),aj P [114,101,97,100,108,105,110,101] 1194 (.ref 699),aj P [114,101,97,100,108,105,110,101,115] 1204 (.ref 707),aj P zZ 1211 (.ref 714),aj P z0 1219 (.ref 721),aj P [119,114,105,116,101] 1231 (.ref 728),aj P [119,114,105,116,101,108,105,110,101,115] 1239 (.ref 735),aj P [95,95,114,101,112,114,95,95] 1246 (.ref 742),aj P sp 1250 (.ref 743),aj P pM 1251 .none]⟩ 2)}
noncomputable def Mu (P:bp) :ao:={cls:=(.type "type"),data:=(.cls (qm (U xp) [.ref 268] [.ref 745,.ref 268,.ref 241,.type "object"] 744 (U xp) true [] [] false none false)),slots:=⟨[some (.ref 501),none,some (.str (U xp) 967),some (.str (U xp) 975),some .none,some (.bool true)]⟩}
noncomputable def Mv (P:bp) :ao:={cls:=(.type "tuple"),data:=(.seq ⟨[.none,.none,.bool false,.bool false]⟩ 0)}
noncomputable def Mw (P:bp) :ao:=hh ne Nl 1327 630 5 0 3 798 1336
noncomputable def Mx (P:bp) :ao:=gs (e7 33 0) ne Nl (.ref 797) oV 1313 803
noncomputable def My (P:bp) :ao:=hh z9 NN 1339 671 1 0 3 805 1343
noncomputable def Mz (P:bp) :ao:=gs (e7 33 1) z9 NN .none oV 1313 810
noncomputable def MA (P:bp) :ao:={cls:=(.type "property"),data:=(.fields ⟨[.ref 811,.none,.none,.none,.str (U z9) 1346,.bool false]⟩)}
noncomputable def MB (P:bp) :ao:=hh EP NY 1371 698 1 0 3 835 1380
noncomputable def MC (P:bp) :ao:=gs (e7 33 5) EP NY .none oV 1313 840
noncomputable def MD (P:bp) :ao:=hh Fq Ff 1383 725 1 0 3 842 1391
noncomputable def ME (P:bp) :ao:=gs (e7 33 6) Fq Ff .none oV 1313 847
noncomputable def MG (P:bp) :ao:=hh zZ Nm 1411 872 1 0 3 864 1415
noncomputable def MI (P:bp) :ao:=gs (e7 33 9) zZ Nm .none oV 1313 869
noncomputable def MJ (P:bp) :ao:=hh z0 Fi 1418 875 1 0 3 871 1423
noncomputable def MK (P:bp) :ao:=gs (e7 33 10) z0 Fi .none oV 1313 876
noncomputable def ML (P:bp) :ao:={cls:=(.type "dict"),data:=(.dict ⟨[aj P sn 1322 (.str (U oV) 1313),aj P si 1326 (.int 628 1325),aj P ne 1338 (.ref 804),aj P z9 1346 (.ref 812),aj P [112,117,115,104,95,116,111,107,101,110] 1354 (.ref 819),aj P [112,117,115,104,95,115,111,117,114,99,101] 1363 (.ref 827),aj P [112,111,112,95,115,111,117,114,99,101] 1370 (.ref 834),aj P EP 1382 (.ref 841),aj P Fq 1393 (.ref 848),aj P [115,111,117,114,99,101,104,111,111,107] 1401 (.ref 855),aj P [101,114,114,111,114,95,108,101,97,100,101,114] 1410 (.ref 863),aj P zZ 1417 (.ref 870),aj P z0 1425 (.ref 877),aj P sp 1446 (.ref 878),aj P EX 1448 (.ref 881),aj P Ac 1450 (.ref 882),aj P pM 1451 .none]⟩ 4)}
noncomputable def MM (P:bp) :ao:={cls:=(.type "type"),data:=(.cls (qm (U wX) [.type "object"] [.ref 880,.type "object"] 879 (U wX) true [] [] false none false)),slots:=⟨[none,none,some (.str (U wX) 1315),some (.str (U wX) 1323),some (.builtin "object.__new__"),some (.bool true)]⟩}
noncomputable def MN (P:bp) :ao:={cls:=(.type "tuple"),data:=(.seq ⟨[.bool false,.bool true]⟩ 0)}
noncomputable def MO (P:bp) :ao:=hh uD uD 1454 880 3 0 3 886 1461
noncomputable def MP (P:bp) :ao:=gs (ew 34) uD uD (.ref 885) oV 1313 891
noncomputable def abI (P:bp) :ao:={cls:=.none,data:=(.fields ⟨[]⟩)}
noncomputable def nV (P:bp) :ao:=hh ue ue 1464 888 1 0 3 893 1468
noncomputable def MQ (P:bp) :ao:=gs (ew 35) ue ue .none oV 1313 898
noncomputable def MS (P:bp) :ao:={cls:=(.type "builtin_function_or_method"),data:=(.fields ⟨[.builtin "re.Pattern.search",.ref 197]⟩)}
noncomputable def MT (P:bp) :ao:=hh wY wY 1474 892 1 0 3 901 1478
noncomputable def EF (P:bp) :ao:=gs (ew 38) wY wY .none oV 1313 906
noncomputable def MV (P:bp) :ao:=hh xk xk 1483 899 0 0 3 908 1486
noncomputable def MW (P:bp) :ao:=gs (ew 40) xk xk .none ut 1481 913
noncomputable def MX (P:bp) :ao:={cls:=(.type "code"),data:=(.fields ⟨[.str (U uu) 1489,.str (U uu) 1490,.str (U my) 1491,.int 901 0,.int 1 0,.int 0 0,.int 0 0,.int 3 0,.ref 915,.bool true,.int 318 0,.ref 916,.none,.none,.none,.ref 917,.int 1492 0,.int 901 0,.str (U my) 1493]⟩)}
noncomputable def MY (P:bp) :ao:=gs (ew 41) uu uu .none ut 1481 918
noncomputable def M0 (P:bp) :ao:={cls:=(.type "code"),data:=(.fields ⟨[.str (U uv) 1495,.str (U uv) 1496,.str (U my) 1497,.int 904 0,.int 2 0,.int 0 0,.int 0 0,.int 3 0,.ref 920,.bool true,.int 318 0,.ref 921,.none,.none,.none,.ref 922,.int 1498 0,.int 904 0,.str (U my) 1499]⟩)}
noncomputable def M1 (P:bp) :ao:=gs (ew 42) uv uv .none ut 1481 923
noncomputable def M2 (P:bp) :ao:={cls:=(.type "code"),data:=(.fields ⟨[.str (U uA) 1501,.str (U uA) 1502,.str (U my) 1503,.int 916 0,.int 2 0,.int 0 0,.int 0 0,.int 3 0,.ref 925,.bool true,.int 318 0,.ref 926,.none,.none,.none,.ref 927,.int 1504 0,.int 916 0,.str (U my) 1505]⟩)}
noncomputable def M3 (P:bp) :ao:=gs (ew 43) uA uA .none ut 1481 928
noncomputable def M5 (P:bp) :ao:={cls:=(.type "code"),data:=(.fields ⟨[.str (U un) 1507,.str (U un) 1508,.str (U my) 1509,.int 926 0,.int 1 0,.int 0 0,.int 0 0,.int 3 0,.ref 930,.bool true,.int 318 0,.ref 931,.none,.none,.none,.ref 932,.int 1510 0,.int 926 0,.str (U my) 1511]⟩)}
noncomputable def EG (P:bp) :ao:=gs (ew 44) un un .none ut 1481 933
@[irreducible] noncomputable def n3 (P:bp) :B (y×ao):=[(0,wL P),(2,cy P),(3,dz P),(4,kH P),(50,Mb P),(51,Md P),(57,Mk P),(58,Ml P),(64,Mm P),(65,Mn P),(71,Mr P),(72,Ms P),(86,MF P),(87,MH P),(90,MR P),(91,MU P),(92,MZ P),(93,M4 P),(94,M6 P),(105,LC P),(106,LD P),(117,LF P),(123,LG P),(124,LH P),(130,LI P),(131,LJ P),(137,LK P),(138,LL P),(142,LM P),(143,LN P),(149,LO P),(150,LP P),(156,LQ P),(157,LR P),(170,LS P),(171,LU P),(177,LV P),(178,LW P),(187,LX P),(188,LY P),(196,LZ P),(197,L0 P),(210,L1 P),(211,L2 P),(237,L3 P),(238,L4 P),(240,L5 P),(241,L6 P),(242,L7 P),(267,L8 P),(268,L9 P),(498,Ma P),(508,Mc P),(514,Me P),(515,Mf P),(521,Mg P),(522,Mh P),(528,Mi P),(529,Mj P),(684,Mo P),(690,Mp P),(691,Mq P),(744,Mt P),(745,Mu P),(797,Mv P),(803,Mw P),(804,Mx P),(810,My P),(811,Mz P),(812,MA P),(840,MB P),(841,MC P),(847,MD P),(848,ME P),(869,MG P),(870,MI P),(876,MJ P),(877,MK P),(879,ML P),(880,MM P),(885,MN P),(891,MO P),(892,MP P),(894,abI P),(898,nV P),(899,MQ P),(900,MS P),(906,MT P),(907,EF P),(913,MV P),(914,MW P),(918,MX P),(919,MY P),(923,M0 P),(924,M1 P),(928,M2 P),(929,M3 P),(933,M5 P),(934,EG P)]
noncomputable def F1:B y:=[0,2,3,4,50,51,57,58,64,65,71,72,86,87,90,91,92,93,94,105,106,117,123,124,130,131,137,138,142,143,149,150,156,157,170,171,177,178,187,188,196,197,210,211,237,238,240,241,242,267,268,498,508,514,515,521,522,528,529,684,690,691,744,745,797,803,804,810,811,812,840,841,847,848,869,870,876,877,879,880,885,891,892,894,898,899,900,906,907,913,914,918,919,923,924,928,929,933,934]
section
noncomputable def tT {R:Type} :B ao->y->BT->(BT->aK R)->aK R
 | [],_,T,ac=>ac T
 | o::l,i,T,ac=>qs o λo'=>lW T i o' λd0=>lc (d0.get i).isSome (tT l (i+1) d0 ac)
theorem Zy {R:Type}{life:Life}{ac:BT->aK R}{r:R}{l:B ao} :∀ {pre:B ao} {T:BT},yi T pre.length life=⟨pre.toArray,life⟩->tT l pre.length T ac=some r->
  ∃ d0,yi d0 (pre++l).length life=⟨(pre++l).toArray,life⟩/\ac d0=some r:=by
 induction l with
 | nil=>exact λ{pre T} e h=>⟨T,by refine H (d9 ..) ?_;exact e,h⟩
 | cons o l bO=>intro pre T e h;have h:qs o (λo'=>lW T pre.length o' λd0=>lc (d0.get pre.length).isSome (tT l (pre.length+1) d0 ac))=some r:=h;rw [yN,qZ] at h;obtain ⟨q,h⟩:=rQ h;have a:=absHeap_ins (life:=life) q;rw [e] at a;have:=bO (pre:=pre++[o]) (T:=T.ins pre.length o) (by refine H (ea ..) ?_;show yi _ (pre.length+1) life=_;refine H a ?_;simp [xZ]) (by refine H (ea ..) ?_;exact h);rwa [f9] at this
noncomputable def zD {R:Type}(T:BT) :y->B ao->(B ao->aK R)->aK R
 | 0,a3,ac=>ac a3
 | n+1,a3,ac=>(T.get n).bind λo=>zD T n (o::a3) ac
theorem KZ {R:Type}{T:BT}{ac:B ao->aK R}{r:R}{n:y} :∀ {a3:B ao},zD T n a3 ac=some r->ac (T.list n++a3)=some r:=by
 induction n with
 | zero=>exact λh=>h
 | succ n bO=>
  intro a3 h;obtain ⟨o,e,h⟩:=sY.mp h;have q:T.list (n+1)=T.list n++[o]:=by unfold BT.list;refine H (List.range_succ ..) (H (c0 ..) ?_);simp [e]
  refine H q (H (f9 ..) ?_);exact bO h
noncomputable abbrev OS:=PySem.W.Fast.tw1435165496053646825
theorem aeE:@start=@OS:=PySem.W.Fast.te1435165496053646825
noncomputable abbrev Jd:=PySem.W.Fast.tw14289696077712309145
theorem VS:@fenceModules?=@Jd:=PySem.W.Fast.te14289696077712309145
noncomputable abbrev M9:=PySem.W.Fast.tw6613529449190102663
theorem abM:@stepOk=@M9:=PySem.W.Fast.te6613529449190102663
noncomputable abbrev OC:=@PySem.W.Fast.tw4187177175401517315
theorem ad9:@openSeen=@OC:=PySem.W.Fast.te4187177175401517315
noncomputable abbrev CA:=PySem.W.Fast.tw3805553451399329143
theorem I6:@Hq=@CA:=PySem.W.Fast.te3805553451399329143
noncomputable def FS (t:iN) :bW:=match CA t with | some _=>true | none=>false
noncomputable def M7 (_:iN) :bW:=true
theorem YS {p:oo}{w:aG}{n:y}{s an:aR}{t js:iN}(aI:sQ p w M7 FS n s t an js) :js.atExitBegin=some []->importEnds treeTable p w n s t=some an:=by
 induction aI with
 | Df h=>intro e;unfold importEnds;exact H e rfl
 | @step n s t an js j2 agO h k e aI bO=>
  intro ev;unfold importEnds;unfold FS at h;rw [<- I6] at h
  induction q:Hq _ with
  | some x=>rw [q] at h;injection h
  | none=>refine H e ?_;exact bO ev
theorem ae8 {p:oo}{w:aG}{LA:y}{HD:aK ag}{n:y}{s an:aR}{t js:iN}(aI:sQ p w (stepOk LA HD) through n s t an js) :topRun treeTable p w LA HD n s t=some an:=by
 induction aI with
 | Df h=>unfold topRun;exact H h rfl
 | step h k e aI bO=>unfold topRun;refine H h (H k (H e ?_));exact bO
section
variable {dd R:Type}(p:oo)(w:aG)(N:y)(ac:aR->aK R)
noncomputable def DX:aK R:=
 match OS (wO p) with
 | (⟨⟨jZ,life⟩,aI,d,t,os⟩,bR)=>tT jZ.toList 0 .nil λT=>uP (wO p) w life M7 FS (λS kT=>match CA kT with
  | some []=>zD S.tree S.n [] λl=>ac ⟨⟨⟨l⟩,S.life⟩,S.gens,S.drawn,S.toks,S.os⟩
  | _=>none) N T jZ.toList.length aI d t os bR
noncomputable def F2:aR->aK R
 | ⟨⟨jZ,life⟩,aI,d,t,os⟩=>tT jZ.toList 0 .nil λT=>uP p w life (M9 jZ.size (Heap.nsMap ⟨jZ,life⟩ Ex "__annotations__")) through (λS _=>
   zD S.tree S.n [] λl=>ac ⟨⟨⟨l⟩,S.life⟩,S.gens,S.drawn,S.toks,S.os⟩) N T jZ.size aI d t os (topStub p)
variable {p w N ac}
theorem KO {jZ:cp ao}{life:Life}{ac:BT->aK R}{r:R}(h:tT jZ.toList 0 .nil ac=some r) :∃ T,yi T jZ.toList.length life=⟨jZ,life⟩/\ac T=some r:=by obtain ⟨T,e,h⟩:=Zy (life:=life) (l:=jZ.toList) (pre:=[]) (T:=.nil) (by simp [yi,BT.list]) h;exact ⟨T,by simpa using e,h⟩
theorem YR {r:R}(e:DX p w N ac=some r) :∃ s,importEnds treeTable (wO p) w N (start (wO p)).1 (start (wO p)).2=some s/\ac s=some r:=by
 unfold DX at e;rw [<- aeE,<- I6] at e;generalize start (wO p)=op at e ⊢;obtain ⟨⟨⟨jZ,life⟩,aI,d,t,os⟩,bR⟩:=op;obtain ⟨T,vR,e⟩:=KO (life:=life) e;obtain ⟨S,kT,bk,e⟩:=FE _ _ _ _ _ _ _ _ _ e;generalize bu:Hq kT=x at e
 induction x with
 | none=>injection e
 | some l=>
  induction l with
  | cons=>injection e
  | nil=>have cu:=YS bk bu;rw [show Ho ⟨T,jZ.toList.length,life,aI,d,t,os⟩=⟨⟨jZ,life⟩,aI,d,t,os⟩ from fV (λh=>(⟨h,aI,d,t,os⟩ :aR)) vR] at cu;have e:=KZ e;rw [d9] at e;exact ⟨_,cu,e⟩
theorem ae7 {ha:aR}{r:R}(e:F2 p w N ac ha=some r) :∃ s,topRun treeTable p w ha.heap.objs.size (ha.heap.nsMap Ex "__annotations__") N ha (topStub p)=some s/\ac s=some r:=by unfold F2 at e;rw [<- abM] at e;obtain ⟨⟨jZ,life⟩,aI,d,t,os⟩:=ha;obtain ⟨T,vR,e⟩:=KO (life:=life) e;obtain ⟨S,kT,bk,e⟩:=FE _ _ _ _ _ _ _ _ _ e;have cu:=ae8 bk;rw [show Ho ⟨T,jZ.size,life,aI,d,t,os⟩=⟨⟨jZ,life⟩,aI,d,t,os⟩ from fV (λh=>(⟨h,aI,d,t,os⟩ :aR)) vR] at cu;have e:=KZ e;rw [d9] at e;exact ⟨_,cu,e⟩
end
section
variable {dd:Type}(p q:oo)(loose:B a6)(Xt:aR->bW)(Yf:aR->dd)(N:y)
noncomputable def Ef (w:aG):=
 DX p w N λs=>(Jd p s).bind λha=>lc (Heap.isNs ha.heap Ex&&ha.gens.size==0) (F2 p w N (λeo=>
  lc (staticsOk (importedModules p.main.body) ha.heap eo.heap&&namesBound p eo.heap&&gensDone eo&&laidKept ha.heap eo.heap) (some (OC q loose (importedModules p.main.body) Xt true eo,Yf eo))) ha)
variable {p q loose Xt Yf N}
theorem ZJ {Ya:aG->dd}(h:∀ w,Ef p q loose Xt Yf N w=some (openGood q loose,Ya w)) :LeftO p q loose Xt Yf Ya N:=λw=>by have e:=h w;unfold Ef at e;rw [<- VS] at e;simp only [<- ad9] at e;obtain ⟨s,cu,e⟩:=YR e;obtain ⟨ha,F,e⟩:=sY.mp e;obtain ⟨bK,e⟩:=rQ e;obtain ⟨eo,R,e⟩:=ae7 e;obtain ⟨hz,e⟩:=rQ e;unfold openEnds fencedOpening;refine H cu ?_;simp only [Hb,F];unfold topFrom;simp only [bK,R,hz,Hb];exact e
end
end
noncomputable def Zi:B y:=[0,1,2,4,5,6,7,9,10,11,12,13,14,16,17,18,19,20,21,22,23,25,26,27,28,30,31,33,35,36,37,38,40,41,42,43,44]
noncomputable def wD:B a6:=["_NodeInfo","_twin_re_1","UnsupportedOperation","IOBase","BufferedIOBase","TextIOBase","BytesIO","StringIO","join_path","shlex","split","join_shlex","_find_unsafe"]
noncomputable def qY:oo:=view aL Zi
noncomputable def Go (s:aR) :bW:=xlAt qY [] s&&recOk [] s
noncomputable def AH (s:aR) :B (aK ao)×y×y:=(F1.map s.heap.get?,s.heap.objs.size,s.toks)
noncomputable def AG (w:aG) :B (aK ao)×y×y:=((n3 w.params).map λp=>some p.2,935,1513)
set_option maxHeartbeats 0 in
theorem ZK (w:aG) :Ef aL qY wD Go AH 12520 w=some (openGood qY wD,AG w):=by kernel_rfl
theorem left:LeftO aL qY wD Go AH AG 12520:=ZJ ZK
end
section
open PySem PySem.W PySem.W.X PySem.Calls PyProof.Rows
abbrev oZ:=PySem.Challenge.rw_op0289_01
noncomputable abbrev adU:=PySem.W.Fast.tw9446332074065402090
theorem adV:@OpenLaw.wellSaid=@adU:=PySem.W.Fast.te9446332074065402090
theorem adT:oZ.wellSaid=true:=by refine H (adV ..) ?_;kernel_rfl
noncomputable def SQ:aK c5->DefRec
 | some (.FunctionDef n a b _ _ _ sz _ _ pos)=>⟨n,a,b,sz,pos⟩
 | _=>⟨default,default,default,default,default⟩
noncomputable def tk:DefRec:=SQ aL.main.body[44]?
abbrev Hr:Prop:=WalkX qY wD (XL qY []) AH AG oZ.row.toRowW tk [] λf vs=>PySem.call f vs
set_option maxHeartbeats 0 in
theorem X7 (afu:Hr) :oZ.Holds:=by
 refine holds_law adT λbs=>?_;refine holds_openX (q:=qY) (loose:=wD) (Xt:=Go) (XP:=XL qY []) (Yf:=AH) (Ya:=AG) (N:=12520) (d:=tk) (kwd:=[]) left (λs e=>xl_of s (l1.mp e).1) XL.keeps ?_ ?_ ?_ (λs e=>recFacts_of (l1.mp e).2) ?_ bs ?_ ?_ ?_ afu
 ·kernel_rfl
 ·kernel_rfl
 ·kernel_rfl
 ·kernel_rfl
 ·kernel_rfl
 ·exact ⟨rfl,rfl,rfl,rfl,rfl,by decide+kernel⟩
 ·w_witness2
end
section
open PySem PySem.W PySem.W.X PyProof.Rows
@[irreducible] noncomputable def fr (P:bp) :KT:=(.node (some (wL P)) (.node .none (.node (some (dz P)) (.node .none (.node .none .nil (.node .none (.node .none (.node (some (LN P)) .nil .nil) (.node .none (.node .none .nil (.node (some (MD P)) .nil .nil)) .nil)) (.node .none .nil (.node .none (.node .none .nil (.node (some (ML P)) .nil .nil)) .nil)))) (.node .none (.node .none (.node (some (Mr P)) .nil .nil) .nil) (.node .none (.node (some (MH P)) (.node .none .nil (.node .none .nil (.node (some (MY P)) .nil .nil))) .nil) .nil))) (.node .none (.node .none (.node .none (.node .none (.node (some (LJ P)) (.node .none (.node (some (Mf P)) .nil .nil) .nil) (.node .none .nil (.node (some (MQ P)) .nil .nil))) .nil) (.node .none (.node .none (.node .none .nil (.node (some (Mw P)) .nil .nil)) .nil) .nil)) (.node (some (Md P)) (.node .none .nil (.node (some (L2 P)) .nil .nil)) (.node .none (.node .none .nil (.node .none (.node (some (Mq P)) .nil .nil) .nil)) .nil))) (.node .none (.node .none (.node .none (.node .none (.node (some (L8 P)) .nil .nil) (.node .none .nil (.node (some (EF P)) .nil .nil))) .nil) (.node .none (.node (some (LU P)) (.node .none .nil (.node (some (Mz P)) .nil .nil)) .nil) .nil)) (.node .none (.node (some (MU P)) (.node .none .nil (.node .none .nil (.node (some (M0 P)) .nil .nil))) .nil) (.node (some (LG P)) (.node (some (LX P)) .nil .nil) (.node .none (.node .none .nil (.node (some (MO P)) .nil .nil)) .nil)))))) (.node .none (.node .none (.node .none (.node .none (.node (some (Mn P)) .nil .nil) (.node .none (.node .none .nil (.node .none .nil (.node (some (M3 P)) .nil .nil))) .nil)) (.node .none (.node .none (.node .none (.node .none (.node (some (Mj P)) .nil .nil) .nil) (.node .none .nil (.node (some (MV P)) .nil .nil))) .nil) (.node .none (.node (some (LV P)) .nil .nil) (.node (some (L6 P)) .nil .nil)))) (.node .none (.node .none (.node .none (.node (some (LK P)) (.node .none (.node (some (Mg P)) .nil .nil) .nil) .nil) (.node .none (.node .none .nil (.node (some (MC P)) .nil .nil)) .nil)) (.node (some (LC P)) .nil (.node .none .nil (.node .none (.node (some (Mu P)) .nil .nil) .nil)))) (.node (some (Mk P)) .nil .nil))) (.node .none (.node .none (.node .none (.node .none .nil (.node (some (L0 P)) .nil .nil)) (.node .none (.node .none .nil (.node .none .nil (.node (some (M5 P)) .nil .nil))) (.node .none (.node .none .nil (.node (some (MG P)) .nil .nil)) .nil))) (.node .none (.node .none (.node (some (LO P)) .nil .nil) .nil) (.node (some (LF P)) .nil (.node .none (.node .none .nil (.node (some (MN P)) .nil .nil)) .nil)))) (.node .none (.node .none .nil (.node .none .nil (.node (some (L3 P)) (.node .none .nil (.node (some (MK P)) .nil .nil)) .nil))) (.node .none (.node (some (M4 P)) (.node (some (LR P)) (.node .none .nil (.node (some (Mv P)) .nil .nil)) .nil) .nil) .nil))))) (.node (some (cy P)) (.node (some (kH P)) (.node .none (.node .none (.node .none (.node (some (Mm P)) .nil .nil) (.node .none (.node .none .nil (.node .none .nil (.node (some (M2 P)) .nil .nil))) .nil)) (.node .none (.node .none (.node .none (.node .none (.node (some (Mi P)) .nil .nil) .nil) .nil) (.node .none (.node .none .nil (.node (some (ME P)) .nil .nil)) .nil)) (.node .none .nil (.node (some (L5 P)) (.node .none .nil (.node (some (MM P)) .nil .nil)) .nil)))) (.node .none (.node .none (.node (some (Ms P)) .nil (.node .none (.node .none .nil (.node (some (MB P)) .nil .nil)) .nil)) (.node .none .nil (.node .none .nil (.node .none (.node (some (Mt P)) .nil .nil) .nil)))) .nil)) (.node .none (.node .none (.node .none (.node .none (.node .none .nil (.node .none .nil (.node (some (MS P)) .nil .nil))) (.node (some (LZ P)) .nil .nil)) (.node .none (.node .none (.node .none .nil (.node (some (Mx P)) .nil .nil)) .nil) .nil)) .nil) (.node .none (.node .none (.node .none (.node .none (.node (some (L9 P)) .nil .nil) .nil) .nil) (.node .none (.node .none (.node .none .nil (.node (some (MA P)) .nil .nil)) (.node .none (.node (some (Mo P)) .nil .nil) .nil)) (.node .none (.node .none .nil (.node (some (MJ P)) .nil .nil)) .nil))) (.node .none (.node (some (MZ P)) (.node (some (LQ P)) .nil (.node .none .nil (.node (some (M1 P)) .nil .nil))) .nil) (.node (some (LH P)) (.node (some (LY P)) .nil .nil) (.node .none (.node .none .nil (.node (some (MP P)) .nil .nil)) (.node (some (Mc P)) .nil .nil))))))) (.node .none (.node .none (.node .none (.node .none (.node .none (.node (some (LI P)) (.node .none (.node (some (Me P)) .nil .nil) .nil) (.node .none .nil (.node (some (nV P)) .nil .nil))) .nil) .nil) (.node (some (Mb P)) (.node .none (.node .none .nil (.node .none .nil (.node (some (MW P)) .nil .nil))) (.node (some (L1 P)) .nil .nil)) (.node .none (.node (some (LW P)) .nil (.node .none (.node (some (Mp P)) .nil .nil) .nil)) (.node (some (L7 P)) .nil (.node (some (Ma P)) .nil .nil))))) (.node .none (.node .none (.node .none (.node (some (LL P)) (.node .none (.node (some (Mh P)) .nil .nil) .nil) (.node .none .nil (.node (some (MT P)) .nil .nil))) .nil) (.node (some (LD P)) (.node (some (LS P)) (.node .none .nil (.node (some (My P)) .nil .nil)) .nil) .nil)) (.node (some (Ml P)) (.node (some (MR P)) .nil .nil) .nil))) (.node .none (.node .none (.node .none .nil (.node .none (.node .none .nil (.node .none .nil (.node (some (EG P)) .nil .nil))) (.node .none (.node .none .nil (.node (some (MI P)) .nil .nil)) .nil))) (.node .none (.node (some (MF P)) (.node (some (LP P)) .nil (.node .none .nil (.node (some (MX P)) .nil .nil))) .nil) .nil)) (.node .none (.node .none (.node .none (.node (some (LM P)) .nil .nil) .nil) (.node .none .nil (.node (some (L4 P)) .nil .nil))) (.node .none (.node (some (M6 P)) .nil .nil) .nil))))))
noncomputable def zs (af:y) :y->y->KT->bW
 | _,_,.nil=>true
 | s,b,.node v l r=>(v.isNone||kZ b af)&&zs af (2 * s) (s+b) l&&zs af (2 * s) (2 * s+b) r
theorem Ea {af:y} :∀ {t:KT} {s b:y},zs af s b t=true->∀ {j:y} {o:ao},t.get j=some o->s * j+b<af
 | .nil,_,_,_,_,_,e=>by injection e
 | .node v l r,s,b,O,j,o,e=>by
  simp only [zs,Gx,Bool.or_eq_true] at O;obtain ⟨⟨az,aJ⟩,bg⟩:=O;rw [KT.get_node] at e;by_cases bG:j=0
  ·subst bG
   rw [d1 rfl] at e;subst e;simp at az;lia
  ·rw [dt bG] at e
   by_cases p:j % 2=1
   ·rw [d1 p] at e
    have aq:=Ea aJ e;rw [<- KT.arith1 p] at aq;exact aq
   ·rw [dt p] at e
    have aq:=Ea bg e;rw [<- KT.arith2 bG p] at aq;exact aq
theorem Zm {P:bp}{a:y}{o:ao}(e:(fr P).get a=some o) :a<935:=by have:=Ea (af:=935) (t:=fr P) (s:=1) (b:=0) (by kernel_rfl) e;lia
theorem Zl {P:bp} :(fr P).get 894=none:=by kernel_rfl
theorem Zo (P:bp) :KT.of ((n3 P).filter λp=>p.1 != 894)=fr P:=by kernel_rfl
theorem BN {h:gg}{f:y×ao->bW} :∀ {l:B (y×ao)},re h l->re h (l.filter f)
 | [],_=>trivial
 | p::l,O=>by
  refine H (sS ..) ?_;split
  ·exact ⟨O.1,BN O.2⟩
  ·exact BN O.2
theorem X6 {h:gg}{ac:Frag}{f:y×ao->bW}{t:KT}(e:KT.of (ac.filter f)=t)(O:re h ac) :KT.Holds h 1 0 t:=by subst e;exact holds_of (BN O)
theorem nS {P:bp}{h:gg}(aq:KT.Holds h 1 0 (fr P)){a:y}{o:ao}(e:(fr P).get a=some o) :h.get? a=some o:=@kt_at h (fr P) aq a o e
theorem Zn {P:bp}{h:gg}(O:re h (n3 P)) :KT.Holds h 1 0 (fr P):=@X6 h (n3 P) (λp=>p.1 != 894) (fr P) (Zo P) O
section
noncomputable abbrev H5:=PySem.W.Fast.tw2348191978395082540
theorem R7:@Thread.calm=@H5:=PySem.W.Fast.te2348191978395082540
noncomputable def uM (c:cn) :bW:=H5 ⟨.pure (.again c),c,default,[]⟩
theorem su {c:cn}(h:uM c=true) :c.quiet=true:=by unfold uM at h;rw [<- R7,Thread.calm_eq,Thread.loud_again] at h;simp [Thread.refused] at h;exact h
theorem SI:denote pU=iy:=by exact H (PySem.table_eq_tree ..) (H (It ..) rfl)
noncomputable def Gc:cn->y
 | .builtin ..=>5
 | _=>1
noncomputable def u2:cn->y
 | .builtin ..=>10
 | _=>3
noncomputable def M8:cn->bW
 | .builtin id _=>match sZ id "claim.caller" with
  | .isTrue _=>false
  | .isFalse _=>true
 | _=>true
noncomputable def KA:cn->bW
 | .builtin ..=>true
 | _=>false
theorem r1 {b:bW}{x as n:y}(bu:x<=n)(c3:as<=n) :(if b=true then x else as)<=n:=by
 rcases b with _ | _
 ·exact c3
 ·exact bu
theorem ST {p:Prop}{d:Decidable p}{f:p->y}{aI:¬ p->y}{n:y}(a7:∀ h,f h<=n)(b3:∀ h,aI h<=n) :@dite y p d f aI<=n:=by
 induction d with
 | isTrue h=>exact a7 h
 | isFalse h=>exact b3 h
theorem Jv (id:kv)(a:mH) :(Code.builtin id a).frames<=3:=by
 delta Code.frames Code.frames.match_1
 repeat' (first | refine ST (λh=>?_) (λh=>?_) | refine r1 (by decide) (by decide) | (subst h;exact ro rfl))
theorem AD {c:cn}(h:KA c=false) :c.weight<=1:=by
 rcases c with _ | _
 case compStart e d i a env=>exact r1 (b:=(Code.compStart e d i a env).isFrame) (fk 1) (k1 1)
 case compLoop e d i a env=>exact r1 (b:=(Code.compLoop e d i a env).isFrame) (fk 1) (k1 1)
 all_goals first | exact AM h | exact ro rfl
theorem F7 {c:cn}(h:KA c=false) :c.cUnits<=3:=by
 rcases c with _ | _
 case compStart e d i a env=>exact x7 3 (r1 (b:=(Code.compStart e d i a env).isFrame) (fk 1) (k1 1))
 case compLoop e d i a env=>exact x7 3 (r1 (b:=(Code.compLoop e d i a env).isFrame) (fk 1) (k1 1))
 all_goals first | exact AM h | exact ro rfl
theorem afB {c:cn}(h:M8 c=true) :c.weight<=Gc c:=by
 rcases c with _ | _
 case builtin id a=>
  have bK:id≠"claim.caller":=λe=>by
   subst e;revert h;show (match sZ "claim.caller" "claim.caller" with | .isTrue _=>false | .isFalse _=>true)=true->dm
   induction sZ "claim.caller" "claim.caller" with
   | isTrue _=>exact λh=>(by injection h)
   | isFalse n=>exact absurd rfl n
  have aX:(Code.builtin id a).isCaller=false:=by
   delta Code.isCaller Code.isCaller.match_1
   exact dif_neg bK
  show (Code.builtin id a).frames+_ +_ +(if (Code.builtin id a).isCaller=true then claimMargin else 0)<=5;refine H aX ?_;exact Bj (Bj (Jv id a) (r1 (fk 1) (k1 1))) (r1 (fk 1) (k1 1))
 all_goals exact AD rfl
theorem F6 (c:cn) :c.cUnits<=u2 c:=by
 rcases c with _ | _
 case builtin id a=>exact Bk (x7 3 (Jv id a)) 1
 all_goals exact F7 rfl
inductive gN where
 | nil
 | ret (c:cn) (ap:aK ag) (k:cD->e5 Fin) (co:gN)
namespace gN
noncomputable def ap (bG:aK ag) :gN->aK ag
 | .nil=>bG
 | .ret _ h _ co=>h.or (co.ap bG)
noncomputable def eA:gN->y
 | .nil=>0
 | .ret c _ _ co=>Gc c+co.eA
noncomputable def AB:gN->y
 | .nil=>0
 | .ret c _ _ co=>u2 c+co.AB
noncomputable def ok:gN->bW
 | .nil=>true
 | .ret c _ _ co=>M8 c&&co.ok
noncomputable def dg (gk:aK (B cE)) :gN->aK (B cE)
 | .nil=>gk
 | .ret c _ _ co=>uH c.envs (co.dg gk)
noncomputable def q3 (co:gN) :bW:=co.ok&&Nat.ble co.eA 30&&Nat.ble co.AB 150
end gN
noncomputable def ii (A:c9) :gN->c9
 | .nil=>A
 | .ret c ap _ co=>((ii A co).under c).mark ap
theorem BO (A:c9) :∀ co:gN,(ii A co).handled=co.ap A.handled
 | .nil=>rfl
 | .ret c ap _ co=>by show ap.or (ii A co).handled=_;refine H (BO A co ..) ?_;rfl
theorem HG (A:c9) :∀ co:gN,(ii A co).frames=co.dg A.frames
 | .nil=>rfl
 | .ret c ap _ co=>by show uH c.envs (ii A co).frames=_;refine H (HG A co ..) ?_;rfl
theorem HF (A:c9) :∀ co:gN,co.ok=true->(ii A co).depth<=A.depth+co.eA
 | .nil,_=>by simp [ii]
 | .ret c ap _ co,h=>by unfold gN.ok at h;obtain ⟨az,aJ⟩:=l1.mp h;have a:=HF A co aJ;have b:=afB az;show (ii A co).depth+c.weight<=A.depth+(Gc c+co.eA);lia
theorem HH (A:c9) :∀ co:gN,(ii A co).units<=A.units+co.AB
 | .nil=>by simp [ii]
 | .ret c ap _ co=>by have a:=HH A co;have b:=F6 c;show (ii A co).units+c.cUnits<=A.units+(u2 c+co.AB);lia
variable {w:aG}
noncomputable def oz (w:aG)(A:c9)(R:cD->aR->Prop) :gN->cD->aR->Prop
 | .nil=>R
 | .ret c _ k co=>postR aL w (ii A co) c (postC aL w (ii A co) (oz w A R co)) (postE (oz w A R co)) k
noncomputable def Bi (w:aG)(A:c9)(R:cD->aR->Prop)(co:gN)(c:cn)(t:e5 Fin)(s:aR) :Prop:=
 wpOwn (model aL w) (ii A co) c t (postC aL w (ii A co) (oz w A R co)) (postE (oz w A R co)) s
noncomputable def dX (h:gg)(l:B (aM×ao)) :Prop:=∀ p∈l,h.get? p.1=some p.2
structure fy (s an:aR)(aB:B aM) :Prop where
 eO:∀ b o,s.heap.get? b=some o->b ∉ aB->an.heap.get? b=some o
 size:s.heap.objs.size<=an.heap.objs.size
 os:an.os=s.os
 gens:∃ l:B iJ,an.gens=s.gens++l.toArray/\∀ aI∈l,aI= .finished
theorem fy.refl (s:aR)(aB:B aM) :fy s s aB:=⟨λ_ _ e _=>e,fk _,rfl,[],rfl,λ_ h=>((c4 h).elim)⟩
structure eb (w:aG)(dg:aK (B cE))(bj:y)(A:c9)(ap:aK ag)(s:aR) :Prop where
 depth:A.depth+40 * bj<=900
 units:A.units+200 * bj<=9000
 handled:A.handled=ap
 it:KT.Holds s.heap 1 0 (fr w.params)
 size:935<=s.heap.objs.size
 frames:∀ l,dg=some l->A.frames=some l
noncomputable abbrev og (w:aG)(bj:y)(A:c9)(ap:aK ag)(s:aR) :Prop:=eb w none bj A ap s
structure ie (aB:B aM) :Prop where
 e8:aB.Nodup
 free:∀ a∈aB,935<=a∨a=894
structure oe (s an:aR)(aB:B aM)(d7:B ao)(ns:B (aM×ao)) :Prop where
 len:d7.length=aB.length
 has:dX an.heap (aB.zip d7)
 bV:dX an.heap ns
 e8:(ns.map (·.1)).Nodup
 fresh:∀ p∈ns,s.heap.objs.size<=p.1
 eD:fy s an aB
structure cV (w:aG) where
 bj:y
 code:cn
 ap:aK ag
 pre:B (aM×ao)
 bB:(y->y)->cD
 cB:(y->y)->B ao
 bV:(y->y)->B (aM×ao)
 cond:(y->y)->Prop
 ok:∀ (A:c9) (s:aR),og w bj A ap s->dX s.heap pre->ie (pre.map (·.1))->
  codeAny (model aL w) A code (λr an=>∃ x:y->y,r=bB x/\cond x/\an.heap.objs.size=x 0/\an.toks=x 1/\oe s an (pre.map (·.1)) (cB x) (bV x)) s
noncomputable abbrev bN:=B (aM×ao)
noncomputable def q5:B bN->B bW->B bN
 | [],_=>[]
 | _::_,[]=>[]
 | b::af,true::m=>b::q5 af m
 | _::af,false::m=>q5 af m
noncomputable def mA:B bN->B bW->B bN
 | [],_=>[]
 | b::af,[]=>b::af
 | _::af,true::m=>mA af m
 | b::af,false::m=>b::mA af m
structure jI (s an:aR)(aB fm:B aM)(d7:B ao)(ns:B (aM×ao))(g2:B bN) :Prop where
 len:d7.length=aB.length
 has:dX an.heap (aB.zip d7++(ns++g2.flatten))
 e8:((aB.zip d7++(ns++g2.flatten)).map (·.1)).Nodup
 fresh:∀ p∈ns++g2.flatten,p.1∈fm∨s.heap.objs.size<=p.1
 eD:fy s an (aB++fm)
structure hy (w:aG) where
 dg:aK (B cE)
 bj:y
 code:cn
 ap:aK ag
 pre:B (aM×ao)
 fN:B bN
 bB:(y->y)->cD
 cB:(y->y)->B ao
 bV:(y->y)->B (aM×ao)
 gr:(y->y)->B bN
 cond:(y->y)->Prop
 ok:∀ (A:c9) (s:aR),eb w dg bj A ap s->dX s.heap (pre++fN.flatten)->ie ((pre++fN.flatten).map (·.1))->
  codeAny (model aL w) A code (λr an=>∃ x:y->y,r=bB x/\cond x/\an.heap.objs.size=x 0/\an.toks=x 1/\jI s an (pre.map (·.1)) (fN.flatten.map (·.1)) (cB x) (bV x) (gr x)) s
theorem oe.O9 {s an:aR}{aB:B aM}{d7:B ao}{ns:B (aM×ao)}(f:oe s an aB d7 ns)(io:∀ a∈aB,a<s.heap.objs.size)(bK:aB.Nodup) :jI s an aB [] d7 ns []:=by
 refine ⟨f.len,?_,?_,?_,by refine H (d9 ..) ?_;exact f.eD⟩
 all_goals refine H (h2 ..) (H (d9 ..) ?_)
 ·exact λp L=>(dU.mp L).elim (f.has p) (f.bV p)
 ·refine H (c0 ..) (H (List.map_fst_zip (vp f.len.symm) ..) ?_)
  exact fA.mpr ⟨bK,f.e8,λa az b aJ e=>let ⟨p,L,bt⟩:=fC.mp aJ;absurd (f.fresh p L) (sV.mpr (bt.trans e.symm▸io _ az))⟩
 ·exact λp L=>.inr (f.fresh p L)
noncomputable def cV.Q6 (c:cV w) :hy w:=⟨none,c.bj,c.code,c.ap,c.pre,[],c.bB,c.cB,c.bV,λ_=>[],c.cond,λA s aS has bU=>by rw [h2,d9] at has bU;exact gR (c.ok A s aS has bU) λr an ⟨x,e,aX,bG,az,f⟩=>⟨x,e,aX,bG,az,f.O9 (λa bY=>let ⟨p,L,e⟩:=fC.mp bY;e▸hC (has p L)) bU.e8⟩⟩
noncomputable def sP (c f:aK (B cE)) :Prop:=match c with
 | none=>bZ
 | some l=>f=some l
theorem sP.n1:∀ c,sP c c
 | none=>trivial
 | some _=>rfl
inductive gP where
 | ret (r:cD)
 | dr (c:cn)
inductive bb (w:aG) where
 | bd (b8 fq:B y) (m:y) (dw:gP) (du:B (y×ao))
 | ax (b8 fq:B y) (m:y) (dL:cV w) (cL:B y) (aW:(y->y)->bb w)
 | fF (b8 fq:B y) (m:y) (dL:hy w) (cL:B y) (hg:B bW) (aW:(y->y)->bb w)
noncomputable def bb.b8:bb w->B y
 | .bd b8 ..=>b8
 | .ax b8 ..=>b8
 | .fF b8 ..=>b8
noncomputable def bb.fq:bb w->B y
 | .bd _ fq ..=>fq
 | .ax _ fq ..=>fq
 | .fF _ fq ..=>fq
section WQ
variable {dd:Type}
noncomputable def lK (b:bW)(p:Prop) :Prop:=p8 dm p b
theorem mZ {b:bW}{p:Prop}(h:lK b p) :b=true/\p:=by
 induction b with
 | true=>exact ⟨rfl,h⟩
 | false=>exact h.elim
noncomputable def v4 (o:aK dd)(k:dd->Prop) :Prop:=Option.rec dm k o
theorem yW {o:aK dd}{k:dd->Prop}(h:v4 o k) :∃ a,o=some a/\k a:=by
 induction o with
 | none=>exact h.elim
 | some a=>exact ⟨a,rfl,h⟩
noncomputable def CZ (b8:B y)(aq:B y->Prop)(k:y->B y->Prop) :Prop:=Bg dm (λj l _=>Nat.rec (aq l) (λj _=>k j l) j) b8
theorem WM {b8:B y}{k:y->B y->Prop}(h:CZ b8 (λ_=>dm) k) :∃ j l,k j l:=by
 induction b8 with
 | nil=>exact h.elim
 | cons j l=>
  induction j with
  | zero=>exact h.elim
  | succ j=>exact ⟨j,l,h⟩
noncomputable def Ag (T:BT)(j:y)(o:ao)(k:BT->Prop) :Prop:=qs o λo'=>lW T j o' λd0=>lK (d0.get j).isSome (k d0)
theorem Oa {T:BT}{j:y}{o:ao}{k:BT->Prop}(h:Ag T j o k) :((T.ins j o).get j).isSome=true/\k (T.ins j o):=by unfold Ag at h;rw [yN,qZ] at h;exact mZ h
theorem CD {n:y}{ac:y->Prop}(h:qr n ac) :ac n:=(I8 n ac).mp h
end WQ
noncomputable def ga (aB:B y)(len n j:y) :y:=p8 (n+(j - len)) (aB.getD j 0) (kZ j len)
def AJ (aC:B (y×y))(b8:B y)(m f0:y)(a vy:B y)(o o':B (aK ao))(c ff:cn)(h ct:aK ag) :Prop:=
 (∀ p∈aC,p.1=p.2)/\b8=[]/\m=f0/\a=vy/\o=o'/\c=ff/\h=ct
def Gu (aC:B (y×y))(b8:B y)(m f0:y) :Prop:=(∀ p∈aC,p.1=p.2)/\b8=[]/\m=f0
noncomputable def tw (aB:B y)(len n:y) :B y->B (y×y)->B (y×y)
 | [],a3=>a3
 | 0::l,a3=>tw aB len n l a3
 | (j+1)::l,a3=>tw aB len n l ((ga aB len n j,ga aB len n j)::a3)
noncomputable def ll (aB:B y)(n m:y)(bV:B (aM×ao)) :B y:=aB++((lA m).map (λj=>n+j)++bV.map (·.1))
noncomputable def xx:BT->B y->B ao->(BT->Prop)->Prop
 | T,j::cL,o::d7,ac=>lW T j o λd0=>xx d0 cL d7 ac
 | T,_,_,ac=>ac T
noncomputable def pF:BT->y->B (aM×ao)->(BT->y->Prop)->Prop
 | T,len,[],ac=>ac T len
 | T,len,p::l,ac=>lW T len p.2 λd0=>lK (d0.get len).isSome (qr (len+1) λwz=>pF d0 wz l ac)
noncomputable def lT (j:y)(l:B y) :bW:=Bg false (λk _ r=>p8 r true (pc j k)) l
noncomputable def t4 (l:B y) :bW:=Bg true (λj l r=>p8 r false (lT j l)) l
noncomputable abbrev HI:=PySem.W.Fast.tw9782568553167038054
theorem Ra:@bindArgs=@HI:=PySem.W.Fast.te9782568553167038054
noncomputable abbrev Ll:=@PySem.W.Fast.tw11113344188204177931
theorem abq:@newFunctionEnv=@Ll:=PySem.W.Fast.te11113344188204177931
noncomputable abbrev Je:=PySem.W.Fast.tw6609576154772507232
theorem We:@field=@Je:=PySem.W.Fast.te6609576154772507232
noncomputable def CQ (a:aM)(g4:AW)(args:mH) :e5 cE:=
 vv (match g4.code with
  | .none=>s0 g4.qualname
  | c=>vv (Je c 1) λv=>match v with | .str q _=>s0 q | _=>s0 g4.qualname) λSx=>
 vv (HI g4 args) λRb=>Ll g4.scope g4.globals g4.closure Rb (Sx++".<locals>.") (some a) g4.code none g4.builtins
noncomputable def yR (g4:AW)(env:cE) :cn:=match g4.body with
 | .stmts b=>.func b env
 | .expr e=>.expr e env
noncomputable def El (P:bp)(aB:B y)(len n:y)(T:BT)(a:aM)(aC:B (y×y))(b8:B y)(k:B y->B (y×y)->ao->Prop) :Prop:=
 CZ b8 (λb8=>v4 ((fr P).get a) (k b8 aC)) λj b8=>v4 (T.get j) (k b8 ((a,ga aB len n j)::aC))
noncomputable def jh {dd:Type}(w:aG)(aB:B y)(len n t:y)(ac:B y->y->BT->y->B (y×y)->e5 dd->Prop) :y->B y->y->BT->y->B (y×y)->e5 dd->Prop
 | 0=>λ_ _ _ _ _ _=>dm
 | f+1=>λb8 m T i aC d3=>match d3 with
  | .rule _ k=>jh w aB len n t ac f b8 m T i aC (k ())
  | .at _ k=>jh w aB len n t ac f b8 m T i aC (k ())
  | .point _ k=>jh w aB len n t ac f b8 m T i aC (k ())
  | .ask k=>jh w aB len n t ac f b8 m T i aC (k ⟨aL,w.params⟩)
  | .fresh k=>qr (i+1) λDU=>jh w aB len n t ac f b8 m T DU aC (k (t+i))
  | .load a _ k=>El w.params aB len n T a aC b8 λb8 aC o=>jh w aB len n t ac f b8 m T i aC (k o)
  | .loadIfAlive a k=>El w.params aB len n T a aC b8 λb8 aC o=>jh w aB len n t ac f b8 m T i aC (k (some o))
  | .alloc o k=>lK (!o.isFreed) (Ag T (len+m) o λd0=>qr (m+1) λf0=>jh w aB len n t ac f b8 f0 d0 i aC (k (n+m)))
  | .update a _ aI k=>CZ b8 (λ_=>dm) λj b8=>v4 (T.get j) λo=>lK (!(aI o).isFreed) (Ag T j (aI o) λd0=>jh w aB len n t ac f b8 m d0 i ((a,ga aB len n j)::aC) (k ()))
  | d3=>ac b8 m T i aC d3
noncomputable def abL:aK ag->bW
 | some .notImplemented=>false
 | _=>true
noncomputable def wQ (o:B (aM×ao))(af:B bN) :B (aM×ao):=Bg o (λb af _=>o++(b::af).flatten) af
theorem ab2 (o:B (aM×ao))(af:B bN) :wQ o af=o++af.flatten:=by
 induction af with
 | nil=>exact (d9 o).symm
 | cons b af=>rfl
section
variable (gk:aK (B cE))(bj:y)(bG:aK ag)(F:gP->B (aM×ao)->Prop)
abbrev qb (w:aG):=bb w->B y->B y->B y->y->y->y->BT->B bN->y->y->B (y×y)->gN->cn->e5 Fin->Prop
noncomputable def CN (bI:bb w)(b8 aB:B y)(len n m:y)(T:BT)(af:B bN)(aC:B (y×y))(dw:gP) :Prop:=match bI with
 | .bd _ _ f0 _ du=>lK ((du.all λp=>(T.get p.1).isSome)&&t4 (du.map (·.1))) (Gu aC b8 m f0/\F dw (wQ (du.map λp=>(ga aB len n p.1,(T.get p.1).getD default)) af))
 | .ax ..=>dm
 | .fF ..=>dm
noncomputable def Ak (bO:qb w)(bI:bb w)(b8 fq aB:B y)(len n m:y)(T:BT)(af:B bN)(t i:y)(aC:B (y×y))(co:gN)(r:cD) :Prop:=match co with
 | .nil=>CN F bI b8 aB len n m T af aC (.ret r)
 | .ret c _ k af5=>bO bI b8 fq aB len n m T af t i aC af5 c (k r)
noncomputable def B5 (bO:qb w)(dr:bW)(b8 aB:B y)(len n m:y)(T:BT)(af:B bN)(aC:B (y×y))(co:gN)(c:cn)(f0:y)(dL:hy w)(cL:B y)(hg:B bW)(aW:(y->y)->bb w) :Prop:=
 lK (co.q3&&kZ dL.bj bj&&t4 cL&&(!dr||uM c))
  ((sP dL.dg (co.dg gk)/\q5 af hg=dL.fN/\AJ aC b8 m f0 (cL.map (ga aB len n)) (dL.pre.map (·.1)) (cL.map T.get) (dL.pre.map λp=>some p.2) c dL.code (co.ap bG) dL.ap)/\
   ∀ x:y->y,dL.cond x->xx T cL (dL.cB x) λd0=>pF d0 (len+m) (dL.bV x) λQx wz=>
    Ak F bO (aW x) (aW x).b8 (aW x).fq (ll aB n m (dL.bV x)) wz (x 0) 0 Qx (mA af hg++dL.gr x) (x 1) 0 [] co (dL.bB x))
noncomputable def B6 (bO:qb w)(dr:bW)(bI:bb w)(b8 aB:B y)(len n m:y)(T:BT)(af:B bN)(aC:B (y×y))(co:gN)(c:cn) :Prop:=match bI with
 | .ax _ _ f0 dL cL aW=>B5 gk bj bG F bO dr b8 aB len n m T af aC co c f0 dL.Q6 cL [] aW
 | .fF _ _ f0 dL cL hg aW=>B5 gk bj bG F bO dr b8 aB len n m T af aC co c f0 dL cL hg aW
 | .bd ..=>dm
noncomputable def yS (w:aG)(aB:B y)(len n t:y)(co:gN)(c:cn)(b8:B y)(m:y)(T:BT)(i:y)(aC:B (y×y))(ac:B y->y->BT->y->B (y×y)->cn->Prop) :Prop:=match c with
 | .call (.ref a) args=>v4 ((fr w.params).get a) λo=>match o with
  | ⟨_,_,.func g4,_⟩=>lK (!(g4.scope.isGenerator||g4.scope.isCoroutine)&&co.q3) (jh w aB len n t (λb8 m T i aC d3=>match d3 with
    | .pure env=>lK (uM (yR g4 env)) (ac b8 m T i aC (yR g4 env))
    | _=>dm) 1000 b8 m T i aC (CQ a g4 args))
  | _=>dm
 | _=>dm
noncomputable def zj (bO:qb w)(dr:bW)(bI:bb w)(b8 fq aB:B y)(len n m:y)(T:BT)(af:B bN)(t i:y)(aC:B (y×y))(co:gN)(c:cn) :Prop:=match fq with
 | []=>dm
 | 0::fq=>lK (uM c) (bO bI b8 fq aB len n m T af t i aC co c (iy c))
 | 1::fq=>yS w aB len n t co c b8 m T i aC λb8 m T i aC ff=>bO bI b8 fq aB len n m T af t i aC co ff (iy ff)
 | 2::_=>B6 gk bj bG F bO dr bI b8 aB len n m T af aC co c
 | 4::_=>yS w aB len n t co c b8 m T i aC λb8 m T i aC ff=>B6 gk bj bG F bO false bI b8 aB len n m T af aC co ff
 | _::_=>lK (dr&&uM c) (match co with
  | .nil=>CN F bI b8 aB len n m T af aC (.dr c)
  | .ret ..=>dm)
noncomputable def go:y->qb w
 | 0=>λ_ _ _ _ _ _ _ _ _ _ _ _ _ _ _=>dm
 | f+1=>λbI b8 fq aB len n m T af t i aC co c d3=>jh w aB len n t (λb8 m T i aC d3=>match d3 with
  | .pure bd=>match bd with
   | .done dg=>Ak F (go f) bI b8 fq aB len n m T af t i aC co (.ok dg)
   | .again ff=>zj gk bj bG F (go f) true bI b8 fq aB len n m T af t i aC co ff
  | .raise e=>Ak F (go f) bI b8 fq aB len n m T af t i aC co (.error e)
  | .handled hM k=>lK (!hM) (go f bI b8 fq aB len n m T af t i aC co c (k (co.ap bG)))
  | .call ff ap _ _ k=>lK (abL ap) (zj gk bj bG F (go f) false bI b8 fq aB len n m T af t i aC (.ret c ap k co) ff)
  | _=>dm) 100000 b8 m T i aC d3
noncomputable def qd (F:gP->B (aM×ao)->Prop) :bb w->B y->y->y->B bN->Prop
 | .bd b8 _ m dw du=>λaB len n af=>Gu (tw aB len n b8 []) [] m m/\F dw (wQ (du.map λp=>(ga aB len n p.1,p.2)) af)
 | .ax b8 _ m dL cL aW=>λaB len n af=>(sP none none/\([] :B bN)=[]/\AJ (tw aB len n b8 []) [] m m (dL.pre.map (·.1)) (dL.pre.map (·.1)) (dL.pre.map λp=>some p.2) (dL.pre.map λp=>some p.2) dL.code dL.code dL.ap dL.ap)/\
   ∀ x:y->y,dL.cond x->qd F (aW x) (ll aB n m (dL.bV x)) (len+m+(dL.bV x).length) (x 0) (mA af []++[])
 | .fF b8 _ m dL cL hg aW=>λaB len n af=>(sP dL.dg dL.dg/\dL.fN=dL.fN/\AJ (tw aB len n b8 []) [] m m (dL.pre.map (·.1)) (dL.pre.map (·.1)) (dL.pre.map λp=>some p.2) (dL.pre.map λp=>some p.2) dL.code dL.code dL.ap dL.ap)/\
   ∀ x:y->y,dL.cond x->qd F (aW x) (ll aB n m (dL.bV x)) (len+m+(dL.bV x).length) (x 0) (mA af hg++dL.gr x)
abbrev sR (F:gP->B (aM×ao)->Prop)(bI:bb w)(aB:B y)(len n:y) :Prop:=qd F bI aB len n []
noncomputable def v5 (iQ:y)(bI:bb w)(l:B (aM×ao))(af:B bN)(n t:y)(c:cn) :Prop:=
 pF .nil 0 l λT len=>zj gk bj bG F (go gk bj bG F iQ) false bI bI.b8 bI.fq (l.map (·.1)) len n 0 T af t 0 [] .nil c
noncomputable def yY (iQ:y)(bI:bb w)(l:B (aM×ao))(af:B bN)(n t:y)(c:cn)(d3:e5 Fin) :Prop:=
 pF .nil 0 l λT len=>go gk bj bG F iQ bI bI.b8 bI.fq (l.map (·.1)) len n 0 T af t 0 [] .nil c d3
end
section
variable (bj:y)(bG:aK ag)(F:gP->B (aM×ao)->Prop)
noncomputable abbrev tD (iQ:y)(bI:bb w)(l:B (aM×ao))(n t:y)(c:cn) :Prop:=v5 none bj bG F iQ bI l [] n t c
end
end
section
variable {w:aG}
theorem zy {dd:Type} :∀ {l:B dd},l.length=1->∃ a,l=[a]
 | [a],_=>⟨a,rfl⟩
theorem wA {dd:Type} :∀ {l:B dd},l.length=2->∃ a b,l=[a,b]
 | [a,b],_=>⟨a,b,rfl⟩
theorem wB {dd:Type} :∀ {l:B dd},l.length=3->∃ a b c,l=[a,b,c]
 | [a,b,c],_=>⟨a,b,c,rfl⟩
noncomputable def ks (aC:B (y×y)) :Prop:=∀ p∈aC,p.1=p.2
theorem ks.tail {p:y×y}{aC:B (y×y)}(h:ks (p::aC)) :ks aC:=λq a4=>h q (dG _ a4)
theorem ks.head {a b:y}{aC:B (y×y)}(h:ks ((a,b)::aC)) :a=b:=h (a,b) (cY ..)
theorem vW (aB:B y)(len n:y) :∀ (b8:B y) (a3:B (y×y)),ks a3->ks (tw aB len n b8 a3)
 | [],_,h=>h
 | 0::l,_,h=>vW aB len n l _ h
 | (j+1)::l,a3,h=>vW aB len n l _ (by
   intro p L;rcases dx.mp L with rfl | L
   ·rfl
   ·exact h p L)
theorem vB {aB:B y}{len n j:y}(h:j<len) :ga aB len n j=aB.getD j 0:=by unfold ga;exact H (show kZ j len=true from Nat.ble_eq_true_of_le h) rfl
theorem rr {aB:B y}{len n j:y}(h:¬ j<len) :ga aB len n j=n+(j - len):=by unfold ga;exact H (show kZ j len=false from Bool.eq_false_iff.mpr λe=>h (ro e)) rfl
theorem fy.trans {s eo an:aR}{aB fm:B aM}(az:fy s eo aB)(aJ:fy eo an fm)(aQ:∀ b∈fm,b∈aB∨s.heap.objs.size<=b) :fy s an aB:=by refine ⟨λb o e bK=>aJ.eO b o (az.eO b o e bK) λaU=>(aQ b aU).elim bK λh=>absurd h (sV.mpr (hC e)),gh az.size aJ.size,aJ.os.trans az.os,?_⟩;obtain ⟨eP,a5,a1⟩:=az.gens;obtain ⟨g8,bt,a2⟩:=aJ.gens;exact ⟨eP++g8,by refine H bt (H a5 ?_);simp,λaI b3=>(dU.mp b3).elim (a1 aI) (a2 aI)⟩
structure oj (f2:aR)(gb:B aM)(aB:B y)(len n:y)(fm:B aM) :Prop where
 wC:aB.length=len
 aw:(aB++fm).Nodup
 all:∀ a∈aB++fm,a<n/\(935<=a∨a=894)/\(a∈gb∨f2.heap.objs.size<=a)
 nA:935<=n
 FN:f2.heap.objs.size<=n
structure iM (w:aG)(f2:aR)(gb:B aM)(s:aR)(aB:B y)(len n m:y)(T:BT)(af:B bN)(t i:y) :Prop where
 fix:oj f2 gb aB len n (af.flatten.map (·.1))
 size:s.heap.objs.size=n+m
 hM:∀ j o,T.get j=some o->j<len+m/\s.heap.get? (ga aB len n j)=some o
 it:KT.Holds s.heap 1 0 (fr w.params)
 toks:s.toks=t+i
 eD:fy f2 s gb
 s6:dX s.heap af.flatten
section fix
variable {f2:aR}{gb fm:B aM}{aB:B y}{len n:y}(D:oj f2 gb aB len n fm)
include D
theorem oj.yK {j:y}(h:j<len) :∃ h:j<aB.length,ga aB len n j=aB[j]:=by have al:j<aB.length:=D.wC.symm▸h;exact ⟨al,by refine H (vB h ..) (H (jw ..) (H (nr al ..) ?_));rfl⟩
theorem oj.mem (j:y) :ga aB len n j∈aB∨(len<=j/\ga aB len n j=n+(j - len)):=by
 by_cases h:j<len
 ·obtain ⟨al,e⟩:=D.yK h
  exact .inl (e▸pa al)
 ·exact .inr ⟨j9.mp h,rr h⟩
theorem oj.lt {a:y}(h:a∈aB) :a<n:=(D.all a (eS _ h)).1
theorem oj.inj {j k:y}(e:ga aB len n j=ga aB len n k) :j=k:=by
 by_cases az:j<len
 ·obtain ⟨eP,a5⟩:=D.yK az
  by_cases aJ:k<len
  ·obtain ⟨g8,bt⟩:=D.yK aJ
   exact (List.getElem_inj (fA.mp D.aw).1).mp (a5.symm.trans (e.trans bt))
  ·exact absurd (D.lt (pa eP)) (by refine df a5 (H e (H (rr aJ ..) ?_));exact j9.mpr (jx ..))
 ·by_cases aJ:k<len
  ·obtain ⟨g8,bt⟩:=D.yK aJ
   exact absurd (D.lt (pa g8)) (by refine df bt (df e (H (rr az ..) ?_));exact j9.mpr (jx ..))
  ·rw [rr az,rr aJ] at e
   lia
theorem oj.s4 (j:y) :(935<=ga aB len n j∨ga aB len n j=894)/\(ga aB len n j∈gb∨f2.heap.objs.size<=ga aB len n j):=by
 rcases D.mem j with h | ⟨_,h⟩
 ·exact (D.all _ (eS _ h)).2
 ·refine H h ?_
  exact ⟨.inl (gh D.nA (jx ..)),.inr (gh D.FN (jx ..))⟩
theorem oj.vC {a:y}(h:a∈fm)(j:y) :a≠ga aB len n j:=λe=>by
 rcases D.mem j with q | ⟨_,q⟩
 ·exact (fA.mp D.aw).2.2 _ q _ h e.symm
 ·exact absurd (D.all a (eJ _ h)).1 (by refine H e (H q ?_);exact j9.mpr (jx ..))
end fix
theorem pX {P:bp}{a:y}{o:ao}(e:(fr P).get a=some o){b:y}(aQ:935<=b∨b=894) :a≠b:=by
 rintro rfl;rcases aQ with aQ | rfl
 ·have:=Zm e;lia
 ·rw [Zl] at e;injection e
theorem Du {P:bp}{h:gg} :∀ {k:KT} {s b:y},(∀ j o,k.get j=some o->h.get? (s * j+b)=some o)->KT.Holds h s b k
 | .nil,_,_,_=>trivial
 | .node v l r,s,b,O=>by
  refine ⟨λo e=>?_,Du (P:=P) λj o e=>?_,Du (P:=P) λj o e=>?_⟩
  ·have:=O 0 o (by refine H (KT.get_node ..) (H (d1 rfl ..) ?_);exact e)
   simpa using this
  ·have:=O (2 * j+1) o (by refine H (KT.get_node ..) (H (dt (by lia) ..) (H (d1 (by lia) ..) (H (show (2 * j+1) / 2=j by lia) ?_)));exact e)
   refine H (show 2 * s * j+(s+b)=s * (2 * j+1)+b by rw [Nat.mul_add,Nat.mul_one,<- Nat.mul_assoc,Nat.mul_comm s 2];lia) ?_;exact this
  ·have:=O (2 * j+2) o (by refine H (KT.get_node ..) (H (dt (by lia) ..) (H (dt (by lia) ..) (H (show (2 * j+2) / 2 - 1=j by lia) ?_)));exact e)
   refine H (show 2 * s * j+(2 * s+b)=s * (2 * j+2)+b by rw [Nat.mul_add,<- Nat.mul_assoc,Nat.mul_comm s 2];lia) ?_;exact this
theorem n4 {P:bp}{h ct:gg}(O:KT.Holds h 1 0 (fr P))(k:∀ a o,(fr P).get a=some o->h.get? a=some o->ct.get? a=some o) :KT.Holds ct 1 0 (fr P):=
 Du (P:=P) λj o e=>by refine H (Nat.one_mul ..) (H (rn ..) ?_);exact k j o e (nS O e)
theorem zm:∀ {T:BT} {j:y} {o o':ao},T.get j=some o->((T.ins j o').get j).isSome=true
 | .nil,_,_,_,h=>by simp [BT.get] at h
 | .node v l r,j,o,o',h=>by
  rw [AL] at h;refine H (BT.ins_node ..) ?_;by_cases bG:j=0
  ·refine H (d1 bG ..) (H (AL ..) (H (d1 bG ..) ?_));rfl
  ·rw [dt bG] at h ⊢
   by_cases p:j % 2=1
   ·rw [d1 p] at h ⊢
    refine H (AL ..) (H (dt bG ..) (H (d1 p ..) ?_));exact zm h
   ·rw [dt p] at h ⊢
    refine H (AL ..) (H (dt bG ..) (H (dt p ..) ?_));exact zm h
section
variable {f2 s:aR}{gb:B aM}{aB:B y}{len n m:y}{T:BT}{af:B bN}{t i:y}(D:iM w f2 gb s aB len n m T af t i)
include D
theorem iM.alloc {o:ao}(a7:(!o.isFreed)=true)(hs:((T.ins (len+m) o).get (len+m)).isSome=true) :
  iM w f2 gb {s with heap:=s.heap.push o} aB len n (m+1) (T.ins (len+m) o) af t i:=by
 have L:∀ a o',s.heap.get? a=some o'->(s.heap.push o).get? a=some o':=λ_ _ e=>iv _ e;refine ⟨D.fix,(ku ..).trans (fV (· +1) D.size),λj o' e=>?_,n4 D.it λa o' _ e=>L a o' e,D.toks,⟨λb o' e q=>L b o' (D.eD.eO b o' e q),gh D.eD.size (by refine H (ku ..) ?_;exact rp _),D.eD.os,D.eD.gens⟩,λp h=>L _ _ (D.s6 p h)⟩;rw [AK o T _ hs] at e;by_cases h:j=len+m
 ·subst h
  rw [d1 rfl] at e
  (injection e with d8;subst d8)
  refine ⟨pd _,?_⟩;refine H (rr (j9.mpr (jx ..)) ..) (H (Qm ..) (df (D.size ..) ?_));exact nq _ (rh _▸a7)
 ·rw [dt h] at e
  have aq:=D.hM j o' e;exact ⟨Bl aq.1,L _ _ aq.2⟩
theorem iM.update {j:y}{o:ao}{aI:ao->ao}(e:T.get j=some o)(a7:(!(aI o).isFreed)=true) :
  iM w f2 gb {s with heap:=s.heap.update (ga aB len n j) aI} aB len n m (T.ins j (aI o)) af t i:=by
 have hs:o7 (ga aB len n j) s.heap (s.heap.update (ga aB len n j) aI):=hQ ..;refine ⟨D.fix,hs.1.trans D.size,λk o' ev=>?_,n4 D.it λa o' cR vS=>(hs.2 a (pX cR (D.fix.s4 j).1)).trans vS,D.toks,⟨λb o' ev q=>(hs.2 b λh=>?_).trans (D.eD.eO b o' ev q),hs.1▸D.eD.size,D.eD.os,D.eD.gens⟩,λp L=>(hs.2 _ (D.fix.vC (ep L) j)).trans (D.s6 p L)⟩
 ·rw [AK _ T _ (zm e)] at ev
  by_cases h:k=j
  ·subst h
   rw [d1 rfl] at ev
   (injection ev with d8;subst d8)
   have aq:=D.hM k o e;exact ⟨aq.1,hc aI aq.2 (rh _▸a7)⟩
  ·rw [dt h] at ev
   have as:=D.hM k o' ev;exact ⟨as.1,(hs.2 _ λq=>h (D.fix.inj q)).trans as.2⟩
 ·subst h
  exact (D.fix.s4 j).2.elim q λh=>absurd h (sV.mpr (hC ev))
theorem iM.fresh:iM w f2 gb {s with toks:=s.toks+1} aB len n m T af t (i+1):=
 ⟨D.fix,D.size,D.hM,D.it,fV (· +1) D.toks,⟨D.eD.eO,D.eD.size,D.eD.os,D.eD.gens⟩,D.s6⟩
theorem K2 {a:aM}{aC:B (y×y)}{b8:B y}{k:B y->B (y×y)->ao->Prop}(h:El w.params aB len n T a aC b8 k) :
  ∃ K9 IZ o,k K9 IZ o/\(ks IZ->ks aC/\s.heap.get? a=some o):=by
 induction b8 with
 | nil=>exact h.elim
 | cons j b8=>
  induction j with
  | zero=>obtain ⟨o,e,h⟩:=yW (k:=k b8 aC) h;exact ⟨_,_,o,h,λhe=>⟨he,nS D.it e⟩⟩
  | succ j=>obtain ⟨o,e,h⟩:=yW (k:=k b8 ((a,ga aB len n j)::aC)) h;exact ⟨_,_,o,h,λhe=>⟨he.tail,he.head▸(D.hM _ _ e).2⟩⟩
end
theorem I1 {dd jt:Type}{f2:aR}{gb:B aM}{aB:B y}{len n t:y}{ac:B y->y->BT->y->B (y×y)->e5 dd->Prop}{A:c9}{c:cn}{aI:dd->e5 jt}{Q:jt->aR->Prop}{E:ag->aR->Prop}{af:B bN}
  (cq:∀ b8 m T i aC d3 s,ac b8 m T i aC d3->iM w f2 gb s aB len n m T af t i->ks aC/\wpOwn (model aL w) A c (d3.bind aI) Q E s)(f:y) :
  ∀ (b8:B y) (m:y) (T:BT) (i:y) (aC:B (y×y)) (d3:e5 dd) (s:aR),jh w aB len n t ac f b8 m T i aC d3->iM w f2 gb s aB len n m T af t i->ks aC/\wpOwn (model aL w) A c (d3.bind aI) Q E s:=by
 induction f with
 | zero=>exact λ_ _ _ _ _ _ _ h=>h.elim
 | succ f bO=>
  intro b8 m T i aC d3 s h D
  induction d3 with
  | rule _ k=>exact (bO _ _ _ _ _ _ _ h D).imp_right (y_skim _ _ _ _ _ _ _ _ _ 1)
  | «at» _ k=>exact (bO _ _ _ _ _ _ _ h D).imp_right (y_skim _ _ _ _ _ _ _ _ _ 1)
  | point _ k=>exact (bO _ _ _ _ _ _ _ h D).imp_right (y_skim _ _ _ _ _ _ _ _ _ 1)
  | ask k=>exact (bO _ _ _ _ _ _ _ h D).imp_right (y_skim _ _ _ _ _ _ _ _ _ 1)
  | fresh k=>have aq:=bO _ _ _ _ _ _ _ (CD (n:=i+1) (ac:=λDU=>jh w aB len n t ac f b8 m T DU aC (k (t+i))) h) D.fresh;rw [<- D.toks] at aq;exact aq.imp_right (y_fresh _ _ _ _ _ _ _ _ _ _ _ _ _)
  | load a q k=>obtain ⟨_,_,o,h,a4⟩:=K2 D (a:=a) (aC:=aC) (b8:=b8) (k:=λb8 aC o=>jh w aB len n t ac f b8 m T i aC (k o)) h;have aq:=bO _ _ _ _ _ _ _ h D;exact ⟨(a4 aq.1).1,y_load _ _ _ _ _ _ _ _ _ _ _ _ _ _ _ _ (a4 aq.1).2 aq.2⟩
  | loadIfAlive a k=>obtain ⟨_,_,o,h,a4⟩:=K2 D (a:=a) (aC:=aC) (b8:=b8) (k:=λb8 aC o=>jh w aB len n t ac f b8 m T i aC (k (some o))) h;have aq:=bO _ _ _ _ _ _ _ h D;exact ⟨(a4 aq.1).1,y_alive _ _ _ _ _ _ _ _ _ _ _ _ _ _ _ (a4 aq.1).2 aq.2⟩
  | alloc o k=>obtain ⟨a7,h⟩:=mZ h;obtain ⟨hs,h⟩:=Oa h;have aq:=bO _ _ _ _ _ _ _ (CD h) (D.alloc a7 hs);rw [<- D.size] at aq;exact ⟨aq.1,xR (m:=PySem.alloc o) (f:=λa=>(k a).bind aI) (u9 (wpAny_alloc aq.2))⟩
  | update a q u k=>obtain ⟨j,l,h⟩:=WM h;obtain ⟨o,e,h⟩:=yW h;obtain ⟨a7,h⟩:=mZ h;have aq:=bO _ _ _ _ _ _ _ (Oa h).2 (D.update e a7);have cO:=aq.1.head;subst cO;exact ⟨aq.1.tail,xR (m:=updatePart _ q u) (f:=λa=>(k a).bind aI) (u9 (wpAny_updatePart (D.hM _ _ e).2 aq.2))⟩
  | _=>exact cq _ _ _ _ _ _ _ h D
end
section
variable {w:aG}
theorem zN {h:gg}(O:KT.Holds h 1 0 (fr w.params)) :h.NoLimit:=by
 have e:h.get? 2=some (cy w.params):=nS O (by kernel_rfl);refine ⟨h.nsMap cStatics,.of_isNs ?_,?_⟩
 ·unfold Heap.isNs
  refine H (show h.get? cStatics=some (cy w.params) from e) ?_;kernel_rfl
 ·unfold Heap.nsMap
  refine H (show h.get? cStatics=some (cy w.params) from e) ?_;kernel_rfl
theorem abc {dd:Type}(v:ag)(d:a6)(ac:a6->e5 dd) :(match v with | .str q _=>(s0 q).bind ac | _=>(s0 d).bind ac)=vv (match v with | .str q _=>s0 q | _=>s0 d) ac:=by rcases v with _ | _ <;> rfl
theorem R4 {a:aM}{g4:AW}{args:mH}(b3:g4.scope.isGenerator=false)(aX:g4.scope.isCoroutine=false) :
  H3 a g4 args=(CQ a g4 args).bind λenv=>IV.bind λ_=>.pure (.again (yR g4 env)):=by
 unfold H3 CQ;refine df (Ra ..) (df (abq ..) (df (We ..) (H b3 (H aX ?_))));simp only [Sem.bind_assoc];generalize g4.code=yx;rcases yx with _ | _
 case none=>rfl
 all_goals
  refine xX ?_ (Sem.bind_assoc _ _ _).symm;exact fV (vv (field _ 1)) (funext λv=>abc v _ _)
theorem ack {cL:B y} :∀ {d7:B ao} {T:BT} {ac:BT->Prop},d7.length=cL.length->(∀ j∈cL,(T.get j).isSome=true)->xx T cL d7 ac->
  ∃ d0,ac d0/\∀ j o,d0.get j=some o->(T.get j=some o/\j ∉ cL)∨(j,o)∈cL.zip d7:=by
 induction cL with
 | nil=>exact λ{d7 T ac} _ _ h=>⟨T,by rcases d7 with _ | _ <;> exact h,λj o e=>.inl ⟨e,c4⟩⟩
 | cons j cL bO=>
  intro d7 T ac al bY h
  induction d7 with
  | nil=>exact absurd al (Bm _).symm
  | cons o d7=>
   have h:lW T j o λd0=>xx d0 cL d7 ac:=h;rw [qZ] at h;obtain ⟨v,bc⟩:=Bq.mp (bY j (cY ..));have JI:=AK o T j (zm bc);obtain ⟨d0,cq,a7⟩:=bO (Nat.succ.inj al) (λk aV=>by
    refine H (JI ..) ?_;by_cases q:k=j
    ·refine H (d1 q ..) ?_;rfl
    ·refine H (dt q ..) ?_;exact bY k (dG _ aV)) h
   refine ⟨d0,cq,λk v e=>(a7 k v e).elim (λaq=>?_) λaq=>.inr (dG _ aq)⟩;rw [JI] at aq;by_cases q:k=j
   ·rw [d1 q] at aq
    exact .inr (q▸x9 aq.1▸cY ..)
   ·rw [dt q] at aq
    exact .inl ⟨aq.1,λaU=>(dx.mp aU).elim q aq.2⟩
theorem KN {l:B (aM×ao)} :∀ {T:BT} {len:y} {ac:BT->y->Prop},pF T len l ac->∃ d0,ac d0 (len+l.length)/\
  ∀ j o,d0.get j=some o->T.get j=some o∨∃ k p,j=len+k/\l[k]? =some p/\p.2=o:=by
 induction l with
 | nil=>exact λ{T len ac} h=>⟨T,h,λj o e=>.inl e⟩
 | cons p l bO=>
  intro T len ac h;have h:lW T len p.2 λd0=>lK (d0.get len).isSome (qr (len+1) λwz=>pF d0 wz l ac):=h;rw [qZ] at h;obtain ⟨hs,h⟩:=mZ h;obtain ⟨d0,cq,a7⟩:=bO (CD h);rw [sX] at cq;refine ⟨d0,cq,λj o e=>(a7 j o e).elim (λaq=>?_) λ⟨k,q,a5,bt⟩=>.inr ⟨k+1,q,a5.trans (sX ..),bt⟩⟩;rw [AK _ T _ hs] at aq;by_cases q:j=len
  ·rw [d1 q] at aq
   exact .inr ⟨0,p,q,rfl,x9 aq⟩
  ·rw [dt q] at aq
   exact .inl aq
theorem sa {j:y}{l:B y} :lT j l=true↔j∈l:=by
 induction l with
 | nil=>exact ⟨λh=>((by injection h)),λh=>((c4 h).elim)⟩
 | cons k l bO=>
  show (p8 (lT j l) true (pc j k) :bW)=true↔_;rw [dx]
  induction e:pc j k with
  | true=>exact ⟨λ_=>.inl (Nat.eq_of_beq_eq_true e),λ_=>rfl⟩
  | false=>exact ⟨λh=>.inr (bO.mp h),λh=>bO.mpr (h.resolve_left (Nat.ne_of_beq_eq_false e))⟩
theorem zO {l:B y} :t4 l=true->l.Nodup:=by
 induction l with
 | nil=>exact λ_=>mO
 | cons j l bO=>
  show (p8 (t4 l) false (lT j l) :bW)=true->_
  induction e:lT j l with
  | true=>exact λh=>((by injection h))
  | false=>exact λh=>gy.mpr ⟨λaU=>AM ((sa.mpr aU).symm.trans e),bO h⟩
theorem abi (aB:B y)(n m:y)(bV:B (aM×ao)) :(ll aB n m bV).length=aB.length+m+bV.length:=by unfold ll;simp;lia
theorem Hz {aB:B y}{len n m:y}(al:aB.length=len){bV:B (aM×ao)}{kG j:y}(dB:j<len+m) :
  ga (ll aB n m bV) (len+m+bV.length) kG j=ga aB len n j:=by
 rw [vB (by lia)];unfold ll;by_cases h:j<len
 ·exact H (vB h ..) (H (jw ..) (H (jw ..) (H (GW (by lia) ..) rfl)))
 ·refine H (rr h ..) (H (jw ..) (H (GX (by lia) ..) (H (GW (by simp;lia) ..) ?_)))
  refine H (mL ..) (H (Qf (by lia) ..) (H al ?_));rfl
theorem Q0 {aB:B y}{len n m:y}(al:aB.length=len){bV:B (aM×ao)}{kG k:y}{p:aM×ao}(e:bV[k]? =some p) :
  ga (ll aB n m bV) (len+m+bV.length) kG (len+m+k)=p.1:=by
 obtain ⟨aV,he⟩:=vm.mp e;refine H (vB (by lia) ..) ?_;unfold ll;refine H (jw ..) (H (GX (by lia) ..) (H (GX (by simp;lia) ..) ?_));refine H (mL ..) ?_;simp only [de,List.length_range];refine H (show len+m+k - aB.length - m=k by lia) (H e ?_);rfl
section
variable {f2:aR}{gb:B aM}{gk:aK (B cE)}{bj:y}{bG:aK ag}{F:gP->B (aM×ao)->Prop}{A:c9}{R:cD->aR->Prop}
structure nu (f2:aR)(gb:B aM)(an:aR)(du:B (aM×ao)) :Prop where
 has:dX an.heap du
 e8:(du.map (·.1)).Nodup
 fresh:∀ p∈du,p.1∈gb∨f2.heap.objs.size<=p.1
def qc (w:aG)(A:c9)(R:cD->aR->Prop)(s:aR) :gP->Prop
 | .ret r=>R r s
 | .dr c=>codeAny (model aL w) A c R s
abbrev AY (w:aG)(f2:aR)(gb:B aM)(A:c9)(R:cD->aR->Prop)(bO:qb w) :Prop:=∀ bI b8 fq aB len n m T af t i aC co c d3 s,bO bI b8 fq aB len n m T af t i aC co c d3->iM w f2 gb s aB len n m T af t i->ks aC/\Bi w A R co c d3 s
variable (dP:∀ dw du an,F dw du->nu f2 gb an du->fy f2 an gb->qc w A R an dw)
variable {bI:bb w}{b8 fq aB:B y}{len n m:y}{T:BT}{af:B bN}{t i:y}{aC:B (y×y)}{s:aR}(D:iM w f2 gb s aB len n m T af t i)
include dP D
theorem Jg {dw:gP}(h:CN F bI b8 aB len n m T af aC dw) :ks aC/\qc w A R s dw:=by
 induction bI with
 | ax=>exact h.elim
 | fF=>exact h.elim
 | bd K9 agf f0 agF du=>
  obtain ⟨aQ,az,aJ⟩:=mZ h;obtain ⟨bY,bK⟩:=l1.mp aQ;refine ⟨az.1,dP _ _ s aJ ?_ D.eD⟩;refine H (ab2 ..) ?_;refine ⟨λp L=>(dU.mp L).elim (λL=>?_) (D.s6 p),?_,λp L=>(dU.mp L).elim (λL=>?_) λL=>(D.fix.all _ (eJ _ (ep L))).2.2⟩
  ·obtain ⟨q,a4,rfl⟩:=fC.mp L
   obtain ⟨o,b1⟩:=Bq.mp (x1.mp bY q a4);refine H b1 ?_;exact (D.hM _ _ b1).2
  ·refine H (c0 ..) (H (mM ..) ?_)
   refine fA.mpr ⟨Be.mpr ((Be.mp (zO bK)).imp λe6 e=>e6 (D.fix.inj e)),(fA.mp D.fix.aw).2.1,λa az b aJ e=>?_⟩;obtain ⟨q,a4,rfl⟩:=fC.mp az;exact D.fix.vC aJ q.1 e.symm
  ·obtain ⟨q,a4,rfl⟩:=fC.mp L
   exact (D.fix.s4 _).2
theorem FB {bO:qb w}(O:AY w f2 gb A R bO){co:gN}{r:cD}(h:Ak F bO bI b8 fq aB len n m T af t i aC co r) :ks aC/\oz w A R co r s:=by
 induction co with
 | nil=>exact Jg dP D h
 | ret c ap k co=>exact O _ _ _ _ _ _ _ _ _ _ _ _ _ _ _ _ h D
end
end
section
variable {w:aG}
section
variable {f2:aR}{gb:B aM}{gk:aK (B cE)}{bj:y}{bG:aK ag}{F:gP->B (aM×ao)->Prop}{A:c9}{R:cD->aR->Prop}
theorem Oq {co:gN}(h:co.q3=true) :(ii A co).depth<=A.depth+30/\(ii A co).units<=A.units+150:=by unfold gN.q3 at h;simp only [Gx] at h;obtain ⟨⟨az,aJ⟩,bg⟩:=h;have a:=HF A co az;have b:=HH A co;have c:=ro aJ;have d:=ro bg;lia
theorem wF {co:gN}{c:cn}{s:aR}(h:Bi w A R co c (iy c) s) :codeAny (model aL w) (ii A co) c (oz w A R co) s:=by refine y_code _ _ _ _ _ _ ?_;refine H (SI ..) ?_;exact h
theorem R6 (a:aM)(args:mH) :∃ k:ao->e5 Fin,denote pU (.call (.ref a) args)= .load a none k/\∀ cl d g4 bq,k ⟨cl,d,.func g4,bq⟩=H3 a g4 args:=
 ⟨_,rfl,λ_ _ _ _=>rfl⟩
theorem acW:∀ af:B bN,mA af []=af
 | []=>rfl
 | _::_=>rfl
theorem Aq (af:B bN) :∀ m:B bW,((q5 af m).flatten++(mA af m).flatten).Perm af.flatten:=by
 induction af with
 | nil=>exact λm=>.refl _
 | cons b af bO=>
  intro m
  induction m with
  | nil=>exact .refl _
  | cons q m=>
   induction q with
   | true=>exact (f9 ..).symm▸(bO m).append_left b
   | false=>exact (Bf ..).trans ((bO m).append_left b)
theorem ab4 (a b c d e:B y) :(a++(b++c)++(d++e)).Perm (a++d++(b++(c++e))):=by simpa only [f9] using (Bf (b++c) d e).append_left a
theorem oj.split {aB len n}{fm fe fI:B y}(D:oj f2 gb aB len n fm)(p:(fe++fI).Perm fm) :(fe++(aB++fI)).Perm (aB++fm):=
 (Bf ..).trans (p.append_left aB)
theorem xC {n m a:y}(h:a∈(lA m).map λj=>n+j) :n<=a/\a<n+m:=by obtain ⟨j,dB,rfl⟩:=fC.mp h;exact ⟨jx ..,Ql (G4.mp dB) n⟩
section
variable {s an:aR}{aB:B y}{len n m:y}{T:BT}{af:B bN}{t i:y}(D:iM w f2 gb s aB len n m T af t i){cL:B y}{d7:B ao}{ns:B (aM×ao)}{hg:B bW}{g2:B bN}{pre:B (aM×ao)}{ik:B bN}(aQ:q5 af hg=ik)(bY:cL.map (ga aB len n)=pre.map (·.1))
include D aQ bY
theorem iM.ny {x:y->y}(tI:∀ j∈cL,(T.get j).isSome=true)(f:jI s an (pre.map (·.1)) (ik.flatten.map (·.1)) d7 ns g2)(DR:an.heap.objs.size=x 0)(YK:an.toks=x 1){ac:BT->y->Prop}
  (h:xx T cL d7 λd0=>pF d0 (len+m) ns ac) :∃ d0,ac d0 (len+m+ns.length)/\iM w f2 gb an (ll aB n m ns) (len+m+ns.length) (x 0) 0 d0 (mA af hg++g2) (x 1) 0:=by
 subst aQ;obtain ⟨cw,az,XO⟩:=ack (by rw [f.len,<- bY,de]) tI h;obtain ⟨e1,cq,y8⟩:=KN az;refine ⟨e1,cq,?_⟩;have iG:=(Aq af hg).map (·.1);have Op:∀ p∈(mA af hg).flatten,p∈af.flatten:=λp L=>(Aq af hg).mem_iff.mp (eJ _ L);rw [c0] at iG;have P:=D.fix.split iG;obtain ⟨_,abm,Iw⟩:=fA.mp (P.nodup_iff.mpr D.fix.aw);have ln:=λa h=>D.fix.all a (P.mem_iff.mp h);have i9:n+m<=x 0:=DR▸D.size▸f.eD.size;have bK:n<=x 0:=gh (jx ..) i9;have Da:∀ p∈ns++g2.flatten,an.heap.get? p.1=some p.2:=λp L=>f.has p (eJ _ L);have bV:∀ a∈(ns++g2.flatten).map (·.1),a<x 0/\(a∈(q5 af hg).flatten.map (·.1)∨n+m<=a):=λa h=>by obtain ⟨p,L,rfl⟩:=fC.mp h;exact ⟨DR▸hC (Da p L),D.size▸f.fresh p L⟩
 have Lj:=f.e8;rw [c0] at Lj;have Hc:(ll aB n m ns++(mA af hg++g2).flatten.map (·.1)).Perm (aB++(mA af hg).flatten.map (·.1)++((lA m).map (λj=>n+j)++(ns++g2.flatten).map (·.1))):=by rw [kY,c0,c0];exact ab4 ..
 have D8:∀ b o,s.heap.get? b=some o->b ∉ pre.map (·.1)->b ∉ (q5 af hg).flatten.map (·.1)->an.heap.get? b=some o:=λb o e az aJ=>f.eD.eO b o e λaU=>(dU.mp aU).elim az aJ;have Lz:∀ a,(∀ j,a≠ga aB len n j)->a ∉ pre.map (·.1):=λa q aU=>by rw [<- bY] at aU;obtain ⟨j,_,e⟩:=fC.mp aU;exact q j e.symm
 have nA:∀ {a},n<=a->(935<=a∨a=894)/\(a∈gb∨f2.heap.objs.size<=a):=λh=>⟨.inl (gh D.fix.nA h),.inr (gh D.fix.FN h)⟩;refine ⟨⟨by exact H (abi ..) (H (D.fix.wC ..) rfl),Hc.nodup_iff.mpr (fA.mpr ⟨abm,fA.mpr ⟨?_,(fA.mp Lj).2.1,?_⟩,?_⟩),λa h=>?_,gh D.fix.nA bK,gh D.fix.FN bK⟩,DR,λj o e=>?_,?_,YK,?_,λp L=>?_⟩
 ·exact Be.mpr (G6.imp λwa e=>wa (Nat.add_left_cancel e))
 ·rintro a az b aJ rfl
  rcases (bV a aJ).2 with h | h
  ·exact absurd (xC az).1 (sV.mpr (ln a (eS _ h)).1)
  ·exact absurd (xC az).2 (j9.mpr h)
 ·rintro a az b aJ rfl
  have l:=(ln a (eJ _ az)).1;rcases dU.mp aJ with aJ | aJ
  ·exact absurd (xC aJ).1 (sV.mpr l)
  ·rcases (bV a aJ).2 with h | h
   ·exact Iw a h a az rfl
   ·exact absurd (gh (jx ..) h) (sV.mpr l)
 ·rcases dU.mp (Hc.mem_iff.mp h) with h | h
  ·exact (ln a (eJ _ h)).imp_left λq=>on q bK
  ·rcases dU.mp h with h | h
   ·exact ⟨on (xC h).2 i9,nA (xC h).1⟩
   ·have aq:=bV a h
    exact ⟨aq.1,aq.2.elim (λq=>(ln a (eS _ q)).2) λq=>nA (gh (jx ..) q)⟩
 ·rcases y8 j o e with e | ⟨k,p,rfl,cd,rfl⟩
  ·rcases XO j o e with ⟨e,bK⟩ | e
   ·have aq:=D.hM j o e
    refine H (Hz D.fix.wC aq.1 ..) ?_;refine ⟨on aq.1 (jx ..),D8 _ _ aq.2 (λaU=>?_) λaU=>D.fix.vC (iG.subset (eS _ aU)) j rfl⟩;rw [<- bY] at aU;obtain ⟨k,aV,bt⟩:=fC.mp aU;exact bK (D.fix.inj bt▸aV)
   ·obtain ⟨v,bc⟩:=Bq.mp (tI j (List.of_mem_zip e).1)
    have aq:=D.hM j v bc;refine H (Hz D.fix.wC aq.1 ..) ?_;refine ⟨on aq.1 (jx ..),f.has (ga aB len n j,o) (eS _ ?_)⟩;refine df bY (H (List.zip_map_left ..) ?_);exact ep (f:=Prod.map (ga aB len n) id) e
  ·refine H (Q0 D.fix.wC cd ..) ?_
   exact ⟨Ql (vm.mp cd).1 _,Da p (eS _ (x4 cd))⟩
 ·exact n4 D.it λa o cR vS=>D8 a o vS (Lz a λj=>pX cR (D.fix.s4 j).1) λaU=>pX cR (ln a (eS _ aU)).2.1 rfl
 ·refine D.eD.trans f.eD λb aU=>?_
  rcases dU.mp aU with aU | aU
  ·rw [<- bY] at aU
   obtain ⟨j,_,rfl⟩:=fC.mp aU;exact (D.fix.s4 j).2
  ·exact (ln b (eS _ aU)).2.2
 ·rw [kY] at L
  rcases dU.mp L with L | L
  ·exact D8 _ _ (D.s6 p (Op p L)) (Lz _ λj=>D.fix.vC (ep (Op p L)) j) λaU=>Iw _ aU _ (eJ _ (ep L)) rfl
  ·exact Da p (eJ _ L)
omit D aQ bY in
theorem aba {f:y->y}{aI:y->aK ao} :∀ {cL:B y},cL.map f=pre.map (·.1)->cL.map aI=pre.map (λp=>some p.2)->(∀ j∈cL,(aI j).isSome=true)/\∀ p∈pre,∃ j,f j=p.1/\aI j=some p.2:=by
 induction pre with
 | nil=>
  intro cL az _
  induction cL with
  | nil=>exact ⟨λ_ h=>((c4 h).elim),λ_ h=>((c4 h).elim)⟩
  | cons=>injection az
 | cons q pre bO=>
  intro cL az aJ
  induction cL with
  | nil=>injection az
  | cons j cL=>obtain ⟨a1,a2⟩:=A5 az;obtain ⟨fe,fI⟩:=A5 aJ;obtain ⟨fD,eF⟩:=bO a2 fI;exact ⟨λk aV=>(dx.mp aV).elim (λe=>by refine H e (H fe ?_);rfl) (fD k),λp L=>(dx.mp L).elim (λe=>e▸⟨j,a1,fe⟩) (eF p)⟩
theorem iM.Q3 (rY:t4 cL=true)(C1:cL.map T.get=pre.map λp=>some p.2) :
  (∀ j∈cL,(T.get j).isSome=true)/\dX s.heap (pre++ik.flatten)/\ie ((pre++ik.flatten).map (·.1)):=by
 subst aQ;obtain ⟨tI,L⟩:=aba bY C1;have kn:∀ p∈(q5 af hg).flatten,p∈af.flatten:=λp L=>(Aq af hg).mem_iff.mp (eS _ L);have iG:=(Aq af hg).map (·.1);rw [c0] at iG;refine ⟨tI,λp h=>(dU.mp h).elim (λh=>?_) λh=>D.s6 p (kn p h),?_,λa h=>?_⟩
 ·obtain ⟨j,a5,bt⟩:=L p h
  exact a5▸(D.hM j _ bt).2
 ·refine H (c0 ..) (df bY ?_)
  refine fA.mpr ⟨Be.mpr ((zO rY).imp λe6 e=>e6 (D.fix.inj e)),(fA.mp ((D.fix.split iG).nodup_iff.mpr D.fix.aw)).1,λa az b aJ e=>?_⟩;obtain ⟨j,_,rfl⟩:=fC.mp az;exact D.fix.vC (iG.subset (eS _ aJ)) j e.symm
 ·rw [c0,<- bY] at h
  rcases dU.mp h with h | h
  ·obtain ⟨j,_,rfl⟩:=fC.mp h
   exact (D.fix.s4 j).1
  ·exact (D.fix.all a (eJ _ (iG.subset (eS _ h)))).2.1
end
theorem Jn {f aI:aK (B cE)}(h:∀ l,f=some l->aI=some l) :∀ (co:gN) (l:B cE),co.dg f=some l->co.dg aI=some l
 | .nil,l,e=>h l e
 | .ret c ap k co,l,e=>by obtain ⟨eH,g3,rfl⟩:=pushEnvs_some e;show uH c.envs (co.dg aI)=_;refine H (Jn h co eH g3 ..) (H (pushEnvs_eq ..) ?_);rfl
theorem acL (f:ag)(args:mH) :(Code.call f args).quiet=true:=by simp [Code.quiet,Thread.loud,Thread.atCollectorCode,Thread.yieldsInsideHandler]
variable (dP:∀ dw du an,F dw du->nu f2 gb an du->fy f2 an gb->qc w A R an dw)(dC:A.depth+40 * bj<=900)(lM:A.units+200 * bj<=9000)(g7:A.handled=bG)(nI:∀ l,gk=some l->A.frames=some l)
variable {bO:qb w}(O:AY w f2 gb A R bO){dr:bW}{bI:bb w}{b8 fq aB:B y}{len n m:y}{T:BT}{af:B bN}{t i:y}{aC:B (y×y)}{co:gN}{c:cn}{s:aR}(D:iM w f2 gb s aB len n m T af t i)
abbrev x0 (w:aG)(A:c9)(R:cD->aR->Prop)(dr:bW)(aC:B (y×y))(co:gN)(c:cn)(s:aR) :Prop:=ks aC/\(dr=true->c.quiet=true)/\codeAny (model aL w) (ii A co) c (oz w A R co) s
section
include dP dC lM g7 nI O D
theorem Ih {f0:y}{dL:hy w}{cL:B y}{hg:B bW}{aW:(y->y)->bb w}(h:B5 gk bj bG F bO dr b8 aB len n m T af aC co c f0 dL cL hg aW) :x0 w A R dr aC co c s:=by
 obtain ⟨aQ,⟨nK,Km,he,_,_,eB,C1,WR,W2⟩,bu⟩:=mZ h;obtain ⟨aQ,a4⟩:=l1.mp aQ;obtain ⟨aQ,rY⟩:=l1.mp aQ;obtain ⟨a9,gI⟩:=l1.mp aQ;have mz:=Oq (A:=A) a9;have gI:=ro gI;obtain ⟨tI,hJ,Xq⟩:=D.Q3 Km eB rY C1;subst WR;refine ⟨he,λcO=>su (by subst cO;exact a4),gR (dL.ok (ii A co) s ⟨by have:=mz.1;lia,by have:=mz.2;lia,by refine H (BO ..) (H g7 ?_);exact W2,D.it,D.size▸gh D.fix.nA (jx ..),λl e=>?_⟩ hJ Xq) ?_⟩
 ·refine H (HG ..) ?_
  rw [e] at nK;exact Jn nI co l nK
 ·rintro r an ⟨x,rfl,aX,Xg,Xh,a7⟩
  obtain ⟨d0,cq,nn⟩:=D.ny Km eB tI a7 Xg Xh (bu x aX);exact (FB dP nn O cq).2
theorem Ii (h:B6 gk bj bG F bO dr bI b8 aB len n m T af aC co c) :x0 w A R dr aC co c s:=by
 induction bI with
 | bd=>exact h.elim
 | ax=>exact Ih dP dC lM g7 nI O D h
 | fF=>exact Ih dP dC lM g7 nI O D h
end
section
include dC D
theorem CR {ac:B y->y->BT->y->B (y×y)->cn->Prop}(cq:∀ b8 m T i aC ff s,ac b8 m T i aC ff->iM w f2 gb s aB len n m T af t i->ks aC/\codeAny (model aL w) (ii A co) ff (oz w A R co) s)(h:yS w aB len n t co c b8 m T i aC ac) :x0 w A R dr aC co c s:=by
 induction c with
 | call f args=>
  induction f with
  | ref a=>
   obtain ⟨⟨cl,d,Ck,bq⟩,vR,h⟩:=yW h
   induction Ck with
   | func g4=>
    obtain ⟨aQ,h⟩:=mZ h;obtain ⟨aQ,a9⟩:=l1.mp aQ;obtain ⟨b3,aX⟩:=PJ.mp ((rh _).mp aQ);obtain ⟨k,a5,bt⟩:=R6 a args;have aq:=I1 (c:=.call (.ref a) args) (A:=ii A co) (Q:=postC aL w (ii A co) (oz w A R co)) (E:=postE (oz w A R co)) (aI:=λenv=>IV.bind λ_=>.pure (.again (yR g4 env))) (λb8 m T i aC d3 an aV nn=>by
     induction d3 with
     | pure env=>obtain ⟨a4,aV⟩:=mZ aV;obtain ⟨he,aV⟩:=cq _ _ _ _ _ _ _ aV nn;refine ⟨he,xR (m:=IV) (u9 (wpAny_enterFrame (zN nn.it) ?_ (y_pure _ _ _ _ _ _ _ _ _ (y_again _ _ _ _ _ _ (su a4) aV))))⟩;have ap:=(Oq (A:=A) a9).1;have:=AD (c:=Code.call (.ref a) args) rfl;show (ii A co).depth+(Code.call (.ref a) args).weight<1000;lia
     | _=>exact aV.elim) _ _ _ _ _ _ _ _ h D
    refine ⟨aq.1,λ_=>acL _ _,y_code _ _ _ _ _ _ ?_⟩;refine H a5 ?_;refine y_load _ _ _ _ _ _ _ _ _ _ _ _ _ _ _ _ (nS D.it vR) ?_;refine H (bt ..) (H (R4 b3 aX ..) ?_);exact aq.2
   | _=>exact h.elim
  | _=>exact h.elim
 | _=>exact h.elim
end
include dP dC lM g7 nI O D in
theorem DY (h:zj gk bj bG F bO dr bI b8 fq aB len n m T af t i aC co c) :x0 w A R dr aC co c s:=by
 match fq,h with
 | [],h=>exact h.elim
 | 0::fq,h=>obtain ⟨a4,h⟩:=mZ h;exact (O _ _ _ _ _ _ _ _ _ _ _ _ _ _ _ _ h D).imp_right λaq=>⟨λ_=>su a4,wF aq⟩
 | 1::fq,h=>exact CR dC D (λb8 m T i aC ff s aV D=>(O _ _ _ _ _ _ _ _ _ _ _ _ _ _ _ _ aV D).imp_right wF) h
 | 2::_,h=>exact Ii dP dC lM g7 nI O D h
 | 4::_,h=>exact CR dC D (λb8 m T i aC ff s aV D=>(Ii dP dC lM g7 nI O D aV).imp_right And.right) h
 | 3::_,h | (_ +5)::_,h=>
  obtain ⟨a4,h⟩:=mZ h
  induction co with
  | nil=>exact (Jg dP D h).imp_right λaq=>⟨λ_=>su (l1.mp a4).2,aq⟩
  | ret=>exact h.elim
include dP dC lM g7 nI in
theorem JK (f:y) :AY w f2 gb A R (go (w:=w) gk bj bG F f):=by
 induction f with
 | zero=>exact λ_ _ _ _ _ _ _ _ _ _ _ _ _ _ _ _ h _=>h.elim
 | succ f O=>
  intro bI b8 fq aB len n m T af t i aC co c d3 s h D;unfold Bi;refine df (Sem.bind_pure d3 ..) ?_;refine I1 (λb8 m T i aC d3 s h D=>?_) _ _ _ _ _ _ _ _ h D;refine H (Sem.bind_pure ..) ?_
  induction d3 with
  | pure bd=>
   induction bd with
   | done dg=>exact (FB dP D O h).imp_right λaq=>y_pure _ _ _ _ _ _ _ _ _ (y_done _ _ _ _ _ _ aq)
   | again ff=>exact (DY dP dC lM g7 nI O D h).imp_right λaq=>y_pure _ _ _ _ _ _ _ _ _ (y_again _ _ _ _ _ _ (aq.1 rfl) aq.2)
  | raise e=>exact (FB dP D O h).imp_right λaq=>y_raise _ _ _ _ _ _ _ _ _ (y_err _ _ _ aq)
  | handled hM k=>
   obtain ⟨b1,h⟩:=mZ h
   induction hM with
   | false=>refine (O _ _ _ _ _ _ _ _ _ _ _ _ _ _ _ _ h D).imp_right λaq=>y_handled _ _ _ _ _ _ _ _ _ ?_;refine H (BO ..) (H g7 ?_);exact aq
   | true=>injection b1
  | call ff ap aI l k=>obtain ⟨aV,h⟩:=mZ h;exact (DY dP dC lM g7 nI O D h).imp_right λaq=>y_call _ _ _ _ _ _ _ _ _ _ _ _ _ (λe=>by subst e;injection aV) aq.2
  | _=>exact h.elim
end
end
section
variable {w:aG}
noncomputable def l3 (F:gP->B (aM×ao)->Prop) :bb w->B y->y->y->B bN->Prop
 | .bd b8 _ m dw du=>λaB len n af=>F dw (wQ (du.map λp=>(ga aB len n p.1,p.2)) af)
 | .ax b8 _ m dL cL aW=>λaB len n af=>∀ x:y->y,dL.cond x->l3 F (aW x) (ll aB n m (dL.bV x)) (len+m+(dL.bV x).length) (x 0) af
 | .fF b8 _ m dL cL hg aW=>λaB len n af=>∀ x:y->y,dL.cond x->l3 F (aW x) (ll aB n m (dL.bV x)) (len+m+(dL.bV x).length) (x 0) (mA af hg++dL.gr x)
noncomputable abbrev mK (F:gP->B (aM×ao)->Prop)(bI:bb w)(aB:B y)(len n:y) :Prop:=l3 F bI aB len n []
theorem KU {F:gP->B (aM×ao)->Prop}(bI:bb w) :∀ (aB:B y) (len n:y) (af:B bN),l3 F bI aB len n af->qd F bI aB len n af:=by
 induction bI with
 | bd b8 fq m dw du=>exact λaB len n af h=>⟨⟨vW _ _ _ _ _ (λ_ h=>((c4 h).elim)),rfl,rfl⟩,h⟩
 | ax b8 fq m dL cL aW bO=>refine λaB len n af h=>⟨⟨trivial,rfl,vW _ _ _ _ _ (λ_ h=>((c4 h).elim)),rfl,rfl,rfl,rfl,rfl,rfl⟩,λx aX=>bO x _ _ _ _ ?_⟩;refine H (acW ..) (H (d9 ..) ?_);exact h x aX
 | fF b8 fq m dL cL hg aW bO=>exact λaB len n af h=>⟨⟨sP.n1 _,rfl,vW _ _ _ _ _ (λ_ h=>((c4 h).elim)),rfl,rfl,rfl,rfl,rfl,rfl⟩,λx aX=>bO x _ _ _ _ (h x aX)⟩
theorem l3.wG {F bk:gP->B (aM×ao)->Prop}(C3:∀ l o,F l o->bk l o)(c:bb w) :∀ (aB:B y) (len n:y) (af:B bN),l3 F c aB len n af->l3 bk c aB len n af:=by
 induction c with
 | bd b8 fq m dw du=>exact λaB len n af h=>C3 _ _ h
 | ax b8 fq m dL cL aW bO=>exact λaB len n af h x bu=>bO x _ _ _ _ (h x bu)
 | fF b8 fq m dL cL hg aW bO=>exact λaB len n af h x bu=>bO x _ _ _ _ (h x bu)
theorem mK.wG {F bk:gP->B (aM×ao)->Prop}(C3:∀ l o,F l o->bk l o)(c:bb w)(aB:B y)(len n:y)(h:mK F c aB len n) :mK bk c aB len n:=l3.wG C3 c aB len n [] h
theorem iM.DZ {s:aR}{l:B (aM×ao)}{af:B bN}(it:KT.Holds s.heap 1 0 (fr w.params))(size:935<=s.heap.objs.size)(has:dX s.heap (l++af.flatten))(bU:ie ((l++af.flatten).map (·.1))){ac:BT->y->Prop}(h:pF .nil 0 l ac) :
  ∃ T,ac T l.length/\iM w s ((l++af.flatten).map (·.1)) s (l.map (·.1)) l.length s.heap.objs.size 0 T af s.toks 0:=by
 obtain ⟨T,h,a7⟩:=KN h;rw [jd] at h;have aw:=bU.e8;have JH:=bU.free;rw [c0] at aw JH;refine ⟨T,h,⟨⟨de ..,aw,λa bY=>?_,size,fk _⟩,rfl,λj o e=>?_,it,rfl,.refl _ _,λp L=>has p (eJ _ L)⟩⟩
 ·have aq:=JH a bY
  rw [<- c0] at bY;obtain ⟨p,L,rfl⟩:=fC.mp bY;exact ⟨hC (has p L),aq,.inl bY⟩
 ·rcases a7 j o e with e | ⟨k,p,rfl,cd,rfl⟩
  ·injection e
  ·obtain ⟨aV,he⟩:=vm.mp cd
   refine H (jd ..) ?_;refine ⟨aV,?_⟩;refine H (vB aV ..) (H (jw ..) (H (mL ..) (H cd ?_)));exact has p (eS _ (x4 cd))
theorem Ao {dg:aK (B cE)}{bj:y}{bG:aK ag}{A:c9}{s:aR}{R:cD->aR->Prop}{F:gP->B (aM×ao)->Prop}{l:B (aM×ao)}{af:B bN}{c:cn}(iQ:y)(bI:bb w)
  (aS:eb w dg bj A bG s)(has:dX s.heap (l++af.flatten))(bU:ie ((l++af.flatten).map (·.1)))
  (e:v5 dg bj bG F iQ bI l af s.heap.objs.size s.toks c=qd F bI (l.map (·.1)) l.length s.heap.objs.size af)
  (left:l3 F bI (l.map (·.1)) l.length s.heap.objs.size af)
  (dP:∀ dw du an,F dw du->nu s ((l++af.flatten).map (·.1)) an du->fy s an ((l++af.flatten).map (·.1))->qc w A R an dw) :codeAny (model aL w) A c R s:=by
 have h:v5 dg bj bG F iQ bI l af s.heap.objs.size s.toks c:=by refine H e ?_;exact KU _ _ _ _ _ left
 unfold v5 at h;obtain ⟨T,h,D⟩:=iM.DZ aS.it aS.size has bU h;exact (DY (co:=.nil) dP aS.depth aS.units aS.handled aS.frames (JK dP aS.depth aS.units aS.handled aS.frames iQ) D h).2.2
theorem Os {dg:aK (B cE)}{bj:y}{bG:aK ag}{A:c9}{s:aR}{R:cD->aR->Prop}{F:gP->B (aM×ao)->Prop}{l:B (aM×ao)}{af:B bN}{c:cn}{d3:e5 h3}(iQ:y)(bI:bb w)
  (aS:eb w dg bj A bG s)(has:dX s.heap (l++af.flatten))(bU:ie ((l++af.flatten).map (·.1)))
  (e:yY dg bj bG F iQ bI l af s.heap.objs.size s.toks c d3=qd F bI (l.map (·.1)) l.length s.heap.objs.size af)
  (left:l3 F bI (l.map (·.1)) l.length s.heap.objs.size af)
  (dP:∀ dw du an,F dw du->nu s ((l++af.flatten).map (·.1)) an du->fy s an ((l++af.flatten).map (·.1))->qc w A R an dw) :wpOwn (model aL w) A c d3 (postC aL w A R) (postE R) s:=by
 have h:yY dg bj bG F iQ bI l af s.heap.objs.size s.toks c d3:=by refine H e ?_;exact KU _ _ _ _ _ left
 unfold yY at h;obtain ⟨T,h,D⟩:=iM.DZ aS.it aS.size has bU h;exact (JK dP aS.depth aS.units aS.handled aS.frames iQ _ _ _ _ _ _ _ _ _ _ _ _ .nil _ _ _ h D).2
theorem xD {bj:y}{bG:aK ag}{A:c9}{s:aR}{R:cD->aR->Prop}{F:gP->B (aM×ao)->Prop}{l:B (aM×ao)}{c:cn}(iQ:y)(bI:bb w)
  (aS:og w bj A bG s)(has:dX s.heap l)(bU:ie (l.map (·.1)))
  (e:tD bj bG F iQ bI l s.heap.objs.size s.toks c=sR F bI (l.map (·.1)) l.length s.heap.objs.size)
  (left:mK F bI (l.map (·.1)) l.length s.heap.objs.size)
  (dP:∀ dw du an,F dw du->nu s (l.map (·.1)) an du->fy s an (l.map (·.1))->qc w A R an dw) :codeAny (model aL w) A c R s:=by
 refine Ao (af:=[]) iQ bI aS (by simpa using has) (by simpa using bU) e left ?_;simpa using dP
theorem pI {aB:B y}{d7:B ao}(h:d7.length=aB.length) :(aB.zip d7).map (·.1)=aB:=by rw [List.map_fst_zip];omega
theorem Q2 {s an:aR}{aB:B aM}{d7:B ao}{ns:B (aM×ao)}(al:d7.length=aB.length)(o:nu s aB an (aB.zip d7++ns))(k:fy s an aB) :oe s an aB d7 ns:=by
 have aw:=o.e8;rw [c0,pI al,fA] at aw;obtain ⟨iV,ce,iF⟩:=aw;refine ⟨al,λp L=>o.has p (eS _ L),λp L=>o.has p (eJ _ L),ce,λp L=>?_,k⟩;rcases o.fresh p (eJ _ L) with h | h
 ·exact absurd rfl (iF p.1 h p.1 (ep L))
 ·exact h
noncomputable def b0 (w:aG)(bj:y)(code:cn)(ap:aK ag)(pre:B (aM×ao))(bB:(y->y)->cD)(cB:(y->y)->B ao)(bV:(y->y)->B (aM×ao))(cond:(y->y)->Prop) :Prop:=
 ∀ (A:c9) (s:aR),og w bj A ap s->dX s.heap pre->ie (pre.map (·.1))->
  codeAny (model aL w) A code (λr an=>∃ x:y->y,r=bB x/\cond x/\an.heap.objs.size=x 0/\an.toks=x 1/\oe s an (pre.map (·.1)) (cB x) (bV x)) s
noncomputable def ca (a b:y)(l:B y) :y->y
 | 0=>a
 | 1=>b
 | k+2=>l.getD k 0
noncomputable def GI (pre:B (aM×ao))(bB:(y->y)->cD)(cB:(y->y)->B ao)(bV:(y->y)->B (aM×ao))(cond:(y->y)->Prop)(dw:gP)(du:B (aM×ao)) :Prop:=
 ∀ a b,∃ x:y->y,x 0=a/\x 1=b/\dw= .ret (bB x)/\du=(pre.map (·.1)).zip (cB x)++bV x/\(cB x).length=pre.length/\cond x
theorem FF {bj:y}{ap:aK ag}{code:cn}{pre:B (aM×ao)}{bB:(y->y)->cD}{cB:(y->y)->B ao}{bV:(y->y)->B (aM×ao)}{cond:(y->y)->Prop}(iQ:y)(bI:y->y->bb w)
  (e:∀ F n t,tD bj ap F iQ (bI n t) pre n t code=sR F (bI n t) (pre.map (·.1)) pre.length n)
  (left:∀ n t,mK (GI pre bB cB bV cond) (bI n t) (pre.map (·.1)) pre.length n) :b0 w bj code ap pre bB cB bV cond:=λA s aS has bU=>by
 refine xD iQ (bI s.heap.objs.size s.toks) aS has bU (e _ _ _) (left _ _) ?_;rintro dw du an a7 b1 aV;obtain ⟨x,bG,az,rfl,rfl,al,aX⟩:=a7 an.heap.objs.size an.toks;exact ⟨x,rfl,aX,bG.symm,az.symm,Q2 (by exact H al (H (de ..) rfl)) b1 aV⟩
noncomputable def ec (w:aG)(dg:aK (B cE))(bj:y)(code:cn)(ap:aK ag)(pre:B (aM×ao))(fN:B bN)(bB:(y->y)->cD)(cB:(y->y)->B ao)(bV:(y->y)->B (aM×ao))(gr:(y->y)->B bN)(cond:(y->y)->Prop) :Prop:=
 ∀ (A:c9) (s:aR),eb w dg bj A ap s->dX s.heap (pre++fN.flatten)->ie ((pre++fN.flatten).map (·.1))->
  codeAny (model aL w) A code (λr an=>∃ x:y->y,r=bB x/\cond x/\an.heap.objs.size=x 0/\an.toks=x 1/\jI s an (pre.map (·.1)) (fN.flatten.map (·.1)) (cB x) (bV x) (gr x)) s
theorem Q1 {s an:aR}{aB fm:B aM}{d7:B ao}{ns:B (aM×ao)}{g2:B bN}(al:d7.length=aB.length)(o:nu s (aB++fm) an (aB.zip d7++(ns++g2.flatten)))(k:fy s an (aB++fm)) :jI s an aB fm d7 ns g2:=by
 refine ⟨al,o.has,o.e8,λp L=>?_,k⟩;have aw:=o.e8;rw [c0,pI al,fA] at aw;obtain ⟨iV,ce,iF⟩:=aw;rcases o.fresh p (eJ _ L) with h | h
 ·rcases dU.mp h with h | h
  ·exact absurd rfl (iF p.1 h p.1 (ep L))
  ·exact .inl h
 ·exact .inr h
noncomputable def PU (pre:B (aM×ao))(bB:(y->y)->cD)(cB:(y->y)->B ao)(bV:(y->y)->B (aM×ao))(gr:(y->y)->B bN)(cond:(y->y)->Prop)(dw:gP)(du:B (aM×ao)) :Prop:=
 ∀ a b,∃ x:y->y,x 0=a/\x 1=b/\dw= .ret (bB x)/\du=(pre.map (·.1)).zip (cB x)++(bV x++(gr x).flatten)/\(cB x).length=pre.length/\cond x
noncomputable def j8 (w:aG)(dg:aK (B cE))(bj:y)(ap:aK ag)(pre:B (aM×ao))(af:B bN)(code:cn)(bI:y->y->bb w) :Prop:=
 ∀ F n t,v5 dg bj ap F 100000 (bI n t) pre af n t code=qd F (bI n t) (pre.map (·.1)) pre.length n af
noncomputable def eu (w:aG)(dg:aK (B cE))(bj:y)(ap:aK ag)(pre:B (aM×ao))(af:B bN)(code:cn)(d3:e5 h3)(bI:y->y->bb w) :Prop:=
 ∀ F n t,yY dg bj ap F 100000 (bI n t) pre af n t code d3=qd F (bI n t) (pre.map (·.1)) pre.length n af
theorem Cw {dg:aK (B cE)}{bj:y}{ap:aK ag}{code:cn}{pre:B (aM×ao)}{fN:B bN}{bB:(y->y)->cD}{cB:(y->y)->B ao}{bV:(y->y)->B (aM×ao)}{gr:(y->y)->B bN}{cond:(y->y)->Prop}{bI:y->y->bb w}
  (e:j8 w dg bj ap pre fN code bI)(left:∀ n t,l3 (PU pre bB cB bV gr cond) (bI n t) (pre.map (·.1)) pre.length n fN) :ec w dg bj code ap pre fN bB cB bV gr cond:=λA s aS has bU=>by
 refine Ao 100000 (bI s.heap.objs.size s.toks) aS has bU (e _ _ _) (left _ _) ?_;rintro dw du an a7 b1 aV;obtain ⟨x,bG,az,rfl,rfl,al,aX⟩:=a7 an.heap.objs.size an.toks;rw [c0] at b1 aV;exact ⟨x,rfl,aX,bG.symm,az.symm,Q1 (by exact H al (H (de ..) rfl)) b1 aV⟩
end
section
variable {w:aG}
theorem HJ {A:c9}{R:cD->aR->Prop}{s:aR}{id:kv}{args:mH}{b:vf}(he:rK pU id=some b)
  (h:wpAny (model aL w) (A.under (.builtin id args)) (b args) (λbd an=>match bd with | .done f=>R (.ok f) an | .again ff=>ff.quiet=true/\codeAny (model aL w) A ff R an) (λe an=>R (.error e) an) s) :codeAny (model aL w) A (.builtin id args) R s:=by
 refine Ia ?_;show wpAny _ _ (match rK pU id with | some b=>b args | none=>unsupported ((withoutEnding? id "#data").getD id)) _ _ s;refine H he ?_;exact h
theorem h5 {A:c9}{R:cD->aR->Prop}{s:aR}{id:kv}{args:mH}{b:vf}(he:rK pU id=some b)
  (h:∀ (ei:c9) (Q:h3->aR->Prop) (E:ag->aR->Prop),ei=A.under (.builtin id args)->(∀ f an,R (.ok f) an->Q (.done f) an)->(∀ ff an,ff.quiet=true/\codeAny (model aL w) A ff R an->Q (.again ff) an)->(∀ e an,R (.error e) an->E e an)->wpAny (model aL w) ei (b args) Q E s) :codeAny (model aL w) A (.builtin id args) R s:=
 HJ he (h _ _ _ rfl (λ_ _ h=>h) (λ_ _ h=>h) λ_ _ h=>h)
noncomputable def vu (s an:aR) :Prop:=an.heap=s.heap/\an.os=s.os/\an.gens=s.gens
theorem vu.yk {s an:aR}(h:vu s an){pre:B (aM×ao)}(L:dX s.heap pre) :oe s an (pre.map (·.1)) (pre.map (·.2)) []:=by obtain ⟨az,aJ,bg⟩:=h;refine ⟨by simp,λp fu=>?_,λ_ h=>(nomatch h),mO,λ_ h=>(nomatch h),⟨λb o e _=>by rw [az];exact e,by rw [az];exact fk _,aJ,[],by rw [bg];simp,λ_ h=>(nomatch h)⟩⟩;rw [az];have:(pre.map (·.1)).zip (pre.map (·.2))=pre:=List.zip_map' .. |>.trans (by simp);rw [this] at fu;exact L p fu
theorem nj {bj:y}{ap:aK ag}{code:cn}{pre:B (aM×ao)}{v:y->ag}
  (h:∀ A s,og w bj A ap s->dX s.heap pre->codeAny (model aL w) A code (λr an=>∃ be,r= .ok (.ret (v be))/\vu s an) s) :
  b0 w bj code ap pre (λx=>.ok (.ret (v (x 2)))) (λ_=>pre.map (·.2)) (λ_=>[]) (λ_=>bZ):=λA s aS has bU=>by
 refine gR (h A s aS has) ?_;rintro r an ⟨be,rfl,hs⟩;exact ⟨ca an.heap.objs.size an.toks [be],rfl,trivial,rfl,rfl,hs.yk has⟩
theorem u3 {bj:y}{ap:aK ag}{code:cn}{a:aM}{o o':ao}{v:y->ag}
  (h:∀ A s,og w bj A ap s->s.heap.get? a=some o->codeAny (model aL w) A code (λr an=>∃ be,r= .ok (.ret (v be))/\an.heap.get? a=some o'/\o7 a s.heap an.heap/\an.os=s.os/\an.gens=s.gens) s) :
  b0 w bj code ap [(a,o)] (λx=>.ok (.ret (v (x 2)))) (λ_=>[o']) (λ_=>[]) (λ_=>bZ):=λA s aS has bU=>by
 refine gR (h A s aS (has (a,o) (cY ..))) ?_;rintro r an ⟨be,rfl,az,aJ,bg,cS⟩;refine ⟨ca an.heap.objs.size an.toks [be],rfl,trivial,rfl,rfl,⟨rfl,?_,λ_ h=>((c4 h).elim),mO,λ_ h=>((c4 h).elim),⟨λb o e aQ=>?_,by refine H aJ.1 ?_;exact fk _,bg,[],by refine H cS ?_;simp,λ_ h=>((c4 h).elim)⟩⟩⟩
 ·intro p L
  simp at L;subst L;exact az
 ·refine H (aJ.2 b (by intro ev;subst ev;simp at aQ) ..) ?_;exact e
noncomputable abbrev I (l:B ag)(K:y) :ao:={cls:=.type "list",data:=.seq ⟨l⟩ K}
theorem tR {h:gg}{a:aM}{l:B ag}{K:y}(e:h.get? a=some (I l K)) :h.IsList a ⟨l⟩:=⟨_,e,rfl,K,rfl⟩
theorem W0 {a K t:y}{i:ai}{k:y}{l:B ag}{v:ag}{ap:aK ag}(aF:i=(k:ai))(aV:k<1000000)(bc:l[k]? =some v) :
  b0 w 0 (.builtin "list.__getitem__" ⟨[.ref a,.int i t],[]⟩) ap [(a,I l K)] (λ_=>.ok (.ret v)) (λ_=>[I l K]) (λ_=>[]) (λ_=>bZ):=by
 refine nj (v:=λ_=>v) λA s aS has=>?_;have b1:=has (a,I l K) (cY ..);refine h5 IW λei Q E gG dh dC iB=>?_;have a7:Gy i=true:=fitsIndex_of (by omega) (by omega);show wpAny _ _ (xW (.int i t) >>= _) _ _ s;refine bE (PB a7 ?_)
 clear a7 aV
 subst aF;show wpAny _ _ ((seqItemAt a k >>= λr=>pure (r.map (k,·))) >>= _) _ _ s;refine bE (bE (wpAny_seqItemAt b1 rfl (wpAny_pure ?_)));have:(⟨l⟩ :cp ag)[k]? =some v:=by simpa using bc
 refine H this ?_;exact wpAny_pure (dh _ _ ⟨0,rfl,rfl,rfl,rfl⟩)
noncomputable def ka (w:aG)(a K t:y)(i:ai)(k:y)(l:B ag)(v:ag)(ap:aK ag)(aF:i=(k:ai))(aV:k<1000000)(bc:l[k]? =some v) :cV w:=
 ⟨0,.builtin "list.__getitem__" ⟨[.ref a,.int i t],[]⟩,ap,[(a,I l K)],λ_=>.ok (.ret v),λ_=>[I l K],λ_=>[],λ_=>bZ,W0 aF aV bc⟩
theorem OF {a K t:y}{i:ai}{k:y}{l:B ag}{v:ag}{ap:aK ag}(aF:i=(k:ai))(aV:k<1000000)(bc:k<l.length) :
  b0 w 0 (.builtin "list.__setitem__" ⟨[.ref a,.int i t,v],[]⟩) ap [(a,I l K)] (λ_=>.ok (.ret .none)) (λ_=>[I (l.set k v) K]) (λ_=>[]) (λ_=>bZ):=by
 refine u3 (v:=λ_=>.none) λA s aS b1=>?_;refine h5 entry_list_setitem λei Q E gG dh dC iB=>?_;have a7:Gy i=true:=fitsIndex_of (by omega) (by omega);show wpAny _ _ (xW (.int i t) >>= _) _ _ s;refine bE (PB a7 ?_)
 clear a7 aV
 subst aF;show wpAny _ _ ((seqItemAt a k >>= λr=>pure (r.map (k,·))) >>= _) _ _ s;refine bE (bE (wpAny_seqItemAt b1 rfl (wpAny_pure ?_)));have:(⟨l⟩ :cp ag)[k]? =some l[k]:=by simp [bc]
 refine H this ?_;show wpAny _ _ (setSeqItemAt a k v >>= _) _ _ s;refine bE (wpAny_setSeqItemAt b1 rfl ?_);refine wpAny_pure (dh _ _ ⟨0,rfl,?_,hQ ..,rfl,rfl⟩);refine (hc _ b1 rfl).trans (fV some ?_);simp [e4]
noncomputable def te (w:aG)(a K t:y)(i:ai)(k:y)(l:B ag)(v:ag)(ap:aK ag)(aF:i=(k:ai))(aV:k<1000000)(bc:k<l.length) :cV w:=
 ⟨0,.builtin "list.__setitem__" ⟨[.ref a,.int i t,v],[]⟩,ap,[(a,I l K)],λ_=>.ok (.ret .none),λ_=>[I (l.set k v) K],λ_=>[],λ_=>bZ,OF aF aV bc⟩
theorem aec {a K t:y}{i:ai}{k:y}{l dH:B ag}{v:ag}{ap:aK ag}(aF:i=(k:ai))(aV:k<1000000)(bc:k<l.length)(he:l.set k v=dH) :
  b0 w 0 (.builtin "list.__setitem__" ⟨[.ref a,.int i t,v],[]⟩) ap [(a,I l K)] (λ_=>.ok (.ret .none)) (λ_=>[I dH K]) (λ_=>[]) (λ_=>bZ):=by
 subst he;exact OF aF aV bc
noncomputable def B1 (w:aG)(a K t:y)(i:ai)(k:y)(l dH:B ag)(v:ag)(ap:aK ag)(aF:i=(k:ai))(aV:k<1000000)(bc:k<l.length)(he:l.set k v=dH) :cV w:=
 ⟨0,_,ap,_,_,_,_,_,aec (w:=w) (a:=a) (K:=K) (t:=t) (ap:=ap) aF aV bc he⟩
end
end
section
open PySem PySem.W PySem.W.X PySem.Calls PyProof.Rows
section
section
variable {dd jt xU:Type}{bo:rm}{b6:Ctx}{p:c2}{s:aR}
abbrev Qo:ag->c2->aR->Prop:=λ_ _ _=>dm
abbrev dM (bo:rm)(b6:Ctx)(t:e5 dd)(Q:dd->c2->aR->Prop)(p:c2)(s:aR) :Prop:=oq bo b6 t Q Qo p s
theorem dM.iX {t:e5 dd}{g1 Q:dd->c2->aR->Prop}{E:ag->c2->aR->Prop}(h:dM bo b6 t g1 p s)(k:∀ v p s,g1 v p s->Q v p s) :oq bo b6 t Q E p s:=
 ot _ _ _ k (λ_ _ _ f=>f.elim) _ _ h
theorem dM.seq {m:e5 dd}{f:dd->e5 jt}{g1:dd->c2->aR->Prop}{Q:jt->c2->aR->Prop}{E:ag->c2->aR->Prop}(h:dM bo b6 m g1 p s)(k:∀ v p s,g1 v p s->oq bo b6 (f v) Q E p s) :oq bo b6 (m.bind f) Q E p s:=
 (hf ..).mpr (h.iX k)
theorem dM.lE {m:e5 dd}{aI:dd->e5 xU}{f:dd->e5 jt}{g1:xU->c2->aR->Prop}{Q:jt->c2->aR->Prop}{E:ag->c2->aR->Prop}(h:dM bo b6 (m.bind aI) g1 p s)(k:∀ v p s,dM bo b6 (aI v) g1 p s->oq bo b6 (f v) Q E p s) :oq bo b6 (m.bind f) Q E p s:=
 dM.seq ((hf ..).mp h) k
end
theorem vV (a:c5)(aW:B c5)(env:cE) :execs (a::aW) env=(exec a env).bind λf=>match f with | .next=>execs aW env | f=>.pure f:=rfl
theorem I5 (env:cE) :execs [] env=pure .next:=rfl
noncomputable def fQ (e:cT)(env:cE) :e5 h3:=(k7 e env).bind λv=>.pure (.done (.ret v))
noncomputable def j1 (aW:B c5)(env:cE) :e5 h3:=(execs aW env).bind λf=>.pure (.done f)
section
variable {w:aG}{b6:Ctx}{p:c2}{s:aR}{A:c9}{c:cn}{env:cE}(aX:b6.code=c)(ds:b6.Below A)
include aX ds
theorem p1:b6.In (A.under c):=aX▸ds.in
theorem wR {t:e5 h3}{cZ:cD->aR->Prop}(h:wpOwn (model aL w) A c t (postC aL w A cZ) (postE cZ) s)(bK:∀ e aA,¬ cZ (.error e) aA)(p:c2) :dM (model aL w) b6 t (λa _ an=>postC aL w A cZ a an) p s:=
 ot _ _ _ (λ_ _ _ h=>h) (λe _ aA h=>bK e aA h) _ _ (h b6 p aX ds)
theorem wN {e:cT}{cZ:cD->aR->Prop}(h:wpOwn (model aL w) A c (fQ e env) (postC aL w A cZ) (λ_ _=>dm) s)(p:c2) :dM (model aL w) b6 (k7 e env) (λv _ an=>cZ (.ok (.ret v)) an) p s:=
 (hf ..).mp (h b6 p aX ds)
theorem Aj {l:B c5}{cZ:cD->aR->Prop}(h:wpOwn (model aL w) A c (j1 l env) (postC aL w A cZ) (λ_ _=>dm) s)(p:c2) :dM (model aL w) b6 (execs l env) (λf _ an=>cZ (.ok f) an) p s:=
 (hf ..).mp (h b6 p aX ds)
section
variable {l r:cT}{fR:CmpOp}{hT:c2}{cZ:cD->aR->Prop}{eZ:ag->cD->aR->Prop}(aU:l7 fR r=false)(dY:b6.In A)
 (az:wpOwn (model aL w) A c (fQ l env) (postC aL w A cZ) (λ_ _=>dm) s)
 (aJ:∀ a aA,cZ (.ok (.ret a)) aA->wpOwn (model aL w) A c (fQ r env) (postC aL w A (eZ a)) (λ_ _=>dm) aA)
include aU az aJ
theorem H8 {ei:c9}(dY:b6.In ei){iL:ag->aR->Prop}(bg:∀ a b aA,eZ a (.ok (.ret b)) aA->wpAny (model aL w) ei (mc fR a b) iL (λ_ _=>dm) aA)(p:c2) :dM (model aL w) b6 (k7 (.Compare l [fR] [r] hT) env) (λv _ s=>iL v s) p s:=by simp only [eval_Compare1,abb aU,qg,Hk,Qt,Hl];exact (wN aX ds az p).iX λa dV aA k=>(wN aX ds (aJ a aA k) dV).iX λb fj bi k=>bg a b bi k b6 _ dY
theorem FX {ei:c9}(dY:b6.In ei){iL:bW->aR->Prop}(bg:∀ a b aA,eZ a (.ok (.ret b)) aA->wpAny (model aL w) ei (mc fR a b) (λc bi=>wpAny (model aL w) ei (pY c) iL (λ_ _=>dm) bi) (λ_ _=>dm) aA)(p:c2) :dM (model aL w) b6 (isTrue (.Compare l [fR] [r] hT) env (k7 (.Compare l [fR] [r] hT) env)) (λv _ s=>iL v s) p s:=by simp only [isTrue_Compare1,abb aU,qg,Hk,Qt,Hl];exact (wN aX ds az p).iX λa dV aA k=>(wN aX ds (aJ a aA k) dV).iX λb fj bi k=>dM.iX (bg a b bi k b6 _ dY) λc hN dp k=>k b6 hN dY
end
end
theorem afV {bo:rm}{b6:Ctx}{env:cE}{Q:kt->c2->aR->Prop}{E:ag->c2->aR->Prop}{aW pre:B c5} :∀ {p:c2} {s:aR},
  oq bo b6 (execs pre env) (λf hZ an=>match f with | .next=>oq bo b6 (execs aW env) Q E hZ an | f=>Q f hZ an) E p s->oq bo b6 (execs (pre++aW) env) Q E p s:=by
 induction pre with
 | nil=>intro p s h;rw [I5] at h;exact h
 | cons a pre bO=>
  intro p s h;rw [vV,hf] at h;refine H (GQ ..) (H (vV ..) (H (hf ..) ?_));refine ot bo b6 _ (λf dV aA az=>?_) (λ_ _ _ h=>h) p s h
  induction f with
  | next=>exact bO az
  | cont=>exact az
  | brk=>exact az
  | ret v=>exact az
theorem tv {bo:rm}{b6:Ctx}{env:cE}{Q:kt->c2->aR->Prop}{g1:kt->c2->aR->Prop}{aW pre:B c5}{p:c2}{s:aR}(h:dM bo b6 (execs pre env) g1 p s)(k:∀ f p s,g1 f p s->f= .next/\dM bo b6 (execs aW env) Q p s) :dM bo b6 (execs (pre++aW) env) Q p s:=
 afV (h.iX λf p s q=>by obtain ⟨e,cf⟩:=k f p s q;subst e;exact cf)
theorem yU {w:aG}{b:B c5}{env:cE}{A:c9}{s:aR}{R:cD->aR->Prop}{xU:Type}{aI:Unit->e5 xU}{g1:Ctx->xU->c2->aR->Prop}
  (h:∀ b6 p,b6.code= .func b env->b6.Below A->dM (model aL w) b6 (point.bind aI) (g1 b6) p s)
  (k:∀ b6 p s (Q:kt->c2->aR->Prop),b6.code= .func b env->b6.Below A->(∀ v p bi,R (.ok (.ret v)) bi->Q (.ret v) p bi)->dM (model aL w) b6 (aI ()) (g1 b6) p s->dM (model aL w) b6 (execs b env) Q p s) :codeAny (model aL w) A (.func b env) R s:=by
 refine rC ?_;show wpOwn _ A _ (point.bind λ_=>((execs b env).onRaise (tU env)).bind _) _ _ s;exact λb6 p aX ds=>(h b6 p aX ds).lE λ_ dV aA aV=>(hf ..).mpr ((vw ..).mpr (dM.iX (k b6 dV aA _ aX ds (λv p bi h=>h) aV) λ_ _ _ q=>q))
theorem EN {w:aG}{b6:Ctx}{A:c9}{c:cn}{env:cE}{p:c2}{s:aR}{X:kt->aR->Prop}(dY:b6.In A)(h:codeAny (model aL w) A c (λr an=>∃ f,r= .ok f/\X f an) s) :dM (model aL w) b6 (runOwn c env) (λf _ an=>X f an) p s:=
 wpAny_runOwn (A:=A) (E:=λ_ _=>dm) (h:=none) (Q:=X) (gR h λr an ⟨f,e,x⟩=>by subst e;exact x) (λe=>(by injection e)) b6 p dY
theorem ps {bo:rm}{b6:Ctx}{env:cE}{a:c5}{aW:B c5}{Q g1:kt->c2->aR->Prop}{p:c2}{s:aR}(h:dM bo b6 (exec a env) g1 p s)(k:∀ f p s,g1 f p s->dM bo b6 (match f with | .next=>execs aW env | f=>.pure f) Q p s) :dM bo b6 (execs (a::aW) env) Q p s:=by refine H (vV ..) ?_;exact dM.seq h k
noncomputable def mY (hO:cT)(J:ag)(jo:c5)(env:cE) :e5 h3:=.at hO.pos λ_=>((pO J).onRaise (λ_=>standAt {hO.pos with line:=0})).bind λr=>match r with
 | none=>.pure (.done .brk)
 | some v=>(letOwnedTupleGo hO J v).bind λ_=>(assign hO env v).bind λ_=>(exec jo env).bind λf=>.pure (.done f)
noncomputable def wr (jG:cT)(jo:c5)(env:cE) :e5 h3:=(isTrue jG env (k7 jG env)).bind λb=>match b with
 | true=>(exec jo env).bind λf=>.pure (.done f)
 | false=>.pure (.done .cont)
section
variable {w:aG}{A:c9}{c:cn}{env:cE}{s:aR}{R cZ:cD->aR->Prop}{aW:B c5}{jo:c5}
theorem Rc (h:R (.ok .next) s) :codeAny (model aL w) A (.block [] env) R s:=Ia (wpAny_pure h)
def sO (w:aG)(A:c9)(c:cn)(aW:B c5)(env:cE)(R:cD->aR->Prop)(s:aR) :kt->Prop
 | .next=>∀ b6 p (Q:kt->c2->aR->Prop),b6.code=c->b6.Below A->(∀ p bi,codeAny (model aL w) A c R bi->Q .next p bi)->(∀ v p bi,R (.ok (.ret v)) bi->Q (.ret v) p bi)->(∀ p bi,R (.ok .next) bi->Q .brk p bi)->dM (model aL w) b6 (execs aW env) Q p s
 | .cont=>codeAny (model aL w) A c R s
 | .brk=>R (.ok .next) s
 | .ret v=>R (.ok (.ret v)) s
theorem Ji {b6:Ctx}{p:c2}{Q:kt->c2->aR->Prop}(aX:b6.code=c)(ds:b6.Below A)(gf:∀ p bi,codeAny (model aL w) A c R bi->Q .next p bi)(acl:∀ p bi,codeAny (model aL w) A c R bi->Q .cont p bi)(uK:∀ v p bi,R (.ok (.ret v)) bi->Q (.ret v) p bi)(uJ:∀ p bi,R (.ok .next) bi->Q .brk p bi){f:kt}(h:sO w A c aW env R s f) :dM (model aL w) b6 (match f with | .next=>execs aW env | f=>.pure f) Q p s:=by
 induction f with
 | next=>exact h b6 p Q aX ds gf uK uJ
 | cont=>exact acl p s h
 | brk=>exact uJ p s h
 | ret v=>exact uK v p s h
theorem CT {hO:cT}{J:ag}(hV:c= .forLoop hO J (jo::aW) [] env)(az:wpOwn (model aL w) A c (mY hO J jo env) (postC aL w A cZ) (postE cZ) s)(bJ:∀ r aA,cZ r aA->∃ f,r= .ok f/\sO w A c aW env R aA f) :codeAny (model aL w) A c R s:=by
 have ok:∀ f aA,cZ (.ok f) aA->sO w A c aW env R aA f:=λf aA h=>by
  obtain ⟨aI,e,h⟩:=bJ _ _ h
  (injection e with d8;subst d8)
  exact h
 obtain ⟨a4,ap,e⟩ :c.quiet=true/\∃ ap,(model aL w).den c=(forTurn hO J (jo::aW) [] env).onRaise ap:=by subst hV;exact ⟨rfl,_,rfl⟩
 refine rC λb6 p aX ds=>?_;refine H e ?_;refine (vw ..).mpr ((wR aX ds az (λe aA h=>by obtain ⟨_,e,_⟩:=bJ _ _ h;cases e) p).lE (m:=(pO J).onRaise λ_=>standAt {hO.pos with line:=0}) (p:=hO.pos) λr dV aA k=>?_)
 induction r with
 | none=>exact ⟨rfl,Rc (ok .brk aA k)⟩
 | some v=>
  refine k.lE λ_ fj bi k=>k.lE λ_ hN dp k=>?_;refine dM.seq (m:=execs (jo::aW) env) (g1:=λf _ bi=>match f with
   | .next | .cont=>codeAny (model aL w) A c R bi
   | .brk=>R (.ok .next) bi
   | .ret v=>R (.ok (.ret v)) bi) ?_ λf p s k=>?_
  ·refine H (vV ..) ?_
   exact k.lE λf p s k=>Ji aX ds (λ_ _ h=>h) (λ_ _ h=>h) (λ_ _ _ h=>h) (λ_ _ h=>h) (ok f s k)
  ·subst hV
   induction f with
   | next=>exact ⟨rfl,k⟩
   | cont=>exact ⟨rfl,k⟩
   | brk=>exact k
   | ret v=>exact k
theorem afE {jG:cT}{sd:B c5}(hV:c= .whileLoop jG (jo::aW) sd env)(az:wpOwn (model aL w) A c (wr jG jo env) (postC aL w A cZ) (postE cZ) s)(bJ:∀ r aA,cZ r aA->∃ f,r= .ok f/\f≠.cont/\sO w A c aW env R aA f) :codeAny (model aL w) A c R s:=by
 have ok:∀ f aA,cZ (.ok f) aA->f≠.cont/\sO w A c aW env R aA f:=λf aA h=>by
  obtain ⟨aI,e,h⟩:=bJ _ _ h
  (injection e with d8;subst d8)
  exact h
 obtain ⟨a4,ap,e⟩ :c.quiet=true/\∃ ap,(model aL w).den c=(whileTurn jG (jo::aW) sd env).onRaise ap:=by subst hV;exact ⟨rfl,_,rfl⟩
 refine rC λb6 p aX ds=>?_;refine H e ?_;refine (vw ..).mpr ((wR aX ds az (λe aA h=>by obtain ⟨_,e,_⟩:=bJ _ _ h;injection e) p).lE λb dV aA k=>?_)
 induction b with
 | false=>exact absurd rfl (ok .cont aA k).1
 | true=>
  refine dM.seq (m:=execs (jo::aW) env) (g1:=λf _ bi=>match f with
   | .next | .cont=>codeAny (model aL w) A c R bi
   | .brk=>R (.ok .next) bi
   | .ret v=>R (.ok (.ret v)) bi) ?_ λf p s k=>?_
  ·refine H (vV ..) ?_
   exact k.lE λf p s k=>Ji aX ds (λ_ _ h=>h) (λ_ _ h=>h) (λ_ _ _ h=>h) (λ_ _ h=>h) (ok f s k).2
  ·subst hV
   induction f with
   | next=>exact ⟨rfl,k⟩
   | cont=>exact ⟨rfl,k⟩
   | brk=>exact k
   | ret v=>exact k
theorem Jj {eA:cT}{rc rd:B c5}{pos:c2}(dC:A.under c=A)(h:codeAny (model aL w) A (.whileLoop eA rc rd env) (λr bi=>(r= .ok .next/\codeAny (model aL w) A c R bi)∨(r= .ok .brk/\R (.ok .next) bi)∨∃ v,r= .ok (.ret v)/\R (.ok (.ret v)) bi) s) :sO w A c [.While eA rc rd pos] env R s .next:=
 λb6 p Q aX ds gf uK uJ=>ps (g1:=λf p bi=>match f with
   | .next=>codeAny (model aL w) A c R bi
   | f=>Q f p bi) (by
  refine H (arm_exec_While ..) ?_;exact (EN (X:=λf bi=>(f= .next/\codeAny (model aL w) A c R bi)∨(f= .brk/\R (.ok .next) bi)∨∃ v,f= .ret v/\R (.ok (.ret v)) bi) (dC▸p1 aX ds) (gR h λr bi h=>by
   rcases h with ⟨rfl,h⟩ | ⟨rfl,h⟩ | ⟨v,rfl,h⟩
   ·exact ⟨_,rfl,.inl ⟨rfl,h⟩⟩
   ·exact ⟨_,rfl,.inr (.inl ⟨rfl,h⟩)⟩
   ·exact ⟨_,rfl,.inr (.inr ⟨v,rfl,h⟩)⟩)).iX λf p bi h=>by
   rcases h with ⟨rfl,h⟩ | ⟨rfl,h⟩ | ⟨v,rfl,h⟩
   ·exact h
   ·exact uJ _ _ h
   ·exact uK v _ _ h) λf p bi h=>by
  induction f with
  | next=>exact gf p bi h
  | cont=>exact h
  | brk=>exact h
  | ret v=>exact h
theorem DW {jG eA:cT}{rc rd sd:B c5}{pos:c2}(hV:c= .whileLoop jG [jo,.While eA rc rd pos] sd env)(az:wpOwn (model aL w) A c (wr jG jo env) (postC aL w A cZ) (postE cZ) s)
  (bJ:∀ r aA,cZ r aA->(∃ v,r= .ok (.ret v)/\R (.ok (.ret v)) aA)∨(r= .ok .next/\codeAny (model aL w) A (.whileLoop eA rc rd env) (λr bi=>(r= .ok .next/\codeAny (model aL w) A c R bi)∨(r= .ok .brk/\R (.ok .next) bi)) aA)) :codeAny (model aL w) A c R s:=
 afE hV az λr aA h=>(bJ r aA h).elim (λ⟨v,e,h⟩=>⟨_,e,by simp,h⟩) λ⟨e,h⟩=>⟨_,e,by simp,Jj (hV▸vd rfl rfl) (gR h λr bi h=>h.imp_right .inl)⟩
theorem yT {hO eA:cT}{J:ag}{rc rd:B c5}{pos:c2}(hV:c= .forLoop hO J [jo,.While eA rc rd pos] [] env)(az:wpOwn (model aL w) A c (mY hO J jo env) (postC aL w A cZ) (postE cZ) s)
  (bJ:∀ r aA,cZ r aA->(r= .ok .brk/\R (.ok .next) aA)∨(r= .ok .cont/\codeAny (model aL w) A c R aA)∨(r= .ok .next/\codeAny (model aL w) A (.whileLoop eA rc rd env) (λr bi=>(r= .ok .next/\codeAny (model aL w) A c R bi)∨∃ v,r= .ok (.ret v)/\R (.ok (.ret v)) bi) aA)) :codeAny (model aL w) A c R s:=
 CT hV az λr aA h=>(bJ r aA h).elim (λh=>⟨_,h⟩) λh=>h.elim (λh=>⟨_,h⟩) λ⟨e,h⟩=>⟨_,e,Jj (hV▸vd rfl rfl) (gR h λr bi h=>h.imp_right .inr)⟩
theorem NZ {l:B c5}{b6:Ctx}{Q:kt->c2->aR->Prop}(aX:b6.code=c)(ds:b6.Below A)(gf:∀ p bi,codeAny (model aL w) A c R bi->Q .next p bi)(h:wpOwn (model aL w) A c (j1 l env) (postC aL w A (λq bi=>q= .ok .next/\codeAny (model aL w) A c R bi)) (λ_ _=>dm) s)(p:c2) :dM (model aL w) b6 (execs l env) Q p s:=
 (Aj aX ds h p).iX λf p bi ⟨e,h⟩=>by
  (injection e with d8;subst d8)
  exact gf p bi h
section
variable {l r:cT}{fR:CmpOp}{hT:c2}{bh rO:B c5}{ml:c2}{eZ:cD->aR->Prop}{iL:ag->cD->aR->Prop}{k2:bW->aR->Prop}
theorem I3 {b6:Ctx}{Q:kt->c2->aR->Prop}(aX:b6.code=c)(ds:b6.Below A)(aU:l7 fR r=false)
  (aJ:wpOwn (model aL w) A c (fQ l env) (postC aL w A eZ) (λ_ _=>dm) s)
  (bg:∀ a aA,eZ (.ok (.ret a)) aA->wpOwn (model aL w) A c (fQ r env) (postC aL w A (iL a)) (λ_ _=>dm) aA)
  {ei:c9}(dY:b6.In ei)(cS:∀ a b aA,iL a (.ok (.ret b)) aA->wpAny (model aL w) ei (mc fR a b) (λc bi=>wpAny (model aL w) ei (pY c) k2 (λ_ _=>dm) bi) (λ_ _=>dm) aA)
  (k:∀ t p s,k2 t s->dM (model aL w) b6 (if t then execs bh env else execs rO env) Q p s)(p:c2) :dM (model aL w) b6 (exec (.If (.Compare l [fR] [r] hT) bh rO ml) env) Q p s:=by
 show oq _ b6 ((isTrue (.Compare l [fR] [r] hT) env (k7 (.Compare l [fR] [r] hT) env)).bind _) _ _ ml s;exact (FX aX ds aU aJ bg dY cS ml).seq k
theorem Wq {hO:cT}{J:ag}(hV:c= .forLoop hO J (jo::.If (.Compare l [fR] [r] hT) bh [] ml::aW) [] env){P qf:aR->Prop}(aU:l7 fR r=false)
  (az:wpOwn (model aL w) A c (mY hO J jo env) (postC aL w A λr aA=>r= .ok .next/\P aA) (postE λr aA=>r= .ok .next/\P aA) s)
  (aJ:∀ aA,P aA->wpOwn (model aL w) A c (fQ l env) (postC aL w A eZ) (λ_ _=>dm) aA)
  (bg:∀ a aA,eZ (.ok (.ret a)) aA->wpOwn (model aL w) A c (fQ r env) (postC aL w A (iL a)) (λ_ _=>dm) aA)
  (cS:∀ a b aA,iL a (.ok (.ret b)) aA->wpAny (model aL w) A (mc fR a b) (λc bi=>wpAny (model aL w) A (pY c) (λt dp=>t=false/\qf dp) (λ_ _=>dm) bi) (λ_ _=>dm) aA)
  (dI:∀ aA,qf aA->wpOwn (model aL w) A c (j1 aW env) (postC aL w A (λq bi=>q= .ok .next/\codeAny (model aL w) A c R bi)) (λ_ _=>dm) aA) :codeAny (model aL w) A c R s:=by
 have dC:A.under c=A:=hV▸vd rfl rfl;refine CT hV az λr aA ⟨e,h⟩=>⟨_,e,λb6 p Q aX ds gf uK uJ=>ps (I3 aX ds aU (aJ aA h) bg (dC▸p1 aX ds) cS (Q:=λf _ s=>f= .next/\qf s) (λt p s k=>?_) p) λf p s k=>?_⟩
 ·obtain ⟨e,k⟩:=k
  subst e;exact ⟨rfl,k⟩
 ·obtain ⟨e,k⟩:=k
  subst e;exact NZ aX ds gf (dI s k) p
theorem afD {body:B c5}(hV:c= .whileLoop (.Compare l [fR] [r] hT) body [] env)(aU:l7 fR r=false)
  (az:wpOwn (model aL w) A c (fQ l env) (postC aL w A eZ) (λ_ _=>dm) s)
  (aJ:∀ a aA,eZ (.ok (.ret a)) aA->wpOwn (model aL w) A c (fQ r env) (postC aL w A (iL a)) (λ_ _=>dm) aA)
  (bg:∀ a b aA,iL a (.ok (.ret b)) aA->wpAny (model aL w) A (mc fR a b) (λc bi=>wpAny (model aL w) A (pY c) k2 (λ_ _=>dm) bi) (λ_ _=>dm) aA)
  (cS:∀ aA,k2 false aA->R (.ok .next) aA)
  (dI:∀ aA,k2 true aA->wpOwn (model aL w) A c (j1 body env) (postC aL w A (λq bi=>q= .ok .next/\codeAny (model aL w) A c R bi)) (λ_ _=>dm) aA) :codeAny (model aL w) A c R s:=by
 have dC:A.under c=A:=hV▸vd rfl rfl;obtain ⟨a4,ap,e⟩ :c.quiet=true/\∃ ap,(model aL w).den c=(whileTurn (.Compare l [fR] [r] hT) body [] env).onRaise ap:=by subst hV;exact ⟨rfl,_,rfl⟩
 refine rC λb6 p aX ds=>?_;refine H e ?_;refine (vw ..).mpr ((FX aX ds aU az aJ (dC▸p1 aX ds) bg p).seq λt p s k=>?_)
 induction t with
 | false=>exact cS s k
 | true=>refine (NZ aX ds (Q:=λf _ bi=>f= .next/\codeAny (model aL w) A c R bi) (λ_ _ h=>⟨rfl,h⟩) (dI s k) p).seq λf p s k=>?_;obtain ⟨eL,k⟩:=k;subst hV;subst eL;exact ⟨rfl,k⟩
end
section
variable {b pre:B c5}{pos:c2}
noncomputable def xw (pre:B c5)(env:cE) :e5 h3:=point.bind λ_=>(execs pre env).bind λf=>.pure (.done f)
noncomputable def Jt (pre:B c5)(pos:c2)(kh:cT)(env:cE) :e5 h3:=point.bind λ_=>(execs pre env).bind λf=>match f with
 | .next=>(standAt pos).bind λ_=>(k7 kh env).bind λv=>(foldedSetIterable kh env v).bind λx=>(standAt kh.pos).bind λ_=>(holding [x] (q0 x)).bind λJ=>.pure (.done (.ret J))
 | _=>.pure (.done .brk)
theorem WA {kh hO:cT}{rO:B c5}(aQ:b=pre++.For hO kh rO [] pos::aW)
  (az:wpOwn (model aL w) A (.func b env) (Jt pre pos kh env) (postC aL w A cZ) (postE cZ) s)
  (bK:∀ r aA,cZ r aA->∃ J,r= .ok (.ret J)/\codeAny (model aL w) (A.under (.func b env)) (.forLoop hO J rO [] env) (λr bi=>
   (r= .ok .next/\wpAny (model aL w) (A.under (.func b env)) (execs aW env) (λf dp=>∃ v,f= .ret v/\R (.ok (.ret v)) dp) (λ_ _=>dm) bi)∨∃ v,r= .ok (.ret v)/\R (.ok (.ret v)) bi) aA) :
  codeAny (model aL w) A (.func b env) R s:=by
 refine yU (λb6 p aX ds=>wR aX ds az (λe aA h=>by obtain ⟨_,e,_⟩:=bK _ _ h;cases e) p) λb6 p aA Q aX ds dh O=>?_;have dY:=p1 aX ds;rw [aQ];refine tv ((hf ..).mp O) λf p aA a7=>?_;cases f with
 | next=>
  refine ⟨rfl,ps (g1:=λf _ bi=>(f= .next/\wpAny (model aL w) (A.under (.func b env)) (execs aW env) (λf dp=>∃ v,f= .ret v/\R (.ok (.ret v)) dp) (λ_ _=>dm) bi)∨∃ v,f= .ret v/\R (.ok (.ret v)) bi) ?_ λf p bi h=>?_⟩
  ·rw [arm_exec_For]
   refine dM.lE a7 λ_ p s a7=>dM.lE a7 λ_ p s a7=>dM.lE a7 λ_ p s a7=>dM.lE a7 λ_ p s a7=>dM.lE a7 λJ p s a7=>EN dY ?_;obtain ⟨J,e,aJ⟩:=bK _ _ a7;cases e;exact gR aJ λr bi h=>h.elim (λ⟨e,h⟩=>⟨_,e,.inl ⟨rfl,h⟩⟩) λ⟨v,e,h⟩=>⟨_,e,.inr ⟨v,rfl,h⟩⟩
  ·rcases h with ⟨rfl,h⟩ | ⟨v,rfl,h⟩
   ·exact dM.iX (h b6 p dY) λf p dp ⟨v,e,h⟩=>e▸dh v p dp h
   ·exact dh v p bi h
 | _=>obtain ⟨_,e,_⟩:=bK _ _ a7;rcases e with _ | _
theorem WD {jG:cT}{body:B c5}{P X:aR->Prop}(aQ:b=pre++.While jG body [] pos::aW)
  (az:wpOwn (model aL w) A (.func b env) (xw pre env) (postC aL w A λr aA=>r= .ok .next/\P aA) (λ_ _=>dm) s)
  (aJ:∀ aA,P aA->codeAny (model aL w) (A.under (.func b env)) (.whileLoop jG body [] env) (λr bi=>r= .ok .next/\X bi) aA)
  (bg:∀ bi,X bi->wpOwn (model aL w) A (.func b env) (j1 aW env) (postC aL w A (λr dp=>∃ v,r= .ok (.ret v)/\R (.ok (.ret v)) dp)) (λ_ _=>dm) bi) :
  codeAny (model aL w) A (.func b env) R s:=by
 refine yU (λb6 p aX ds=>az b6 p aX ds) λb6 p aA Q aX ds dh O=>?_;refine H aQ ?_;refine tv ((hf ..).mp O) λf p aA ⟨e,k⟩=>?_
 (injection e with d8;subst d8)
 refine ⟨rfl,ps (g1:=λf _ bi=>f= .next/\X bi) (p:=p) ?_ λf p bi h=>?_⟩
 ·refine H (exec_While ..) ?_
  exact EN (p:=pos) (p1 aX ds) (gR (aJ aA k) λr bi ⟨e,h⟩=>⟨_,e,rfl,h⟩)
 ·obtain ⟨e,h⟩:=h
  subst e;exact (Aj aX ds (bg bi h) p).iX λf p dp ⟨v,e,h⟩=>by
   (injection e with d8;subst d8)
   exact dh v p dp h
theorem I4 {b6:Ctx}{p:c2}{bh:B c5}{bG:mI}{hs:B mI}{Q:kt->c2->aR->Prop}{X:Except ag kt->c2->aR->Prop}(h:dM (model aL w) b6 (execs bh env).attempt X pos s)
  (k:∀ r p s,X r p s->∃ e,r= .error e/\dM (model aL w) b6 (oT e env) (λ_ p s=>dM (model aL w) b6 (pR e none) (λ_ p s=>dM (model aL w) b6 (handleBy e env (bG::hs)) Q p s) p s) p s) :dM (model aL w) b6 (exec (.Try bh (bG::hs) [] [] pos) env) Q p s:=by
 refine H (arm_exec_Try ..) ?_;refine dM.seq (m:=standAt pos) (g1:=λ_ p an=>p=pos/\an=s) ⟨rfl,rfl⟩ λ_ p aA e=>?_;obtain ⟨rfl,rfl⟩:=e;show dM _ b6 (vv (execs bh env).attempt _) Q p aA;refine dM.seq h λr p s q=>?_;obtain ⟨e,ke,cf⟩:=k r p s q;subst ke;exact dM.seq cf λ_ p s q=>dM.seq q λ_ p s q=>q
noncomputable def O7 (pre bh:B c5)(pos:c2)(env:cE) :e5 h3:=point.bind λ_=>(execs pre env).bind λf=>match f with
 | .next=>.at pos λ_=>(execs bh env).attempt.bind λr=>match r with
  | .error e=>.pure (.done (.ret e))
  | .ok _=>.pure (.done .cont)
 | _=>.pure (.done .brk)
noncomputable def wn (e:ag)(env:cE)(hs:B mI)(aW:B c5) :e5 h3:=(handleBy e env hs).bind λf=>match f with
 | .next=>(execs aW env).bind λaI=>.pure (.done aI)
 | _=>.pure (.done .brk)
theorem WC {bh:B c5}{bG:mI}{hs:B mI}(aQ:b=pre++.Try bh (bG::hs) [] [] pos::aW)(az:wpOwn (model aL w) A (.func b env) (O7 pre bh pos env) (postC aL w A cZ) (postE cZ) s)
  (bK:∀ r aA,cZ r aA->∃ e,r= .ok (.ret e)/\wpAny (model aL w) (A.under (.func b env)) (oT e env) (λ_ bi=>wpAny (model aL w) (A.under (.func b env)) (pR e none)
   (λ_ dp=>wpOwn (model aL w) A (.func b env) (wn e env (bG::hs) aW) (postC aL w A (λr sy=>∃ v,r= .ok (.ret v)/\R (.ok (.ret v)) sy)) (λ_ _=>dm) dp) (λ_ _=>dm) bi) (λ_ _=>dm) aA) :
  codeAny (model aL w) A (.func b env) R s:=by
 refine yU (λb6 p aX ds=>wR aX ds az (λe aA h=>by obtain ⟨_,e,_⟩:=bK _ _ h;cases e) p) λb6 p aA Q aX ds dh O=>?_;rw [aQ];refine tv ((hf ..).mp O) λf p aA a7=>?_;have dY:=p1 aX ds;cases f with
 | next=>
  refine ⟨rfl,ps (I4 (Q:=λf p s=>dM (model aL w) b6 (match f with | .next=>execs aW env | f=>.pure f) Q p s) ((hf _ _ (execs bh env).attempt ..).mp a7) λr p s k=>?_) λf p s h=>h⟩;cases r with
  | ok _=>obtain ⟨_,e,_⟩:=bK _ _ k;cases e
  | error e=>
   obtain ⟨_,a5,k⟩:=bK _ _ k;cases a5;refine ⟨_,rfl,dM.iX (k b6 p dY) λ_ p s k=>dM.iX (k b6 p dY) λ_ p s k=>dM.iX ((hf ..).mp (k b6 p aX ds)) λf p s k=>?_⟩;cases f with
   | next=>exact dM.iX ((hf _ _ (execs aW env) ..).mp k) λf p s ⟨v,e,h⟩=>by cases e;exact dh v p s h
   | _=>obtain ⟨_,e,_⟩:=k;cases e
 | _=>obtain ⟨_,e,_⟩:=bK _ _ a7;rcases e with _ | _
noncomputable def Pd (jG:cT)(bh:B c5)(env:cE)(pos:c2) :e5 h3:=(isTrue jG env (k7 jG env)).bind λb=>match b with
 | true=>.at pos λ_=>(execs bh env).attempt.bind λr=>match r with
  | .error e=>.pure (.done (.ret e))
  | .ok _=>.pure (.done .cont)
 | false=>.pure (.done .cont)
noncomputable def y7 (e:ag)(env:cE)(hs:B mI) :e5 h3:=(handleBy e env hs).bind λf=>.pure (.done f)
theorem afa {jG:cT}{bh sd:B c5}{bG:mI}{hs:B mI}(hV:c= .whileLoop jG [.Try bh (bG::hs) [] [] pos] sd env)(az:wpOwn (model aL w) A c (Pd jG bh env pos) (postC aL w A cZ) (postE cZ) s)
  (bK:∀ r aA,cZ r aA->∃ e,r= .ok (.ret e)/\wpAny (model aL w) A (oT e env) (λ_ bi=>wpAny (model aL w) A (pR e none)
   (λ_ dp=>wpOwn (model aL w) A c (y7 e env (bG::hs)) (postC aL w A (λr sy=>r= .ok .next/\codeAny (model aL w) A c R sy)) (λ_ _=>dm) dp) (λ_ _=>dm) bi) (λ_ _=>dm) aA) :codeAny (model aL w) A c R s:=by
 have dC:A.under c=A:=hV▸vd rfl rfl;obtain ⟨a4,ap,e⟩ :c.quiet=true/\∃ ap,(model aL w).den c=(whileTurn jG [.Try bh (bG::hs) [] [] pos] sd env).onRaise ap:=by subst hV;exact ⟨rfl,_,rfl⟩
 refine rC λb6 p aX ds=>?_;have dY:b6.In A:=dC▸p1 aX ds;rw [e];refine (vw ..).mpr ((wR aX ds az (λe aA h=>by obtain ⟨_,e,_⟩:=bK _ _ h;cases e) p).lE λb dV aA k=>?_);cases b with
 | false=>obtain ⟨_,e,_⟩:=bK _ _ k;cases e
 | true=>
  refine dM.seq (m:=execs [.Try bh (bG::hs) [] [] pos] env) (g1:=λf _ s=>f= .next/\codeAny (model aL w) A c R s) (ps (I4 (Q:=λf _ s=>f= .next/\codeAny (model aL w) A c R s) ((hf _ _ (execs bh env).attempt ..).mp k) λr p s k=>?_) λf p s h=>?_) λf p s k=>?_
  ·cases r with
   | ok _=>obtain ⟨_,e,_⟩:=bK _ _ k;cases e
   | error e=>
    obtain ⟨_,a5,k⟩:=bK _ _ k;rcases a5 with _ | _;refine ⟨_,rfl,dM.iX (k b6 p dY) λ_ p s k=>dM.iX (k b6 p dY) λ_ p s k=>dM.iX ((hf ..).mp (k b6 p aX ds)) λf p s k=>?_⟩
    obtain ⟨e,k⟩:=k
    (injection e with d8;subst d8)
    exact ⟨rfl,k⟩
  ·obtain ⟨e,k⟩:=h
   subst e;exact ⟨rfl,k⟩
  ·obtain ⟨eL,k⟩:=k
   subst hV;subst eL;exact ⟨rfl,k⟩
theorem WB {fj qT bh:B c5}{l r a vI i3 iP:cT}{hT ml bD cf dJ uI:c2}{Br Bs k2 Bt By:aR->Prop}{eZ Bz Bw:cD->aR->Prop}{iL BA Bx:ag->cD->aR->Prop}(X2:l7 .NotEq r=false)(lf:l7 .Eq vI=false)(Kb:l7 .Eq iP=false)(aQ:b=pre++(fj++(.If (.Compare l [.NotEq] [r] hT) bh [] ml::(qT++[.Return (some (.BoolOp .And [.Compare a [.Eq] [vI] bD,.Compare i3 [.Eq] [iP] cf] dJ)) uI]))))
  (az:wpOwn (model aL w) A (.func b env) (xw pre env) (postC aL w A λr aA=>r= .ok .next/\Br aA) (λ_ _=>dm) s)
  (aJ:∀ aA,Br aA->wpOwn (model aL w) A (.func b env) (j1 fj env) (postC aL w A λr aA=>r= .ok .next/\Bs aA) (λ_ _=>dm) aA)
  (bg:∀ aA,Bs aA->wpOwn (model aL w) A (.func b env) (fQ l env) (postC aL w A eZ) (λ_ _=>dm) aA)
  (cS:∀ x aA,eZ (.ok (.ret x)) aA->wpOwn (model aL w) A (.func b env) (fQ r env) (postC aL w A (iL x)) (λ_ _=>dm) aA)
  (dI:∀ x as aA,iL x (.ok (.ret as)) aA->wpAny (model aL w) (A.under (.func b env)) (mc .NotEq x as) (λc bi=>wpAny (model aL w) (A.under (.func b env)) (pY c) (λt dp=>t=false/\k2 dp) (λ_ _=>dm) bi) (λ_ _=>dm) aA)
  (gl:∀ aA,k2 aA->wpOwn (model aL w) A (.func b env) (j1 qT env) (postC aL w A λr aA=>r= .ok .next/\Bt aA) (λ_ _=>dm) aA)
  (m1:∀ aA,Bt aA->wpOwn (model aL w) A (.func b env) (fQ a env) (postC aL w A Bz) (λ_ _=>dm) aA)
  (jU:∀ x aA,Bz (.ok (.ret x)) aA->wpOwn (model aL w) A (.func b env) (fQ vI env) (postC aL w A (BA x)) (λ_ _=>dm) aA)
  (rR:∀ x as aA,BA x (.ok (.ret as)) aA->wpAny (model aL w) (A.under (.func b env)) (mc .Eq x as) (λv bi=>v= .bool true/\By bi) (λ_ _=>dm) aA)
  (y0:∀ aA,By aA->wpOwn (model aL w) A (.func b env) (fQ i3 env) (postC aL w A Bw) (λ_ _=>dm) aA)
  (v6:∀ x aA,Bw (.ok (.ret x)) aA->wpOwn (model aL w) A (.func b env) (fQ iP env) (postC aL w A (Bx x)) (λ_ _=>dm) aA)
  (g6:∀ x as aA,Bx x (.ok (.ret as)) aA->wpAny (model aL w) (A.under (.func b env)) (mc .Eq x as) (λv bi=>R (.ok (.ret v)) bi) (λ_ _=>dm) aA) :
  codeAny (model aL w) A (.func b env) R s:=by
 refine yU (λb6 p aX ds=>az b6 p aX ds) λb6 p aA Q aX ds dh O=>?_;have dY:=p1 aX ds;refine H (fV (λx=>execs x env) aQ ..) ?_;refine tv ((hf ..).mp O) λf p aA ⟨e,k⟩=>⟨GG e,tv (Aj aX ds (aJ aA k) p) λf p bi ⟨e,k⟩=>⟨GG e,?_⟩⟩;refine ps (g1:=λf _ s=>f= .next/\k2 s) (I3 aX ds X2 (bg bi k) cS dY dI (λt p s k=>?_) p) λf p s k=>?_
 ·obtain ⟨e,k⟩:=k
  subst e;exact ⟨rfl,k⟩
 ·obtain ⟨e,k⟩:=k
  subst e;refine tv (Aj aX ds (gl s k) p) λf p bi ⟨e,k⟩=>⟨GG e,?_⟩;refine ps (g1:=λf p s=>∃ v,f= .ret v/\R (.ok (.ret v)) s) ?_ λf p s h=>?_
  ·show dM _ b6 ((boolOp dJ .And [k7 (.Compare a [.Eq] [vI] bD) env,k7 (.Compare i3 [.Eq] [iP] cf) env]).bind λv=>.pure (Flow.ret v)) _ uI bi
   refine dM.seq (g1:=λv _ s=>R (.ok (.ret v)) s) ?_ λv _ s h=>⟨v,rfl,h⟩;show dM _ b6 ((k7 (.Compare a [.Eq] [vI] bD) env).bind _) _ uI bi;refine (H8 aX ds lf (m1 bi k) jU dY rR uI).seq λv p s k=>?_;obtain ⟨e,k⟩:=k;subst e;exact H8 aX ds Kb (y0 s k) v6 dY g6 dJ
  ·obtain ⟨v,e,h⟩:=h
   subst e;exact dh v p s h
noncomputable def O8 (x:a6)(hZ:c2)(fR:Bp)(eF:B cT)(as aq:cT)(ik:c2)(env:cE)(f7:ag)(t:bW) :e5 h3:=
 (match t with | true=>allTrue .And eF env | false=>.pure false).bind λu=>(match u with | true=>k7 as env | false=>k7 aq env).bind λfl=>(standAt ik).bind λ_=>(vD fR f7 fl).bind λv=>(standAt hZ).bind λ_=>(ym env x v).bind λ_=>.pure (.done .next)
theorem Ws {hO l a b as aq:cT}{eF:B cT}{fR:Bp}{rA:CmpOp}{J:ag}{x:a6}{hZ hT t9 ml ik rs:c2}{P:aR->Prop}{eZ:cD->aR->Prop}{iL:ag->cD->aR->Prop}{k2:ag->ag->cD->aR->Prop}{qf:ag->bW->aR->Prop}
  (hV:c= .forLoop hO J [jo,.Assign [.Name x hZ] (.BinOp l fR (.IfExp (.BoolOp .And (.Compare a [rA] [b] hT::eF) t9) as aq ml) ik) rs] [] env)(aU:l7 rA b=false)
  (hs:swapsWith (.BinOp l fR (.IfExp (.BoolOp .And (.Compare a [rA] [b] hT::eF) t9) as aq ml) ik) (some (.Name x hZ)) rs.line env=pure false)
  (az:wpOwn (model aL w) A c (mY hO J jo env) (postC aL w A λr aA=>r= .ok .next/\P aA) (postE λr aA=>r= .ok .next/\P aA) s)
  (aJ:∀ aA,P aA->wpOwn (model aL w) A c (fQ l env) (postC aL w A eZ) (λ_ _=>dm) aA)
  (bg:∀ f7 aA,eZ (.ok (.ret f7)) aA->wpOwn (model aL w) A c (fQ a env) (postC aL w A (iL f7)) (λ_ _=>dm) aA)
  (cS:∀ f7 kq aA,iL f7 (.ok (.ret kq)) aA->wpOwn (model aL w) A c (fQ b env) (postC aL w A (k2 f7 kq)) (λ_ _=>dm) aA)
  (dI:∀ f7 kq Gb aA,k2 f7 kq (.ok (.ret Gb)) aA->wpAny (model aL w) A (mc rA kq Gb) (λc bi=>wpAny (model aL w) A (pY c) (qf f7) (λ_ _=>dm) bi) (λ_ _=>dm) aA)
  (gl:∀ f7 t aA,qf f7 t aA->wpOwn (model aL w) A c (O8 x hZ fR eF as aq ik env f7 t) (postC aL w A (λq bi=>q= .ok .next/\codeAny (model aL w) A c R bi)) (λ_ _=>dm) aA) :codeAny (model aL w) A c R s:=by
 have dC:A.under c=A:=hV▸vd rfl rfl;refine CT hV az λr aA ⟨e,h⟩=>⟨_,e,λb6 p Q aX ds gf uK uJ=>ps (g1:=λf _ s=>f= .next/\codeAny (model aL w) A c R s) ?_ λf p s k=>?_⟩
 ·refine H (exec_Assign_Name (hs:=hs) ..) ?_
  show dM _ b6 ((k7 (.BinOp l fR (.IfExp (.BoolOp .And (.Compare a [rA] [b] hT::eF) t9) as aq ml) ik) env).bind λv=>(standAt hZ).bind λ_=>(ym env x v).bind λ_=>.pure Flow.next) _ rs aA;refine (hf ..).mpr ?_;refine H (eval_BinOp ..) ?_;refine (wN aX ds (aJ aA h) rs).seq λf7 p s k=>(hf ..).mpr ((Hk ..).mpr ?_);have tail:∀ fl p s,dM (model aL w) b6 ((standAt ik).bind λ_=>(vD fR f7 fl).bind λv=>(standAt hZ).bind λ_=>(ym env x v).bind λ_=>.pure (PySem.Fin.done .next)) (λq _ bi=>postC aL w A (λq bi=>q= .ok .next/\codeAny (model aL w) A c R bi) q bi) p s->dM (model aL w) b6 ((standAt ik).bind λ_=>operate [f7,fl] (vD fR f7 fl)) (λv p s=>dM (model aL w) b6 ((standAt hZ).bind λ_=>(ym env x v).bind λ_=>.pure Flow.next) (λf _ s=>f= .next/\codeAny (model aL w) A c R s) p s) p s:=λfl p s k=>by refine (hf ..).mpr ?_;show dM _ b6 (operate [f7,fl] (vD fR f7 fl)) _ ik s;refine (Hl ..).mpr (dM.iX ((hf _ _ (vD fR f7 fl) ..).mp k) λv p s k=>?_);exact dM.lE (m:=ym env x v) (p:=hZ) k λ_ p s k=>⟨rfl,k.2⟩
  show dM _ b6 (((isTrue (.Compare a [rA] [b] hT) env (k7 (.Compare a [rA] [b] hT) env)).bind _).bind _) _ p s;refine (hf ..).mpr ((FX aX ds aU (bg f7 s k) (cS f7) (dC▸p1 aX ds) (dI f7) p).seq λt p s k=>?_);have b7:=(hf ..).mp (gl f7 t s k b6 p aX ds);rcases t with _ | _
  all_goals
   refine dM.iX b7 λu p s k=>?_;have k:=(hf ..).mp k;rcases u with _ | _
   all_goals exact dM.iX k λfl p s k=>tail fl p s k
 ·obtain ⟨e,k⟩:=k
  subst e;refine H (I5 ..) ?_;exact gf p s k
end
end
end
end
section
open PySem PySem.W PySem.W.X PyProof.Rows
section
variable {w:aG}
theorem rB {id:kv}{args:mH}{b mP:bW}{ap:aK ag}(e:∀ F n t,tD 0 ap F 100 (.bd [] [0] 0 (.ret (.ok (.ret (.bool b)))) [] :bb w) [] n t (.builtin id args)=sR F (.bd [] [0] 0 (.ret (.ok (.ret (.bool b)))) [] :bb w) [] 0 n)(aQ:b=mP) :
  b0 w 0 (.builtin id args) ap [] (λ_=>.ok (.ret (.bool mP))) (λ_=>[]) (λ_=>[]) (λ_=>bZ):=by
 subst aQ;exact FF 100 (λ_ _=>.bd [] [0] 0 (.ret (.ok (.ret (.bool b)))) []) e λn t a c=>⟨ca a c [],rfl,rfl,rfl,rfl,rfl,trivial⟩
noncomputable def BZ (w:aG)(x as:ai)(t u:y)(b:bW)(ap:aK ag)(h:decide (x > as)=b) :cV w:=
 ⟨0,.builtin "int.__gt__" ⟨[.int x t,.int as u],[]⟩,ap,[],λ_=>.ok (.ret (.bool b)),λ_=>[],λ_=>[],λ_=>bZ,rB (b:=decide (x > as)) (λ_ _ _=>by kernel_rfl) h⟩
noncomputable def lD (w:aG)(x as:ai)(t u:y)(b:bW)(ap:aK ag)(h:decide (x<as)=b) :cV w:=
 ⟨0,.builtin "int.__lt__" ⟨[.int x t,.int as u],[]⟩,ap,[],λ_=>.ok (.ret (.bool b)),λ_=>[],λ_=>[],λ_=>bZ,rB (b:=decide (x<as)) (λ_ _ _=>by kernel_rfl) h⟩
noncomputable def BY (w:aG)(x as:ai)(t u:y)(b:bW)(ap:aK ag)(h:decide (x >= as)=b) :cV w:=
 ⟨0,.builtin "int.__ge__" ⟨[.int x t,.int as u],[]⟩,ap,[],λ_=>.ok (.ret (.bool b)),λ_=>[],λ_=>[],λ_=>bZ,rB (b:=decide (x >= as)) (λ_ _ _=>by kernel_rfl) h⟩
noncomputable def ov (w:aG)(x as:ai)(t u:y)(b:bW)(ap:aK ag)(h:(x==as)=b) :cV w:=
 ⟨0,.builtin "int.__eq__" ⟨[.int x t,.int as u],[]⟩,ap,[],λ_=>.ok (.ret (.bool b)),λ_=>[],λ_=>[],λ_=>bZ,rB (b:=(x==as)) (λ_ _ _=>by kernel_rfl) h⟩
noncomputable def vE (w:aG)(x as:ai)(t u:y)(b:bW)(ap:aK ag)(h:(x != as)=b) :cV w:=
 ⟨0,.builtin "int.__ne__" ⟨[.int x t,.int as u],[]⟩,ap,[],λ_=>.ok (.ret (.bool b)),λ_=>[],λ_=>[],λ_=>bZ,rB (b:=(x != as)) (λ_ _ _=>by kernel_rfl) h⟩
noncomputable def f4 (x as:a6) :bW:=decide (x.cps.toList<as.cps.toList)
noncomputable def yv (w:aG)(x as:a6)(t u:y)(b:bW)(ap:aK ag)(h:f4 x as=b) :cV w:=
 ⟨0,.builtin "str.__lt__" ⟨[.str x t,.str as u],[]⟩,ap,[],λ_=>.ok (.ret (.bool b)),λ_=>[],λ_=>[],λ_=>bZ,rB (b:=f4 x as) (λ_ _ _=>by kernel_rfl) h⟩
noncomputable def iO (w:aG)(x as:a6)(t u:y)(b:bW)(ap:aK ag)(h:(x.cps.toList==as.cps.toList)=b) :cV w:=
 ⟨0,.builtin "str.__eq__" ⟨[.str x t,.str as u],[]⟩,ap,[],λ_=>.ok (.ret (.bool b)),λ_=>[],λ_=>[],λ_=>bZ,rB (b:=(x.cps.toList==as.cps.toList)) (λ_ _ _=>by kernel_rfl) h⟩
theorem aee {x:ai}{t u:y}{ap:aK ag}(bG:0<=x) :b0 w 0 (.builtin "int.__rshift__" ⟨[.int x t,.int 1 u],[]⟩) ap [] (λas=>.ok (.ret (.int (x / 2) (as 2)))) (λ_=>[]) (λ_=>[]) (λ_=>bZ):=by
 refine nj (v:=λbe=>.int (x / 2) be) λA s aS has=>?_;refine h5 PySem.entry_int_rshift λei Q E gG dh dC iB=>?_;show wpAny _ _ (if (1:ai) >= (PN x:ai) then _ else _) _ _ s;by_cases aQ:(1:ai) >= (PN x:ai)
 ·rw [d1 aQ]
  have e:(if x<0 then (-1:ai) else 0)=x / 2:=by exact H (dt (Int.not_lt.mpr bG) ..) (H (half_of_few_bits bG aQ ..) rfl)
  refine bE (wpAny_rule ?_);show wpAny _ _ ((do ret (<- mkInt (if x<0 then (-1:ai) else 0))) >>= _) _ _ s;refine H e ?_;exact bE (bE (p4 (wpAny_pure (wpAny_pure (dh _ _ ⟨_,rfl,rfl,rfl,rfl⟩)))))
 ·refine H (dt aQ ..) ?_
  show wpAny _ _ (do ret (<- mkInt (x.fdiv (2 ^ (1:ai).toNat)))) _ _ s;refine H (fdiv_two ..) ?_;exact bE (p4 (wpAny_pure (dh _ _ ⟨_,rfl,rfl,rfl,rfl⟩)))
noncomputable def HW (w:aG)(x:ai)(t u:y)(ap:aK ag)(bG:0<=x) :cV w:=
 ⟨0,.builtin "int.__rshift__" ⟨[.int x t,.int 1 u],[]⟩,ap,[],λas=>.ok (.ret (.int (x / 2) (as 2))),λ_=>[],λ_=>[],λ_=>bZ,aee bG⟩
noncomputable def CY (f:kv->bW)(fe fI hE hF:bW)(r:kv) :bW:=match sZ r "special-get-raises" with
 | .isTrue _=>fe
 | .isFalse _=>match sZ r "comprehension-iter-twice" with
  | .isTrue _=>fI
  | .isFalse _=>match sZ r "for-iterable-display-folded" with
   | .isTrue _=>hE
   | .isFalse _=>match sZ r "set-order" with
    | .isTrue _=>hF
    | .isFalse _=>f r
noncomputable def u4 (w:aG)(fe fI hE hF:bW) :aG:={w with params:={w.params with followText:=CY w.params.followText fe fI hE hF}}
theorem Wy (f:kv->bW) :CY f (f "special-get-raises") (f "comprehension-iter-twice") (f "for-iterable-display-folded") (f "set-order")=f:=by
 funext r;unfold CY;split
 ·rename_i h _;rw [h]
 ·split
  ·rename_i h _;rw [h]
  ·split
   ·rename_i h _;rw [h]
   ·split
    ·rename_i h _;exact H h rfl
    ·rfl
theorem nk {E:aG->Prop}(h:∀ w fe fI hE hF,E (u4 w fe fI hE hF))(w:aG) :E w:=by have:=h w (w.params.followText "special-get-raises") (w.params.followText "comprehension-iter-twice") (w.params.followText "for-iterable-display-folded") (w.params.followText "set-order");unfold u4 at this;rw [Wy] at this;exact this
theorem ac1 {E:aG->Prop}(bG:∀ w fI hE hF,E (u4 w false fI hE hF))(az:∀ w fI hE hF,E (u4 w true fI hE hF)) :∀ w,E w:=nk λw fe fI hE hF=>p8 (bG w fI hE hF) (az w fI hE hF) fe
theorem cX {E:aG->Prop}(bG:∀ w fI hE hF,E (u4 w false fI hE hF):=by intro _ _ _ _ F n t;kernel_rfl)(az:∀ w fI hE hF,E (u4 w true fI hE hF):=by intro _ _ _ _ F n t;kernel_rfl) :∀ w,E w:=ac1 bG az
noncomputable def sG (o:aK c5) :cT×B c5×B c5:=(kP o 0,q2 o 0,q2 o 1)
noncomputable def pu (o:aK c5) :cT×cT×B c5×B c5:=(kP o 0,kP o 1,q2 o 0,q2 o 1)
noncomputable def mT (d:p9)(qual:a6)(f c G:aM) :cE:=
 {scope:=d.2.2,locals:=G,globals:=3,cells:=[],qual:=qual++".<locals>.",func:=some f,code:=.ref c,frame:=some G,builtins:=0}
noncomputable abbrev eM (aC:B f8)(K:y) :ao:={cls:=.type "frame",data:=.dict ⟨aC⟩ K}
end
section
variable {w:aG}
noncomputable def b2 (w:aG)(bj:y)(ap:aK ag)(pre:B (aM×ao))(code:cn)(bI:y->y->bb w) :Prop:=
 ∀ F n t,tD bj ap F 100000 (bI n t) pre n t code=sR F (bI n t) (pre.map (·.1)) pre.length n
theorem mf {bj:y}{ap:aK ag}{code:cn}{pre:B (aM×ao)}{bB:(y->y)->cD}{cB:(y->y)->B ao}{bV:(y->y)->B (aM×ao)}{cond:(y->y)->Prop}{bI:y->y->bb w}
  (e:b2 w bj ap pre code bI)(left:∀ n t,mK (GI pre bB cB bV cond) (bI n t) (pre.map (·.1)) pre.length n) :b0 w bj code ap pre bB cB bV cond:=FF 100000 bI e left
theorem eb.moves {dg:aK (B cE)}{bj:y}{A:c9}{ap:aK ag}{s an:aR}{aB:B aM}(h:eb w dg bj A ap s)(k:fy s an aB)(aI:∀ a∈aB,935<=a∨a=894) :eb w dg bj A ap an:=
 ⟨h.depth,h.units,h.handled,n4 h.it λa o cR vS=>k.eO a o vS λaU=>pX cR (aI a aU) rfl,gh h.size k.size,h.frames⟩
noncomputable def GJ (w:aG)(bj:y)(c:cn)(ap:aK ag)(aB:B aM)(bB:(y->y)->cD)(cB:(y->y)->B ao)(bV:(y->y)->B (aM×ao))(cond:(y->y)->Prop)(dw:gP)(du:B (aM×ao)) :Prop:=
 dw= .dr c/\du.map (·.1)=aB/\b0 w bj c ap du bB cB bV cond
theorem adR {bj:y}{ap:aK ag}{code:cn}{pre:B (aM×ao)}{bB:(y->y)->cD}{cB:(y->y)->B ao}{bV:(y->y)->B (aM×ao)}{cond:(y->y)->Prop}(iQ:y)(bI:y->y->bb w)
  (e:∀ F n t,tD bj ap F iQ (bI n t) pre n t code=sR F (bI n t) (pre.map (·.1)) pre.length n)
  (left:∀ n t,mK (GJ w bj code ap (pre.map (·.1)) bB cB bV cond) (bI n t) (pre.map (·.1)) pre.length n) :b0 w bj code ap pre bB cB bV cond:=λA s aS has bU=>by
 refine xD iQ (bI s.heap.objs.size s.toks) aS has bU (e _ _ _) (left _ _) ?_;rintro dw du eo ⟨rfl,aU,bO⟩ b1 aV;show codeAny _ _ _ _ _;have bO:=bO A eo (aS.moves aV bU.free) b1.has (by refine H aU ?_;exact bU);refine gR bO ?_;rintro r an ⟨x,rfl,aX,bG,az,a7⟩;rw [aU] at a7;refine ⟨x,rfl,aX,bG,az,⟨a7.len,a7.has,a7.bV,a7.e8,λp L=>gh aV.size (a7.fresh p L),aV.trans a7.eD λb aQ=>.inl aQ⟩⟩
theorem VG {bj:y}{ap:aK ag}{code:cn}{pre:B (aM×ao)}{bB:(y->y)->cD}{cB:(y->y)->B ao}{bV:(y->y)->B (aM×ao)}{cond:(y->y)->Prop}{bI:y->y->bb w}
  (e:b2 w bj ap pre code bI)(left:∀ n t,mK (GJ w bj code ap (pre.map (·.1)) bB cB bV cond) (bI n t) (pre.map (·.1)) pre.length n) :b0 w bj code ap pre bB cB bV cond:=adR 100000 bI e left
end
end
section
open PySem PySem.W PySem.W.X PySem.Calls PyProof.Rows
section
variable {w:aG}
noncomputable def ko (S:B bN)(cL:B y) :B bN:=cL.map λi=>S.getD i []
noncomputable def oY (n:y)(S:B bN)(cL:B y) :B bN:=ko S ((lA n).filter λi=>!lT i cL)
noncomputable def nc (cL:B y)(n:y) :bW:=t4 cL&&cL.all λi=>kZ i n
theorem aea (S:B bN) :ko S (lA S.length)=S:=by
 refine List.ext_getElem? λi=>?_;unfold ko;refine H (mL ..) ?_;by_cases h:i<S.length
 ·refine H (Qf h ..) (H (nr h ..) (H (Option.map_some ..) (H (jw ..) (H (nr h ..) ?_))))
  rfl
 ·refine H (Qd (j9.mp h) ..) (H (Qd (by rw [List.length_range];exact j9.mp h) ..) ?_)
  rfl
theorem wM {S:B bN}{cL:B y}(h:nc cL S.length=true) :S.Perm (ko S cL++oY S.length S cL):=by
 obtain ⟨az,aJ⟩:=l1.mp h;have aw:=zO az;have L:(lA S.length).Perm (cL++(lA S.length).filter λi=>!lT i cL):=by
  refine (x6 G6 (fA.mpr ⟨aw,G6.sublist x2,λa bY b aQ e=>?_⟩)).mpr λa=>?_
  ·have:=(mN.mp aQ).2
   rw [<- e,sa.mpr bY] at this;injection this
  ·rw [dU,mN]
   constructor
   ·intro k
    induction e:lT a cL with
    | true=>exact .inl (sa.mp e)
    | false=>exact .inr ⟨k,rfl⟩
   ·rintro (k | k)
    ·exact G4.mpr (ro (x1.mp aJ a k))
    ·exact k.1
 have:=L.map λi=>S.getD i [];rw [c0] at this;have e:(lA S.length).map (λi=>S.getD i [])=S:=aea S;rw [e] at this;exact this
noncomputable abbrev hR:=y->y->y
noncomputable def xE:bb w->B y->y->y->B bN->hR->gP×B (aM×ao)
 | .bd _ _ _ dw du=>λaB len n af _=>(dw,wQ (du.map λp=>(ga aB len n p.1,p.2)) af)
 | .ax _ _ m dL _ aW=>λaB len n af X=>xE (aW (X 0)) (ll aB n m (dL.bV (X 0))) (len+m+(dL.bV (X 0)).length) (X 0 0) af λk=>X (k+1)
 | .fF _ _ m dL _ hg aW=>λaB len n af X=>xE (aW (X 0)) (ll aB n m (dL.bV (X 0))) (len+m+(dL.bV (X 0)).length) (X 0 0) (mA af hg++dL.gr (X 0)) λk=>X (k+1)
theorem pP {F:gP->B (aM×ao)->Prop} :∀ (bI:bb w) (aB:B y) (len n:y) (af:B bN),(∀ X,F (xE bI aB len n af X).1 (xE bI aB len n af X).2)->l3 F bI aB len n af
 | .bd ..,_,_,_,_,h=>h λ_ _=>0
 | .ax _ _ _ _ _ aW,_,_,_,_,h=>λx _=>pP (aW x) _ _ _ _ λX=>h λk=>match k with | 0=>x | k+1=>X k
 | .fF _ _ _ _ _ _ aW,_,_,_,_,h=>λx _=>pP (aW x) _ _ _ _ λX=>h λk=>match k with | 0=>x | k+1=>X k
noncomputable abbrev nW (pre:B (aM×ao))(af:B bN)(bI:y->y->bb w)(n t:y)(X:hR) :gP×B (aM×ao):=xE (bI n t) (pre.map (·.1)) pre.length n af X
section
variable {dg:aK (B cE)}{bj:y}{ap:aK ag}{code:cn}{pre:B (aM×ao)}{fN:B bN}{bB:(y->y)->cD}{cB:(y->y)->B ao}{bV:(y->y)->B (aM×ao)}{gr:(y->y)->B bN}{cond:(y->y)->Prop}{bI:y->y->bb w}
theorem dy (e:b2 w bj ap pre code bI)(Y:y->y->hR->y->y->y->y)
  (left:∀ n t X a b,nW pre [] bI n t X=(.ret (bB (Y n t X a b)),(pre.map (·.1)).zip (cB (Y n t X a b))++bV (Y n t X a b))/\(Y n t X a b 0,Y n t X a b 1,(cB (Y n t X a b)).length)=(a,b,pre.length)/\cond (Y n t X a b)) :b0 w bj code ap pre bB cB bV cond:=
 mf e λn t=>pP _ _ _ _ _ λX a b=>by obtain ⟨az,aJ,bg⟩:=left n t X a b;obtain ⟨a5,bt⟩:=je az;obtain ⟨cd,nF⟩:=je aJ;obtain ⟨nF,rI⟩:=je nF;exact ⟨_,cd,nF,a5,bt,rI,bg⟩
theorem yL (e:j8 w dg bj ap pre fN code bI)(Y:y->y->hR->y->y->y->y)
  (left:∀ n t X a b,nW pre fN bI n t X=(.ret (bB (Y n t X a b)),(pre.map (·.1)).zip (cB (Y n t X a b))++(bV (Y n t X a b)++(gr (Y n t X a b)).flatten))/\(Y n t X a b 0,Y n t X a b 1,(cB (Y n t X a b)).length)=(a,b,pre.length)/\cond (Y n t X a b)) :ec w dg bj code ap pre fN bB cB bV gr cond:=
 Cw e λn t=>pP _ _ _ _ _ λX a b=>by obtain ⟨az,aJ,bg⟩:=left n t X a b;obtain ⟨a5,bt⟩:=je az;obtain ⟨cd,nF⟩:=je aJ;obtain ⟨nF,rI⟩:=je nF;exact ⟨_,cd,nF,a5,bt,rI,bg⟩
theorem i7 (e:b2 w bj ap pre code bI){kI:y->y->hR->B (aM×ao)}(left:∀ n t X,(nW pre [] bI n t X,(kI n t X).map (·.1))=((.dr code,kI n t X),pre.map (·.1)))
  (bO:∀ n t X,b0 w bj code ap (kI n t X) bB cB bV cond) :b0 w bj code ap pre bB cB bV cond:=
 VG e λn t=>pP _ _ _ _ _ λX=>by obtain ⟨az,aJ⟩:=je (left n t X);obtain ⟨a5,bt⟩:=je az;exact ⟨a5,bt▸aJ,bt▸bO n t X⟩
end
theorem b0.Ai {bj:y}{code:cn}{ap:aK ag}{pre:B (aM×ao)}{bB ni:(y->y)->cD}{cB hu:(y->y)->B ao}{bV nb:(y->y)->B (aM×ao)}{cond mQ:(y->y)->Prop}
  (h:b0 w bj code ap pre bB cB bV cond)(Y:(y->y)->y->y)(e:∀ u,(bB u,cB u,bV u,u 0,u 1)=(ni (Y u),hu (Y u),nb (Y u),Y u 0,Y u 1))(aX:∀ u,cond u->mQ (Y u)) :b0 w bj code ap pre ni hu nb mQ:=λA s aS has bU=>by
 refine gR (h A s aS has bU) ?_;rintro r an ⟨u,rfl,c,bG,az,a7⟩;have e:=e u;simp only [Prod.mk.injEq] at e;obtain ⟨a5,bt,cd,nF,rI⟩:=e;exact ⟨Y u,a5,aX u c,bG.trans nF,az.trans rI,by refine df bt (df cd ?_);exact a7⟩
theorem b0.sw {bj:y}{code:cn}{ap:aK ag}{pre:B (aM×ao)}{bB ni:(y->y)->cD}{cB hu:(y->y)->B ao}{bV nb:(y->y)->B (aM×ao)}{cond mQ:(y->y)->Prop}
  (h:b0 w bj code ap pre bB cB bV cond)(f:(y->y)->B y)(e:∀ u,(bB u,cB u,bV u)=(ni (ca (u 0) (u 1) (f u)),hu (ca (u 0) (u 1) (f u)),nb (ca (u 0) (u 1) (f u))))(aX:∀ u,cond u->mQ (ca (u 0) (u 1) (f u))) :b0 w bj code ap pre ni hu nb mQ:=
 h.Ai (λu=>ca (u 0) (u 1) (f u)) (λu=>by obtain ⟨a5,bt⟩:=je (e u);obtain ⟨cd,nF⟩:=je bt;refine H a5 (H cd (H nF ?_));rfl) aX
structure bz (b:aR)(aB:B aM)(s:aR)(S:B bN) :Prop where
 has:dX s.heap S.flatten
 bU:ie (S.flatten.map (·.1))
 ln:∀ a∈S.flatten.map (·.1),a∈aB∨b.heap.objs.size<=a
 eD:fy b s aB
 G:∀ a∈aB,935<=a∨a=894
section
variable {b s an:aR}{aB:B aM}{S dc:B bN}
theorem bz.start (has:dX s.heap S.flatten)(bU:ie (S.flatten.map (·.1))) :bz s (S.flatten.map (·.1)) s S:=⟨has,bU,λ_ h=>.inl h,fy.refl s _,bU.free⟩
theorem bz.cast (o:bz b aB s S)(e:dc.flatten=S.flatten) :bz b aB s dc:=⟨e▸o.has,e▸o.bU,e▸o.ln,o.eD,o.G⟩
theorem bz.q9 (o:bz b aB s S){l:B (aM×ao)}(h:S.flatten.Perm (dc.flatten++l)) :bz b aB s dc:=by
 have aU:∀ p∈dc.flatten,p∈S.flatten:=λp L=>h.mem_iff.mpr (eS _ L);have bY:∀ a∈dc.flatten.map (·.1),a∈S.flatten.map (·.1):=λa k=>by obtain ⟨p,L,rfl⟩:=fC.mp k;exact ep (aU p L)
 have aw:=(h.map (·.1)).nodup_iff.mp o.bU.e8;rw [c0] at aw;exact ⟨λp L=>o.has p (aU p L),⟨(fA.mp aw).1,λa k=>o.bU.free a (bY a k)⟩,λa k=>o.ln a (bY a k),o.eD,o.G⟩
theorem bz.kn (o:bz b aB s S)(cL:B y)(h:nc cL S.length=true) :bz b aB s (ko S cL):=o.q9 (l:=(oY S.length S cL).flatten) (by refine df (kY ..) ?_;exact (wM h).flatten)
theorem bz.eQ (o:bz b aB s S)(cL:B y)(h:nc cL S.length=true)(e:ko S cL=dc) :bz b aB s dc:=e▸o.kn cL h
theorem bz.open {p:aM×ao}{af:bN}(o:bz b aB s (af::S))(h:p∈af) :∃ R,bz b aB s ([p]::R::S)/\∀ an Y,bz b aB an ([p]::R::Y)->bz b aB an (af::Y):=by
 obtain ⟨u,v,rfl⟩:=GP h;have L:(u++p::v).Perm ([p]++(u++v)):=vn;have ib:∀ Y:B bN,((u++p::v)::Y).flatten.Perm (([p]::(u++v)::Y).flatten++[]):=λY=>by refine H (d9 ..) ?_;show ((u++p::v)++Y.flatten).Perm ([p]++((u++v)++Y.flatten));refine df (f9 ..) ?_;exact L.append_right _
 refine ⟨u++v,o.q9 (ib S),λan Y k=>k.q9 (l:=[]) ?_⟩;have:=ib Y;rw [d9] at this ⊢;exact this.symm
theorem bz.at {dg:aK (B cE)}{bj:y}{A:c9}{ap:aK ag}(o:bz b aB s S)(aS:eb w dg bj A ap b) :eb w dg bj A ap s:=aS.moves o.eD o.G
theorem bz.lt (o:bz b aB s S){a:y}(h:a∈S.flatten.map (·.1)) :a<s.heap.objs.size:=by obtain ⟨p,L,rfl⟩:=fC.mp h;exact hC (o.has p L)
theorem bz.s7 (o:bz b aB s S)(i:y){af:bN}(e:S.getD i []=af) :dX s.heap af:=λp L=>by
 subst e;rw [jw] at L
 induction h:S[i]? with
 | none=>rw [h] at L;exact (c4 L).elim
 | some af=>rw [h] at L;exact o.has p (Bb.mpr ⟨af,x4 h,L⟩)
theorem bz.get (o:bz b aB s S)(i:y){a:aM}{x:ao}(e:S.getD i []=[(a,x)]) :s.heap.get? a=some x:=o.s7 i e (a,x) (cY ..)
theorem bz.n2 (o:bz b aB s S)(i j:y)(h:nc [i,j] S.length=true){af C:bN}(e:S.getD i []=af)(ev:S.getD j []=C) :∀ p∈af,∀ q∈C,p.1≠q.1:=λp L q a4=>by
 have aw:=(o.kn [i,j] h).bU.e8;have bt:(ko S [i,j]).flatten=af++C:=by show (S.getD i []++(S.getD j []++[]))=_;exact H e (H ev (H (d9 ..) rfl))
 rw [bt,c0] at aw;exact (fA.mp aw).2.2 _ (ep L) _ (ep a4)
theorem bz.frame {l du:B (aM×ao)}{R:B bN}(o:bz b aB s S)(L:S.flatten.Perm (l++R.flatten))(b1:nu s (l.map (·.1)) an du)(aV:fy s an (l.map (·.1)))(pz:935<=s.heap.objs.size) :bz b aB an (du::R):=by
 have aw:=(L.map (·.1)).nodup_iff.mp o.bU.e8;rw [c0] at aw;obtain ⟨iV,ce,iF⟩:=fA.mp aw;have dY:∀ a,a∈l.map (·.1)∨a∈R.flatten.map (·.1)->a∈S.flatten.map (·.1):=λa k=>(L.map (·.1)).mem_iff.mpr (by rw [c0];exact dU.mpr k);have Dv:∀ a∈du.map (·.1),a∈l.map (·.1)∨s.heap.objs.size<=a:=λa k=>by obtain ⟨p,L,rfl⟩:=fC.mp k;exact b1.fresh p L
 have aU:((du::R).flatten.map (·.1))=du.map (·.1)++R.flatten.map (·.1):=by exact H (fz ..) (H (c0 ..) rfl)
 refine ⟨λp k=>?_,⟨?_,λa k=>?_⟩,λa k=>?_,o.eD.trans aV λa k=>o.ln a (dY a (.inl k)),o.G⟩
 ·rw [fz] at k
  rcases dU.mp k with k | k
  ·exact b1.has p k
  ·exact aV.eO _ _ (o.has p (L.mem_iff.mpr (eJ _ k))) λaq=>iF _ aq _ (ep k) rfl
 ·refine H aU ?_
  refine fA.mpr ⟨b1.e8,ce,λa bY c aX e=>?_⟩;subst e;rcases Dv a bY with k | k
  ·exact iF a k a aX rfl
  ·exact absurd (o.lt (dY a (.inr aX))) (j9.mpr k)
 ·rw [aU] at k
  rcases dU.mp k with k | k
  ·rcases Dv a k with aq | aq
   ·exact o.bU.free a (dY a (.inl aq))
   ·exact .inl (gh pz aq)
  ·exact o.bU.free a (dY a (.inr k))
 ·rw [aU] at k
  rcases dU.mp k with k | k
  ·rcases Dv a k with aq | aq
   ·exact o.ln a (dY a (.inl aq))
   ·exact .inr (gh o.eD.size aq)
  ·exact o.ln a (dY a (.inr k))
theorem bz.fL {dg:aK (B cE)}{bj:y}{bG:aK ag}{A:c9}{l:B (aM×ao)}{af R:B bN}{c:cn}{d3:e5 h3}{bI:y->y->bb w}{f:y->y->hR->kt}{cv:y->y->hR->B bN}{ac:cD->aR->Prop}{E:ag->aR->Prop}
  (o:bz b aB s S)(cL:B y)(hs:nc cL S.length=true/\(ko S cL).flatten=l++af.flatten/\oY S.length S cL=R)(aS:eb w dg bj A bG b)
  (e:eu w dg bj bG l af c d3 bI)(left:∀ n t X,nW l af bI n t X=(.ret (.ok (f n t X)),(cv n t X).flatten))
  (bJ:∀ n t X an,bz b aB an (cv n t X++R)->ac (.ok (f n t X)) an) :wpOwn (model aL w) A c d3 (postC aL w A ac) E s:=by
 obtain ⟨qC,al,a9⟩:=hs;have L:S.flatten.Perm ((l++af.flatten)++R.flatten):=by rw [<- al,<- a9,<- kY];exact (wM qC).flatten
 have wc:=o.at aS;have cI:bz b aB s [l++af.flatten]:=o.q9 (l:=R.flatten) (by rw [fz,h2,d9];exact L);have a5:([l++af.flatten] :B bN).flatten=l++af.flatten:=by rw [fz,h2,d9]
 have az:=cI.has;have fB:=cI.bU;rw [a5] at az fB;refine wpOwn_mono (Os (R:=λr an=>∃ f,r= .ok f/\ac (.ok f) an) (F:=λdw du=>∃ n t X,(dw,du)=(.ret (.ok (f n t X)),(cv n t X).flatten)) 100000 (bI s.heap.objs.size s.toks) wc az fB (e _ _ _) (pP _ _ _ _ _ λX=>⟨_,_,X,left s.heap.objs.size s.toks X⟩) ?_) (λa an h=>?_) (λe an h=>?_)
 ·rintro dw du an ⟨n,t,X,he⟩ b1 aV
  obtain ⟨rfl,rfl⟩:=je he;exact ⟨f n t X,rfl,bJ n t X an ((o.frame L b1 aV wc.size).cast (by exact H (kY ..) (H (fz ..) rfl)))⟩
 ·induction a with
  | done f=>
   obtain ⟨ji,a5,h⟩:=h
   (injection a5 with d8;subst d8)
   exact h
  | again ff=>exact ⟨h.1,gR h.2 λr s h=>by obtain ⟨f,rfl,h⟩:=h;exact h⟩
 ·obtain ⟨_,a5,_⟩:=h
  injection a5
theorem bz.ny {aB fm:B aM}{d7:B ao}{ns:B (aM×ao)}{g2:B bN}(o:bz s (aB++fm) an S)(al:d7.length=aB.length)(e:S.flatten=aB.zip d7++(ns++g2.flatten)) :jI s an aB fm d7 ns g2:=by
 have az:=o.has;have aJ:=o.bU.e8;have bg:=o.ln;rw [e] at az aJ bg;refine ⟨al,az,aJ,λp L=>?_,o.eD⟩;rw [c0,pI al] at aJ bg;have aU:p.1∈(ns++g2.flatten).map (·.1):=ep L;rcases bg p.1 (eJ _ aU) with k | k
 ·rcases dU.mp k with k | k
  ·exact absurd rfl ((fA.mp aJ).2.2 _ k _ aU)
  ·exact .inl k
 ·exact .inr k
end
end
section
variable {w:aG}
section
variable {b s an:aR}{aB:B aM}{S dc:B bN}{dg:aK (B cE)}{bj:y}{bG:aK ag}{A:c9}{l:B (aM×ao)}{af R:B bN}{c:cn}{bI:y->y->bb w}{cv:y->y->hR->B bN}{ac:cD->aR->Prop}
theorem bz.code {dw:y->y->hR->gP}(o:bz b aB s S)(cL:B y)(hs:nc cL S.length=true/\(ko S cL).flatten=l++af.flatten/\oY S.length S cL=R)(aS:eb w dg bj A bG b)
  (e:j8 w dg bj bG l af c bI)(left:∀ n t X,nW l af bI n t X=(dw n t X,(cv n t X).flatten))
  (bJ:∀ n t X an,bz b aB an (cv n t X++R)->qc w A ac an (dw n t X)) :codeAny (model aL w) A c ac s:=by
 obtain ⟨qC,al,a9⟩:=hs;have L:S.flatten.Perm ((l++af.flatten)++R.flatten):=by rw [<- al,<- a9,<- kY];exact (wM qC).flatten
 have wc:=o.at aS;have cI:bz b aB s [l++af.flatten]:=o.q9 (l:=R.flatten) (by rw [fz,h2,d9];exact L);have a5:([l++af.flatten] :B bN).flatten=l++af.flatten:=by rw [fz,h2,d9]
 have az:=cI.has;have fB:=cI.bU;rw [a5] at az fB;refine Ao (F:=λKX du=>∃ n t X,(KX,du)=(dw n t X,(cv n t X).flatten)) 100000 (bI s.heap.objs.size s.toks) wc az fB (e _ _ _) (pP _ _ _ _ _ λX=>⟨_,_,X,left s.heap.objs.size s.toks X⟩) ?_;rintro KX du an ⟨n,t,X,he⟩ b1 aV;obtain ⟨rfl,rfl⟩:=je he;exact bJ n t X an ((o.frame L b1 aV wc.size).cast (by exact H (kY ..) (H (fz ..) rfl)))
theorem bz.sv {d3:e5 h3}{f:y->y->hR->kt}{N:y->y->hR->B bN}{E:ag->aR->Prop}(o:bz b aB s S)(cL:B y)(hs:nc cL S.length=true/\(ko S cL).flatten=l)(aS:eb w dg bj A bG b)
  (e:eu w dg bj bG l [] c d3 bI)(left:∀ n t X,nW l [] bI n t X=(.ret (.ok (f n t X)),l++(N n t X).flatten))
  (bJ:∀ n t X an,bz b aB an (N n t X++S)->ac (.ok (f n t X)) an) :wpOwn (model aL w) A c d3 (postC aL w A ac) E s:=by
 obtain ⟨qC,al⟩:=hs;refine o.fL cL (R:=oY S.length S cL) ⟨qC,by rw [al,h2,d9],rfl⟩ aS e (cv:=λn t X=>l::N n t X) (λn t X=>by rw [left,fz]) λn t X an o'=>bJ n t X an (o'.q9 (l:=[]) ?_);refine H (d9 ..) (H (kY ..) (H (kY ..) (H (fz ..) (df al ?_))));have p:=(wM qC).flatten;rw [kY] at p;have dV:((ko S cL).flatten++(N n t X).flatten++(oY S.length S cL).flatten).Perm ((N n t X).flatten++((ko S cL).flatten++(oY S.length S cL).flatten)):=by refine df (f9 ..) ?_;exact x5.append_right _
 exact dV.trans (p.symm.append_left _)
end
theorem bz.Q8 {s:aR}{S:B bN}{pre:B (aM×ao)}(e:S.flatten=pre)(has:dX s.heap pre)(bU:ie (pre.map (·.1))) :bz s (pre.map (·.1)) s S:=by subst e;exact bz.start has bU
theorem bz.pj {s:aR}{S:B bN}{pre:B (aM×ao)}{ik:B bN}(e:S.flatten=pre++ik.flatten)(has:dX s.heap (pre++ik.flatten))(bU:ie ((pre++ik.flatten).map (·.1))) :bz s (pre.map (·.1)++ik.flatten.map (·.1)) s S:=by refine df (c0 ..) (df e ?_);rw [<- e] at has bU;exact bz.start has bU
theorem bz.uX {b s:aR}{aB:B aM}{S T Y:B bN}(o:bz b aB s (S++Y))(h:S.flatten.Perm T.flatten) :bz b aB s (T++Y):=
 o.q9 (l:=[]) (by refine H (d9 ..) (H (kY ..) (H (kY ..) ?_));exact h.append_right _)
theorem bz.yk {s an:aR}{S:B bN}{aB:B aM}{d7:B ao}{ns:B (aM×ao)}(o:bz s aB an S)(al:d7.length=aB.length)(e:S.flatten=aB.zip d7++ns) :oe s an aB d7 ns:=by have aq:=bz.ny (aB:=aB) (fm:=[]) (d7:=d7) (ns:=ns) (g2:=[]) (S:=S) (by refine H (d9 ..) ?_;exact o) al (by refine H (h2 ..) (H (d9 ..) ?_);exact e);obtain ⟨af0,Gp,Gq,PG,PH⟩:=aq;rw [h2,d9] at Gp Gq PG;rw [d9] at PH;rw [c0] at Gq;exact ⟨af0,λp k=>Gp p (eS _ k),λp k=>Gp p (eJ _ k),(fA.mp Gq).2.1,λp k=>(PG p k).elim (λh=>absurd h c4) id,PH⟩
theorem bz.cB {b s:aR}{aB:B aM}{R:B bN}{a:aM}{x as:ao}(o:bz b aB s ([(a,x)]::R))(f:ao->ao)(h:(s.heap.update a f).get? a=some as)(pz:935<=s.heap.objs.size) :bz b aB {s with heap:=s.heap.update a f} ([(a,as)]::R):=by
 have u:=hQ s.heap a f;exact o.frame (l:=[(a,x)]) (.refl _) ⟨λp k=>by refine H (dN.mp k ..) ?_;exact h,gy.mpr ⟨c4,mO⟩,λp k=>.inl (by refine H (dN.mp k ..) ?_;exact dN.mpr rfl)⟩
  ⟨λc gd e bK=>(u.2 c λe=>bK (dN.mpr e)).trans e,by show _<=(s.heap.update a f).objs.size;refine H u.1 ?_;exact fk _,rfl,[],rfl,λ_ h=>(c4 h).elim⟩ pz
end
end
section
open PySem PySem.W PySem.W.X PyProof.Rows
noncomputable abbrev c1 (p:a6×y) :ag:=.str p.1 p.2
noncomputable abbrev dA (O:B (a6×y))(K:y) :ao:=I (O.map c1) K
noncomputable def FK:=sG (ew 6).2.1[1]?
noncomputable def o0 (G:aM) :cn:=.whileLoop FK.1 FK.2.1 FK.2.2 (mT (ew 6) (U uw) 65 64 G)
noncomputable abbrev sA (P:bp)(a M ab ae ak:y)(p q:ai)(b9 cN:y)(x:a6)(am:y) :ao:=eM [aj P w8 M (.ref a),aj P ET ab (.int p b9),aj P [112,111,115] ae (.int q cN),aj P EU ak (.str x am)] 4
noncomputable abbrev n0 (P:bp)(a M ab ae ak aD a0:y)(p q:ai)(b9 cN:y)(x:a6)(am:y)(jX:ai)(o2:y)(as:a6)(dq:y) :ao:=eM [aj P w8 M (.ref a),aj P ET ab (.int p b9),aj P [112,111,115] ae (.int q cN),aj P EU ak (.str x am),aj P [112,97,114,101,110,116,112,111,115] aD (.int jX o2),aj P [112,97,114,101,110,116] a0 (.str as dq)] 6
section
section
variable (w:aG){a G K M ab ae ak aD a0 b9 cN am dq o2 dj jq gf:y}{l:B ag}{p q jX:ai}{x as aq:a6}
noncomputable def Ow (a G K b9 cN am:y)(az:decide (q > p)=true)(bG:0<=q - 1)(aF:(q - 1) / 2=(jq:ai))(aV:jq<1000000)(c3:l[jq]? =some (.str as dq))(aJ:f4 x as=true)(a4:q=(gf:ai))(wm:gf<1000000)(wl:gf<l.length)(o:(y->y)->(y->y)->ao) :bb w:=
 .ax [2,2] [0,0,2] 0 (BZ w q p cN b9 true none az) [] λah=>.ax [2] [0,0,0,2] 0 (HW w (q - 1) (ah 1+1) (ah 1+2) none bG) [] λaN=>.ax (aY 0x111112222) [0,2] 0 (ka w a K (aN 2) ((q - 1) / 2) jq l (.str as dq) none aF aV c3) [0] λbx=>.ax [2,2,2,2] [0,2] 0 (yv w x as am dq true none aJ) [] λcj=>.ax xe [0,2] 0 (te w a K cN q gf l (.str as dq) none a4 wm wl) [0] λcg=>.bd [2,2,2] [3] 0 (.dr (o0 G)) [(0,I (l.set gf (.str as dq)) K),(1,o aN bx)]
noncomputable def Ox (a K b9 cN am:y)(az:decide (q > p)=true)(bG:0<=q - 1)(aF:(q - 1) / 2=(jq:ai))(aV:jq<1000000)(c3:l[jq]? =some (.str as dq))(aJ:f4 x as=false)(o:(y->y)->(y->y)->ao) :bb w:=
 .ax [2,2] [0,0,2] 0 (BZ w q p cN b9 true none az) [] λah=>.ax [2] [0,0,0,2] 0 (HW w (q - 1) (ah 1+1) (ah 1+2) none bG) [] λaN=>.ax (aY 0x111112222) [0,2] 0 (ka w a K (aN 2) ((q - 1) / 2) jq l (.str as dq) none aF aV c3) [0] λbx=>.ax [2,2,2,2] [0,2] 0 (yv w x as am dq false none aJ) [] λcj=>.bd [] [] 0 (.ret (.ok .next)) [(0,I l K),(1,o aN bx)]
noncomputable def Ou (l:B ag)(K b9 cN:y)(az:decide (q > p)=false)(o:ao) :bb w:=
 .ax [2,2] [0,0,2] 0 (BZ w q p cN b9 false none az) [] λah=>.bd [] [] 0 (.ret (.ok .next)) [(0,I l K),(1,o)]
theorem ad2 (az:decide (q > p)=true)(bG:0<=q - 1)(aF:(q - 1) / 2=(jq:ai))(aV:jq<1000000)(c3:l[jq]? =some (.str as dq))(aJ:f4 x as=true)(a4:q=(gf:ai))(wm:gf<1000000)(wl:gf<l.length) :b2 w 1 none [(a,I l K),(G,sA w.params a M ab ae ak p q b9 cN x am)] (o0 G) λn t=>Ow w a G K b9 cN am az bG aF aV c3 aJ a4 wm wl λaN bx=>n0 w.params a M ab ae ak (aN 1) (bx 1) p ((q - 1) / 2) b9 (aN 2) x am ((q - 1) / 2) (aN 2) as dq:=by revert w;exact cX
theorem ad4 (az:decide (q > p)=true)(bG:0<=q - 1)(aF:(q - 1) / 2=(jq:ai))(aV:jq<1000000)(c3:l[jq]? =some (.str as dq))(aJ:f4 x as=false) :b2 w 1 none [(a,I l K),(G,sA w.params a M ab ae ak p q b9 cN x am)] (o0 G) λn t=>Ox w a K b9 cN am az bG aF aV c3 aJ λaN bx=>n0 w.params a M ab ae ak (aN 1) (bx 1) p q b9 cN x am ((q - 1) / 2) (aN 2) as dq:=by revert w;exact cX
theorem ad0 (az:decide (q > p)=false) :b2 w 1 none [(a,I l K),(G,sA w.params a M ab ae ak p q b9 cN x am)] (o0 G) λn t=>Ou w l K b9 cN az (sA w.params a M ab ae ak p q b9 cN x am):=by revert w;exact cX
theorem ad3 (az:decide (q > p)=true)(bG:0<=q - 1)(aF:(q - 1) / 2=(jq:ai))(aV:jq<1000000)(c3:l[jq]? =some (.str as dq))(aJ:f4 x as=true)(a4:q=(gf:ai))(wm:gf<1000000)(wl:gf<l.length) :b2 w 1 none [(a,I l K),(G,n0 w.params a M ab ae ak aD a0 p q b9 cN x am jX o2 aq dj)] (o0 G) λn t=>Ow w a G K b9 cN am az bG aF aV c3 aJ a4 wm wl λaN bx=>n0 w.params a M ab ae ak aD a0 p ((q - 1) / 2) b9 (aN 2) x am ((q - 1) / 2) (aN 2) as dq:=by revert w;exact cX
theorem ad5 (az:decide (q > p)=true)(bG:0<=q - 1)(aF:(q - 1) / 2=(jq:ai))(aV:jq<1000000)(c3:l[jq]? =some (.str as dq))(aJ:f4 x as=false) :b2 w 1 none [(a,I l K),(G,n0 w.params a M ab ae ak aD a0 p q b9 cN x am jX o2 aq dj)] (o0 G) λn t=>Ox w a K b9 cN am az bG aF aV c3 aJ λaN bx=>n0 w.params a M ab ae ak aD a0 p q b9 cN x am ((q - 1) / 2) (aN 2) as dq:=by revert w;exact cX
theorem ad1 (az:decide (q > p)=false) :b2 w 1 none [(a,I l K),(G,n0 w.params a M ab ae ak aD a0 p q b9 cN x am jX o2 aq dj)] (o0 G) λn t=>Ou w l K b9 cN az (n0 w.params a M ab ae ak aD a0 p q b9 cN x am jX o2 aq dj):=by revert w;exact cX
end
theorem ab3 {p q:y}(h:p<q) :(q - 1) / 2<q:=by omega
noncomputable def Oy (x:a6)(p q:y)(f:∀ as,as<q->B (a6×y)->ai->a6×y->B (a6×y)×y×ai×(a6×y))(O:B (a6×y))(i:ai)(aq:a6×y) :B (a6×y)×y×ai×(a6×y):=
 if h:p<q then
  if f4 x (O.getD ((q - 1) / 2) default).1=true then f ((q - 1) / 2) (ab3 h) (O.set q (O.getD ((q - 1) / 2) default)) (((q:ai) - 1) / 2) (O.getD ((q - 1) / 2) default)
  else (O,q,((q:ai) - 1) / 2,O.getD ((q - 1) / 2) default) else (O,q,i,aq)
noncomputable def gp (x:a6)(p:y)(O:B (a6×y))(q:y)(i:ai)(aq:a6×y) :B (a6×y)×y×ai×(a6×y):=Nat.lt_wfRel.wf.fix (Oy x p) q O i aq
theorem uS (x:a6)(p:y)(O:B (a6×y))(q:y)(i:ai)(aq:a6×y) :gp x p O q i aq=if p<q then
  if f4 x (O.getD ((q - 1) / 2) default).1=true then gp x p (O.set q (O.getD ((q - 1) / 2) default)) ((q - 1) / 2) (((q:ai) - 1) / 2) (O.getD ((q - 1) / 2) default)
  else (O,q,((q:ai) - 1) / 2,O.getD ((q - 1) / 2) default) else (O,q,i,aq):=congrFun (congrFun (congrFun (Qz Nat.lt_wfRel.wf (Oy x p) q) O) i) aq
theorem lL {O:B (a6×y)}{k:y}(h:k<O.length) :(O.map c1)[k]? =some (.str (O.getD k default).1 (O.getD k default).2):=by refine H (mL ..) (H (jw ..) (H (nr h ..) ?_));rfl
theorem Oz {x:a6}{p q:y}{O:B (a6×y)}{i:ai}{aq:a6×y}(h:p<q)(aJ:f4 x (O.getD ((q - 1) / 2) default).1=true) :gp x p O q i aq=gp x p (O.set q (O.getD ((q - 1) / 2) default)) ((q - 1) / 2) (((q:ai) - 1) / 2) (O.getD ((q - 1) / 2) default):=by exact H (uS ..) (H (d1 h ..) (H (d1 aJ ..) rfl))
theorem OB {x:a6}{p q:y}{O:B (a6×y)}{i:ai}{aq:a6×y}(h:p<q)(aJ:f4 x (O.getD ((q - 1) / 2) default).1=false) :gp x p O q i aq=(O,q,((q:ai) - 1) / 2,O.getD ((q - 1) / 2) default):=by refine H (uS ..) (H (d1 h ..) (H aJ ?_));rfl
section
variable {w:aG}{a G K M ab ae ak b9 am p:y}{x:a6}
theorem adZ {aD a0:y}(q:y) :∀ (O:B (a6×y)) (l:B ag) (Fs:ai) (cN:y) (jX:ai) (o2:y) (aq:a6×y),l=O.map c1->Fs=(q:ai)->q<O.length->O.length<1000000->
  b0 w 1 (o0 G) none [(a,I l K),(G,n0 w.params a M ab ae ak aD a0 p Fs b9 cN x am jX o2 aq.1 aq.2)] (λ_=>.ok .next)
   (λu=>[dA (gp x p O q jX aq).1 K,n0 w.params a M ab ae ak aD a0 p (gp x p O q jX aq).2.1 b9 (u 2) x am (gp x p O q jX aq).2.2.1 (u 3) (gp x p O q jX aq).2.2.2.1 (gp x p O q jX aq).2.2.2.2]) (λ_=>[]) (λ_=>bZ):=by
 induction q using sW with
 | _ q bO=>
  intro O l Fs cN jX o2 aq al jl a4 ex;subst jl;by_cases h:p<q
  ·have aV:(q - 1) / 2<O.length:=by omega
   have bt:((q:ai) - 1) / 2=(((q - 1) / 2:y) :ai):=by omega
   have fB:decide ((q:ai) > (p:ai))=true:=k5 (by omega);have im:0<=(q:ai) - 1:=by omega
   have c3:l[(q - 1) / 2]? =some (.str (O.getD ((q - 1) / 2) default).1 (O.getD ((q - 1) / 2) default).2):=al▸lL aV;cases aJ:f4 x (O.getD ((q - 1) / 2) default).1 with
   | true=>rw [Oz h aJ];exact i7 (ad3 w (gf:=q) fB im bt (fh aV ex) c3 aJ rfl (fh a4 ex) (by rw [al,de];exact a4)) (by intro n t X;kernel_rfl) λn t X=>bO ((q - 1) / 2) (by omega) _ (l.set q (.str (O.getD ((q - 1) / 2) default).1 (O.getD ((q - 1) / 2) default).2)) (((q:ai) - 1) / 2) (X 1 2) _ (X 1 2) _ (by exact H (rl ..) (H al rfl)) bt (by refine H (hD ..) ?_;exact aV) (by refine H (hD ..) ?_;exact ex)
   | false=>refine H (OB h aJ ..) ?_;subst al;exact dy (ad5 w fB im bt (fh aV ex) c3 aJ) (λn t X c d=>ca c d [cN,X 1 2]) λn t X c d=>⟨by kernel_rfl,rfl,trivial⟩
  ·refine H (show gp x p O q jX aq=(O,q,jX,aq) by rw [uS,dt h]) ?_
   subst al;exact dy (ad1 w (md (by omega))) (λn t X c d=>ca c d [cN,o2]) λn t X c d=>⟨by kernel_rfl,rfl,trivial⟩
theorem adY {q cN:y}{O:B (a6×y)}(h:p<q)(a4:q<O.length)(al:O.length<1000000) :
  b0 w 1 (o0 G) none [(a,dA O K),(G,sA w.params a M ab ae ak p q b9 cN x am)] (λ_=>.ok .next)
   (λu=>[dA (gp x p O q 0 default).1 K,n0 w.params a M ab ae ak (u 4) (u 5) p (gp x p O q 0 default).2.1 b9 (u 2) x am (gp x p O q 0 default).2.2.1 (u 3) (gp x p O q 0 default).2.2.2.1 (gp x p O q 0 default).2.2.2.2]) (λ_=>[]) (λ_=>bZ):=by
 have aV:(q - 1) / 2<O.length:=by omega
 have bt:((q:ai) - 1) / 2=(((q - 1) / 2:y) :ai):=by omega
 have fB:decide ((q:ai) > (p:ai))=true:=k5 (by omega);have im:0<=(q:ai) - 1:=by omega
 cases aJ:f4 x (O.getD ((q - 1) / 2) default).1 with
 | true=>rw [Oz h aJ];exact i7 (ad2 w (gf:=q) fB im bt (fh aV al) (lL aV) aJ rfl (fh a4 al) (by rw [de];exact a4)) (by intro n t X;kernel_rfl) λn t X=>(adZ (aD:=X 1 1) (a0:=X 2 1) ((q - 1) / 2) _ ((O.map c1).set q (.str (O.getD ((q - 1) / 2) default).1 (O.getD ((q - 1) / 2) default).2)) (((q:ai) - 1) / 2) (X 1 2) _ (X 1 2) _ (by exact H (rl ..) rfl) bt (by refine H (hD ..) ?_;exact aV) (by refine H (hD ..) ?_;exact al)).sw (λu=>[u 2,u 3,X 1 1,X 2 1]) (λ_=>rfl) λ_ _=>trivial
 | false=>refine H (OB h aJ ..) ?_;exact dy (ad4 w fB im bt (fh aV al) (lL aV) aJ) (λn t X c d=>ca c d [cN,X 1 2,X 1 1,X 2 1]) λn t X c d=>⟨by kernel_rfl,rfl,trivial⟩
theorem adX {q cN:y}{l:B ag}(h:¬ p<q) :
  b0 w 1 (o0 G) none [(a,I l K),(G,sA w.params a M ab ae ak p q b9 cN x am)] (λ_=>.ok .next) (λu=>[I l K,sA w.params a M ab ae ak p q b9 cN x am]) (λ_=>[]) (λ_=>bZ):=
 dy (ad0 w (md (by omega))) (λn t X c d=>ca c d []) λn t X c d=>⟨by kernel_rfl,rfl,trivial⟩
noncomputable def RM (w:aG)(a G K M ab ae ak b9 cN am p q:y)(x:a6)(O:B (a6×y))(h:p<q)(a4:q<O.length)(al:O.length<1000000) :cV w:=⟨1,_,none,_,_,_,_,_,adY (w:=w) (a:=a) (G:=G) (K:=K) (M:=M) (ab:=ab) (ae:=ae) (ak:=ak) (b9:=b9) (cN:=cN) (am:=am) (x:=x) h a4 al⟩
noncomputable def RN (w:aG)(a G K M ab ae ak b9 cN am p q:y)(x:a6)(l:B ag)(h:¬ p<q) :cV w:=⟨1,_,none,_,_,_,_,_,adX (w:=w) (a:=a) (G:=G) (K:=K) (M:=M) (ab:=ab) (ae:=ae) (ak:=ak) (b9:=b9) (cN:=cN) (am:=am) (x:=x) (l:=l) h⟩
end
theorem OA (x:a6)(p:y) :∀ (q:y) (O:B (a6×y)) (i:ai) (aq:a6×y),(gp x p O q i aq).1.length=O.length/\(gp x p O q i aq).2.1<=q:=by
 intro q
 induction q using sW with
 | _ q bO=>
  intro O i aq;refine H (uS ..) ?_;split
  ·split
   ·have:=bO ((q - 1) / 2) (by omega) (O.set q (O.getD ((q - 1) / 2) default)) (((q:ai) - 1) / 2) (O.getD ((q - 1) / 2) default)
    rw [hD] at this;exact ⟨this.1,by have:=this.2;omega⟩
   ·exact ⟨rfl,fk _⟩
  ·exact ⟨rfl,fk _⟩
end
section
section
variable (w:aG){a K b9 cN am p q:y}{x:a6}{O:B (a6×y)}{l:B ag}
theorem ad7 (bu:(O.map c1)[q]? =some (.str x am))(aQ:q<1000000)(h:p<q)(a4:q<O.length)(al:O.length<1000000)(m5:(gp x p O q 0 default).2.1<1000000)(jW:(gp x p O q 0 default).2.1<((gp x p O q 0 default).1.map c1).length) :
  b2 w 2 none [(a,dA O K)] (.call (.ref 65) ⟨[.ref a,.int (p:ai) b9,.int (q:ai) cN],[]⟩) λn t=>
   .ax (aY 0x11111222222220) [1,0,2] 1 (ka w a K cN q q (O.map c1) (.str x am) none rfl aQ bu) [0] λah=>.ax [2,2] [2] 0 (RM w a n K t (t+1) (t+2) (ah 1) b9 cN am p q x O h a4 al) [0,1] λaN=>.ax xe [0,2] 0 (te w a K (aN 2) ((gp x p O q 0 default).2.1) ((gp x p O q 0 default).2.1) ((gp x p O q 0 default).1.map c1) (.str x am) none rfl m5 jW) [0] λbx=>.bd [] [] 0 (.ret (.ok (.ret .none))) [(0,I (((gp x p O q 0 default).1.map c1).set (gp x p O q 0 default).2.1 (.str x am)) K)]:=c6
theorem ad6 (bu:l[q]? =some (.str x am))(aQ:q<1000000)(h:¬ p<q)(jW:q<l.length) :
  b2 w 2 none [(a,I l K)] (.call (.ref 65) ⟨[.ref a,.int (p:ai) b9,.int (q:ai) cN],[]⟩) λn t=>
   .ax (aY 0x11111222222220) [1,0,2] 1 (ka w a K cN q q l (.str x am) none rfl aQ bu) [0] λah=>.ax [2,2] [2] 0 (RN w a n K t (t+1) (t+2) (ah 1) b9 cN am p q x l h) [0,1] λaN=>.ax xe [0,2] 0 (te w a K cN q q l (.str x am) none rfl aQ jW) [0] λbx=>.bd [] [] 0 (.ret (.ok (.ret .none))) [(0,I (l.set q (.str x am)) K)]:=c6
end
noncomputable def lu (O:B (a6×y))(p q:y) :B (a6×y):=
 (gp (O.getD q default).1 p O q 0 default).1.set (gp (O.getD q default).1 p O q 0 default).2.1 (O.getD q default)
theorem OI {w:aG}{a K b9 cN p q:y}{O:B (a6×y)}(a4:q<O.length)(al:O.length<1000000) :
  b0 w 2 (.call (.ref 65) ⟨[.ref a,.int (p:ai) b9,.int (q:ai) cN],[]⟩) none [(a,dA O K)] (λ_=>.ok (.ret .none)) (λ_=>[dA (lu O p q) K]) (λ_=>[]) (λ_=>bZ):=by
 have hs:=OA (O.getD q default).1 p q O 0 default;by_cases h:p<q
 ·have e:dA (lu O p q) K=I (((gp (O.getD q default).1 p O q 0 default).1.map c1).set (gp (O.getD q default).1 p O q 0 default).2.1 (c1 (O.getD q default))) K:=by
   refine df (rl ..) ?_;rfl
  refine H e ?_;exact dy (ad7 w (lL a4) (by omega) h a4 al (by omega) (by refine H (de ..) ?_;omega)) (λn t X c d=>ca c d []) λn t X c d=>⟨by kernel_rfl,rfl,trivial⟩
 ·have e:dA (lu O p q) K=I ((O.map c1).set q (c1 (O.getD q default))) K:=by rw [<- rl,lu,uS,dt h]
  refine H e ?_;exact dy (ad6 w (lL a4) (by omega) h (by refine H (de ..) ?_;omega)) (λn t X c d=>ca c d []) λn t X c d=>⟨by kernel_rfl,rfl,trivial⟩
noncomputable def HX (w:aG)(a K b9 cN p q:y)(O:B (a6×y))(a4:q<O.length)(al:O.length<1000000) :cV w:=⟨2,_,none,_,_,_,_,_,OI (w:=w) (a:=a) (K:=K) (b9:=b9) (cN:=cN) (p:=p) a4 al⟩
end
end
section
open PySem PySem.W PySem.W.X PySem.Calls PyProof.Rows
section
variable {w:aG}
theorem ZN {a K:y}{l:B ag}{ap:aK ag}(al:l.length<1000000) :
  b0 w 0 (.builtin "len" ⟨[.ref a],[]⟩) ap [(a,I l K)] (λx=>.ok (.ret (.int (l.length:ai) (x 2)))) (λ_=>[I l K]) (λ_=>[]) (λ_=>bZ):=by
 refine nj (v:=λbe=>.int (l.length:ai) be) λA s aS has=>?_;have b1:=has (a,I l K) (cY ..);have ej:=tR b1;refine h5 entry_len λei Q E gG dh dC iB=>?_;unfold Builtin.«len»;refine bE (m:=oneArg "len" _) (wpAny_pure ?_);refine bE (m:=H4 (.ref a) (s1 "__len__")) (Pw (name:=s1 "__len__") ej.typeIs slot_list_len
  (Px slot_list_len ej.typeIs entry_list_len ?_ (args_list_len _)))
 show wpAny _ _ (do retInt (<- seqSize a)) _ _ s;unfold seqSize;refine bE (bE (Gg b1 ?_));refine wpAny_pure (bE (p4 (wpAny_pure ⟨_,rfl,?_⟩)));refine bE (oa (wpAny_pure ?_));refine bE (u7 ?_);show wpAny _ _ (if (((⟨l⟩ :cp ag).size:y) :ai)<0 then _ else _) _ _ _;refine H (dt (by omega) ..) ?_;show wpAny _ _ (if (((⟨l⟩ :cp ag).size:y) :ai) >= 2 ^ 63 then _ else _) _ _ _;refine H (dt (by simp;omega) ..) ?_;exact bE (p4 (wpAny_pure (dh _ _ ⟨_,rfl,rfl,rfl,rfl⟩)))
theorem ZL {a K N:y}{l:B ag}{ap:aK ag}(ex:l.length=N)(al:N<1000000) :
  b0 w 0 (.builtin "len" ⟨[.ref a],[]⟩) ap [(a,I l K)] (λx=>.ok (.ret (.int (N:ai) (x 2)))) (λ_=>[I l K]) (λ_=>[]) (λ_=>bZ):=by
 subst ex;exact ZN al
noncomputable def kz (w:aG)(a K:y)(l:B ag)(N:y)(ap:aK ag)(ex:l.length=N)(al:N<1000000) :cV w:=⟨0,_,ap,_,_,_,_,_,ZL (w:=w) (a:=a) (K:=K) (ap:=ap) ex al⟩
end
end
section
open PySem PySem.W PySem.W.X PyProof.Rows
noncomputable def FT:=sG (ew 7).2.1[4]?
noncomputable def kS (G:aM) :cn:=.whileLoop FT.1 FT.2.1 FT.2.2 (mT (ew 7) (U uB) 72 71 G)
noncomputable abbrev OY (P:bp)(a M ab ae ak aD a0:y)(i e s c:ai)(ci b5 aZ c8:y)(x:a6)(am:y) :B f8:=[aj P w8 M (.ref a),aj P [112,111,115] ab (.int i ci),aj P [101,110,100,112,111,115] ae (.int e b5),aj P ET ak (.int s aZ),aj P EU aD (.str x am),aj P [99,104,105,108,100,112,111,115] a0 (.int c c8)]
noncomputable abbrev q8 (P:bp)(a M ab ae ak aD a0:y)(i e s c:ai)(ci b5 aZ c8:y)(x:a6)(am:y) :ao:=eM (OY P a M ab ae ak aD a0 i e s c ci b5 aZ c8 x am) 6
noncomputable abbrev j3 (P:bp)(a M ab ae ak aD a0 b7:y)(i e s c r:ai)(ci b5 aZ c8 d3:y)(x:a6)(am:y) :ao:=eM (OY P a M ab ae ak aD a0 i e s c ci b5 aZ c8 x am++[aj P [114,105,103,104,116,112,111,115] b7 (.int r d3)]) 7
section
section
variable (w:aG){a G K M ab ae ak aD a0 b7 ci b5 aZ c8 d3 am dq dj bv iH fY:y}{l:B ag}{i e s c r:ai}{x as aq:a6}
noncomputable def OV (G a K b5 ci c8:y)(aF:i=(fY:ai))(jn:fY<1000000)(h8:fY<l.length)(aX:c=(bv:ai))(jV:bv<1000000)(c3:l[bv]? =some (.str as dq))(a9:c+1=(iH:ai))(m7:iH<1000000)(hz:l[iH]? =some (.str aq dj))(az:decide (c<e)=true)(aJ:decide (c+1<e)=true)(bg:f4 as aq=true)(o:(y->y)->(y->y)->ao) :bb w:=
 .ax [2,2] [0,0,2] 0 (lD w c e c8 b5 true none az) [] λah=>.ax [2,2,2,2,2] [0,0,0,2] 0 (lD w (c+1) e (ah 1+1) b5 true none aJ) [] λaN=>.ax uo [0,2] 0 (ka w a K c8 c bv l (.str as dq) none aX jV c3) [0] λbx=>.ax uo [0,2] 0 (ka w a K (ah 1+1) (c+1) iH l (.str aq dj) none a9 m7 hz) [0] λcj=>.ax [] [0,2] 0 (yv w as aq dq dj true none bg) [] λcg=>.ax uo [0,2] 0 (ka w a K c8 c bv l (.str as dq) none aX jV c3) [0] λfc=>.ax [2,2,1,1,1] [0,2] 0 (te w a K ci i fY l (.str as dq) none aF jn h8) [0] λfS=>.bd (aY 0x1222222) [0,0,0,0,3] 0 (.dr (kS G)) [(0,I (l.set fY (.str as dq)) K),(1,o ah fS)]
theorem aeJ (aF:i=(fY:ai))(jn:fY<1000000)(h8:fY<l.length)(aX:c=(bv:ai))(jV:bv<1000000)(c3:l[bv]? =some (.str as dq))(a9:c+1=(iH:ai))(m7:iH<1000000)(hz:l[iH]? =some (.str aq dj))(az:decide (c<e)=true)(aJ:decide (c+1<e)=true)(bg:f4 as aq=true) :b2 w 1 none [(a,I l K),(G,q8 w.params a M ab ae ak aD a0 i e s c ci b5 aZ c8 x am)] (kS G) λn t=>OV w G a K b5 ci c8 aF jn h8 aX jV c3 a9 m7 hz az aJ bg (λah fS=>j3 w.params a M ab ae ak aD a0 (ah 1+2) c e s (2 * c+1) (c+1) c8 b5 aZ (fS 1+4) (ah 1+1) x am):=by revert w;exact cX
noncomputable def OW (G a K b5 ci c8:y)(aF:i=(fY:ai))(jn:fY<1000000)(h8:fY<l.length)(aX:c=(bv:ai))(jV:bv<1000000)(c3:l[bv]? =some (.str as dq))(a9:c+1=(iH:ai))(m7:iH<1000000)(hz:l[iH]? =some (.str aq dj))(az:decide (c<e)=true)(aJ:decide (c+1<e)=true)(bg:f4 as aq=false)(o:(y->y)->(y->y)->ao) :bb w:=
 .ax [2,2] [0,0,2] 0 (lD w c e c8 b5 true none az) [] λah=>.ax [2,2,2,2,2] [0,0,0,2] 0 (lD w (c+1) e (ah 1+1) b5 true none aJ) [] λaN=>.ax uo [0,2] 0 (ka w a K c8 c bv l (.str as dq) none aX jV c3) [0] λbx=>.ax uo [0,2] 0 (ka w a K (ah 1+1) (c+1) iH l (.str aq dj) none a9 m7 hz) [0] λcj=>.ax [] [0,2] 0 (yv w as aq dq dj false none bg) [] λcg=>.ax (aY 0x1111122222) [0,2] 0 (ka w a K (ah 1+1) (c+1) iH l (.str aq dj) none a9 m7 hz) [0] λfc=>.ax [2,2,1,1,1] [0,2] 0 (te w a K ci i fY l (.str aq dj) none aF jn h8) [0] λfS=>.bd (aY 0x1222222) [0,0,0,0,3] 0 (.dr (kS G)) [(0,I (l.set fY (.str aq dj)) K),(1,o ah fS)]
theorem aeL (aF:i=(fY:ai))(jn:fY<1000000)(h8:fY<l.length)(aX:c=(bv:ai))(jV:bv<1000000)(c3:l[bv]? =some (.str as dq))(a9:c+1=(iH:ai))(m7:iH<1000000)(hz:l[iH]? =some (.str aq dj))(az:decide (c<e)=true)(aJ:decide (c+1<e)=true)(bg:f4 as aq=false) :b2 w 1 none [(a,I l K),(G,q8 w.params a M ab ae ak aD a0 i e s c ci b5 aZ c8 x am)] (kS G) λn t=>OW w G a K b5 ci c8 aF jn h8 aX jV c3 a9 m7 hz az aJ bg (λah fS=>j3 w.params a M ab ae ak aD a0 (ah 1+2) (c+1) e s (2 * (c+1)+1) (c+1) (ah 1+1) b5 aZ (fS 1+4) (ah 1+1) x am):=by revert w;exact cX
noncomputable def OX (G a K b5 ci c8:y)(aF:i=(fY:ai))(jn:fY<1000000)(h8:fY<l.length)(aX:c=(bv:ai))(jV:bv<1000000)(c3:l[bv]? =some (.str as dq))(az:decide (c<e)=true)(aJ:decide (c+1<e)=false)(o:(y->y)->(y->y)->ao) :bb w:=
 .ax [2,2] [0,0,2] 0 (lD w c e c8 b5 true none az) [] λah=>.ax [2,2,2,2,2] [0,0,0,2] 0 (lD w (c+1) e (ah 1+1) b5 false none aJ) [] λaN=>.ax uo [0,2] 0 (ka w a K c8 c bv l (.str as dq) none aX jV c3) [0] λbx=>.ax [2,2,1,1,1] [0,2] 0 (te w a K ci i fY l (.str as dq) none aF jn h8) [0] λcj=>.bd (aY 0x1222222) [0,0,0,0,3] 0 (.dr (kS G)) [(0,I (l.set fY (.str as dq)) K),(1,o ah cj)]
theorem aeN (aF:i=(fY:ai))(jn:fY<1000000)(h8:fY<l.length)(aX:c=(bv:ai))(jV:bv<1000000)(c3:l[bv]? =some (.str as dq))(az:decide (c<e)=true)(aJ:decide (c+1<e)=false) :b2 w 1 none [(a,I l K),(G,q8 w.params a M ab ae ak aD a0 i e s c ci b5 aZ c8 x am)] (kS G) λn t=>OX w G a K b5 ci c8 aF jn h8 aX jV c3 az aJ (λah cj=>j3 w.params a M ab ae ak aD a0 (ah 1+2) c e s (2 * c+1) (c+1) c8 b5 aZ (cj 1+4) (ah 1+1) x am):=by revert w;exact cX
noncomputable def OZ (G a K b5 c8:y)(az:decide (c<e)=false)(o:ao) :bb w:=
 .ax [2,2] [0,0,2] 0 (lD w c e c8 b5 false none az) [] λah=>.bd [] [] 0 (.ret (.ok .next)) [(0,I l K),(1,o)]
theorem aeS (az:decide (c<e)=false) :b2 w 1 none [(a,I l K),(G,q8 w.params a M ab ae ak aD a0 i e s c ci b5 aZ c8 x am)] (kS G) λn t=>OZ w (l:=l) G a K b5 c8 az (q8 w.params a M ab ae ak aD a0 i e s c ci b5 aZ c8 x am):=by revert w;exact cX
theorem aeK (aF:i=(fY:ai))(jn:fY<1000000)(h8:fY<l.length)(aX:c=(bv:ai))(jV:bv<1000000)(c3:l[bv]? =some (.str as dq))(a9:c+1=(iH:ai))(m7:iH<1000000)(hz:l[iH]? =some (.str aq dj))(az:decide (c<e)=true)(aJ:decide (c+1<e)=true)(bg:f4 as aq=true) :b2 w 1 none [(a,I l K),(G,j3 w.params a M ab ae ak aD a0 b7 i e s c r ci b5 aZ c8 d3 x am)] (kS G) λn t=>OV w G a K b5 ci c8 aF jn h8 aX jV c3 a9 m7 hz az aJ bg (λah fS=>j3 w.params a M ab ae ak aD a0 b7 c e s (2 * c+1) (c+1) c8 b5 aZ (fS 1+4) (ah 1+1) x am):=by revert w;exact cX
theorem aeM (aF:i=(fY:ai))(jn:fY<1000000)(h8:fY<l.length)(aX:c=(bv:ai))(jV:bv<1000000)(c3:l[bv]? =some (.str as dq))(a9:c+1=(iH:ai))(m7:iH<1000000)(hz:l[iH]? =some (.str aq dj))(az:decide (c<e)=true)(aJ:decide (c+1<e)=true)(bg:f4 as aq=false) :b2 w 1 none [(a,I l K),(G,j3 w.params a M ab ae ak aD a0 b7 i e s c r ci b5 aZ c8 d3 x am)] (kS G) λn t=>OW w G a K b5 ci c8 aF jn h8 aX jV c3 a9 m7 hz az aJ bg (λah fS=>j3 w.params a M ab ae ak aD a0 b7 (c+1) e s (2 * (c+1)+1) (c+1) (ah 1+1) b5 aZ (fS 1+4) (ah 1+1) x am):=by revert w;exact cX
theorem aeO (aF:i=(fY:ai))(jn:fY<1000000)(h8:fY<l.length)(aX:c=(bv:ai))(jV:bv<1000000)(c3:l[bv]? =some (.str as dq))(az:decide (c<e)=true)(aJ:decide (c+1<e)=false) :b2 w 1 none [(a,I l K),(G,j3 w.params a M ab ae ak aD a0 b7 i e s c r ci b5 aZ c8 d3 x am)] (kS G) λn t=>OX w G a K b5 ci c8 aF jn h8 aX jV c3 az aJ (λah cj=>j3 w.params a M ab ae ak aD a0 b7 c e s (2 * c+1) (c+1) c8 b5 aZ (cj 1+4) (ah 1+1) x am):=by revert w;exact cX
theorem aeT (az:decide (c<e)=false) :b2 w 1 none [(a,I l K),(G,j3 w.params a M ab ae ak aD a0 b7 i e s c r ci b5 aZ c8 d3 x am)] (kS G) λn t=>OZ w (l:=l) G a K b5 c8 az (j3 w.params a M ab ae ak aD a0 b7 i e s c r ci b5 aZ c8 d3 x am):=by revert w;exact cX
end
noncomputable def gZ (O:B (a6×y))(i:y) :y:=if 2 * i+2<O.length/\f4 (O.getD (2 * i+1) default).1 (O.getD (2 * i+2) default).1=false then 2 * i+2 else 2 * i+1
theorem FU (O:B (a6×y))(i:y) :gZ O i=2 * i+1∨(gZ O i=2 * i+2/\2 * i+2<O.length):=by
 unfold gZ;split
 ·rename_i h;exact .inr ⟨rfl,h.1⟩
 ·exact .inl rfl
noncomputable def aeZ:WellFoundedRelation (B (a6×y)×y×ai):=measure λp=>p.1.length - p.2.1
theorem aeX {O:B (a6×y)}{i:y}(h:2 * i+1<O.length)(as:a6×y) :(O.set i as).length - gZ O i<O.length - i:=by refine H (hD ..) ?_;have:=FU O i;omega
noncomputable def cm (O:B (a6×y))(i:y)(r:ai) :B (a6×y)×y×ai:=
 aeZ.wf.fix (C:=λ_=>B (a6×y)×y×ai) (λp f=>if h:2 * p.2.1+1<p.1.length then f (p.1.set p.2.1 (p.1.getD (gZ p.1 p.2.1) default),gZ p.1 p.2.1,2 * (p.2.1:ai)+1+1) (aeX h _) else p) (O,i,r)
theorem xM (O:B (a6×y))(i:y)(r:ai) :cm O i r=if 2 * i+1<O.length then cm (O.set i (O.getD (gZ O i) default)) (gZ O i) (2 * (i:ai)+1+1) else (O,i,r):=Qz ..
theorem O2 {O:B (a6×y)}{i:y}(h:f4 (O.getD (2 * i+1) default).1 (O.getD (2 * i+2) default).1=true) :gZ O i=2 * i+1:=by unfold gZ;exact H (dt λk=>AM (h.symm.trans k.2) ..) rfl
theorem O0 {O:B (a6×y)}{i:y}(aJ:2 * i+2<O.length)(h:f4 (O.getD (2 * i+1) default).1 (O.getD (2 * i+2) default).1=false) :gZ O i=2 * i+2:=by unfold gZ;exact H (d1 ⟨aJ,h⟩ ..) rfl
theorem O1 {O:B (a6×y)}{i:y}(aJ:¬ 2 * i+2<O.length) :gZ O i=2 * i+1:=by unfold gZ;exact H (dt λk=>aJ k.1 ..) rfl
theorem O4 {O:B (a6×y)}{i c:y}{r:ai}(h:2 * i+1<O.length)(aX:gZ O i=c) :cm O i r=cm (O.set i (O.getD c default)) c (2 * (i:ai)+1+1):=by subst aX;exact H (xM ..) (H (d1 h ..) rfl)
section
variable {w:aG}{a G K M ab ae ak aD a0 b5 aZ am:y}{s:ai}{x:a6}
theorem aeR {b7 N:y}(ex:N<400000)(m:y) :∀ (O:B (a6×y)) (l:B ag) (i:y) (DV k4:ai) (ci c8 d3:y) (r:ai),l=O.map c1->O.length=N->DV=(i:ai)->k4=2 * (i:ai)+1->N - i=m->i<N->
  b0 w 1 (kS G) none [(a,I l K),(G,j3 w.params a M ab ae ak aD a0 b7 DV N s k4 r ci b5 aZ c8 d3 x am)] (λ_=>.ok .next)
   (λu=>[dA (cm O i r).1 K,j3 w.params a M ab ae ak aD a0 b7 (cm O i r).2.1 N s (2 * ((cm O i r).2.1:ai)+1) (cm O i r).2.2 (u 2) b5 aZ (u 3) (u 4) x am]) (λ_=>[]) (λ_=>bZ):=by
 induction m using sW with
 | _ m bO=>
  intro O l i DV k4 ci c8 d3 r al g7 aF aX aU jn;subst g7 aX;have h8:i<l.length:=by rw [al,de];exact jn
  have a5:2 * (i:ai)+1=((2 * i+1:y) :ai):=by omega
  have cd:2 * (i:ai)+1+1=((2 * i+2:y) :ai):=by omega
  have fl:i<1000000:=fh jn (fh ex (by decide));by_cases h:2 * i+1<O.length
  ·have bu:l[2 * i+1]? =some (.str (O.getD (2 * i+1) default).1 (O.getD (2 * i+1) default).2):=al▸lL h
   have fe:2 * i+1<1000000:=fh h (fh ex (by decide));have az:decide (2 * (i:ai)+1<(O.length:ai))=true:=k5 (by omega);have ib:∀ (c:y) (k4:ai) (ci c8 d3:y),gZ O i=c->i<c->c<O.length->k4=(c:ai)->b0 w 1 (kS G) none [(a,I (l.set i (.str (O.getD c default).1 (O.getD c default).2)) K),(G,j3 w.params a M ab ae ak aD a0 b7 k4 O.length s (2 * k4+1) (2 * (i:ai)+1+1) ci b5 aZ c8 d3 x am)] (λ_=>.ok .next)
     (λu=>[dA (cm O i r).1 K,j3 w.params a M ab ae ak aD a0 b7 (cm O i r).2.1 O.length s (2 * ((cm O i r).2.1:ai)+1) (cm O i r).2.2 (u 2) b5 aZ (u 3) (u 4) x am]) (λ_=>[]) (λ_=>bZ):=λc k4 ci c8 d3 hs agr Dc wd=>by
    rw [O4 h hs];exact bO (O.length - c) (by omega) (O.set i (O.getD c default)) _ c k4 _ ci c8 d3 _ (by rw [rl,al]) (hD ..) wd (by exact H wd rfl) rfl Dc
   by_cases aJ:2 * i+2<O.length
   ·have c3:l[2 * i+2]? =some (.str (O.getD (2 * i+2) default).1 (O.getD (2 * i+2) default).2):=al▸lL aJ
    have fI:2 * i+2<1000000:=fh aJ (fh ex (by decide));have cS:decide (2 * (i:ai)+1+1<(O.length:ai))=true:=k5 (by omega)
    induction bg:f4 (O.getD (2 * i+1) default).1 (O.getD (2 * i+2) default).1 with
    | true=>exact i7 (aeK w aF fl h8 a5 fe bu cd fI c3 az cS bg) (by intro n t X;kernel_rfl) λn t X=>ib (2 * i+1) _ c8 (X 6 1+4) (X 0 1+1) (O2 bg) (by omega) h a5
    | false=>exact i7 (aeM w aF fl h8 a5 fe bu cd fI c3 az cS bg) (by intro n t X;kernel_rfl) λn t X=>ib (2 * i+2) _ (X 0 1+1) (X 6 1+4) (X 0 1+1) (O0 aJ bg) (by omega) aJ cd
   ·exact i7 (aeO w aF fl h8 a5 fe bu az (md (by omega))) (by intro n t X;kernel_rfl) λn t X=>ib (2 * i+1) _ c8 (X 3 1+4) (X 0 1+1) (O1 aJ) (by omega) h a5
  ·refine H (show cm O i r=(O,i,r) by rw [xM,dt h]) ?_
   subst al aF;exact dy (aeT w (md (by omega))) (λn t X c d=>ca c d [ci,c8,d3]) λn t X c d=>⟨by kernel_rfl,rfl,trivial⟩
end
end
section
section
variable {w:aG}{a G K M ab ae ak aD a0 b5 aZ am ci c8:y}{s:ai}{x:a6}{O:B (a6×y)}
theorem aeQ (h:1<O.length)(al:O.length<400000) :
  b0 w 1 (kS G) none [(a,dA O K),(G,q8 w.params a M ab ae ak aD a0 0 O.length s 1 ci b5 aZ c8 x am)] (λ_=>.ok .next)
   (λu=>[dA (cm O 0 0).1 K,j3 w.params a M ab ae ak aD a0 (u 5) (cm O 0 0).2.1 O.length s (2 * ((cm O 0 0).2.1:ai)+1) (cm O 0 0).2.2 (u 2) b5 aZ (u 3) (u 4) x am]) (λ_=>[]) (λ_=>bZ):=by
 have h8:0<(O.map c1).length:=by rw [de];exact fh Nat.zero_lt_one h
 have b:∀ {k},k<O.length->k<1000000:=λaV=>fh aV (fh al (by decide));have az:decide ((1:ai)<(O.length:ai))=true:=k5 (by omega);have ib:∀ (c b7:y) (k4:ai) (ci c8 d3:y),gZ O 0=c->c<O.length->k4=(c:ai)->b0 w 1 (kS G) none [(a,I ((O.map c1).set 0 (.str (O.getD c default).1 (O.getD c default).2)) K),(G,j3 w.params a M ab ae ak aD a0 b7 k4 O.length s (2 * k4+1) (1+1) ci b5 aZ c8 d3 x am)] (λ_=>.ok .next)
   (λu=>[dA (cm O 0 0).1 K,j3 w.params a M ab ae ak aD a0 (u 5) (cm O 0 0).2.1 O.length s (2 * ((cm O 0 0).2.1:ai)+1) (cm O 0 0).2.2 (u 2) b5 aZ (u 3) (u 4) x am]) (λ_=>[]) (λ_=>bZ):=λc b7 k4 ci c8 d3 hs Dc wd=>by
  rw [O4 (i:=0) h hs];exact (aeR (b7:=b7) al _ (O.set 0 (O.getD c default)) _ c k4 _ ci c8 d3 _ (by rw [rl]) (hD ..) wd (by exact H wd rfl) rfl Dc).sw (λu=>[u 2,u 3,u 4,b7]) (λ_=>rfl) λ_ _=>trivial
 by_cases aJ:2<O.length
 ·have cS:decide ((1:ai)+1<(O.length:ai))=true:=k5 (by omega)
  induction bg:f4 (O.getD 1 default).1 (O.getD 2 default).1 with
  | true=>exact i7 (aeJ w (fY:=0) (bv:=1) (iH:=2) rfl (by decide) h8 rfl (by decide) (lL h) rfl (by decide) (lL aJ) az cS bg) (by intro n t X;kernel_rfl) λn t X=>ib 1 (X 0 1+2) _ c8 (X 6 1+4) (X 0 1+1) (O2 (i:=0) bg) h rfl
  | false=>exact i7 (aeL w (fY:=0) (bv:=1) (iH:=2) rfl (by decide) h8 rfl (by decide) (lL h) rfl (by decide) (lL aJ) az cS bg) (by intro n t X;kernel_rfl) λn t X=>ib 2 (X 0 1+2) _ (X 0 1+1) (X 6 1+4) (X 0 1+1) (O0 (i:=0) aJ bg) aJ rfl
 ·exact i7 (aeN w (fY:=0) (bv:=1) rfl (by decide) h8 rfl (by decide) (lL h) az (md (by omega))) (by intro n t X;kernel_rfl) λn t X=>ib 1 (X 0 1+2) _ c8 (X 3 1+4) (X 0 1+1) (O1 (i:=0) aJ) h rfl
theorem aeP {l:B ag}(h:¬ 1<l.length) :
  b0 w 1 (kS G) none [(a,I l K),(G,q8 w.params a M ab ae ak aD a0 0 l.length s 1 ci b5 aZ c8 x am)] (λ_=>.ok .next) (λu=>[I l K,q8 w.params a M ab ae ak aD a0 0 l.length s 1 ci b5 aZ c8 x am]) (λ_=>[]) (λ_=>bZ):=
 dy (aeS w (md (by omega))) (λn t X c d=>ca c d []) λn t X c d=>⟨by kernel_rfl,rfl,trivial⟩
end
noncomputable def RU (w:aG)(a G K M ab ae ak aD a0 b5 aZ am ci c8:y)(s:ai)(x:a6)(O:B (a6×y))(h:1<O.length)(al:O.length<400000) :cV w:=⟨1,_,none,_,_,_,_,_,aeQ (w:=w) (a:=a) (G:=G) (K:=K) (M:=M) (ab:=ab) (ae:=ae) (ak:=ak) (aD:=aD) (a0:=a0) (b5:=b5) (aZ:=aZ) (am:=am) (ci:=ci) (c8:=c8) (s:=s) (x:=x) h al⟩
noncomputable def RV (w:aG)(a G K M ab ae ak aD a0 b5 aZ am ci c8:y)(s:ai)(x:a6)(l:B ag)(h:¬ 1<l.length) :cV w:=⟨1,_,none,_,_,_,_,_,aeP (w:=w) (a:=a) (G:=G) (K:=K) (M:=M) (ab:=ab) (ae:=ae) (ak:=ak) (aD:=aD) (a0:=a0) (b5:=b5) (aZ:=aZ) (am:=am) (ci:=ci) (c8:=c8) (s:=s) (x:=x) (l:=l) h⟩
theorem ae1:∀ (m:y) (O:B (a6×y)) (i:y) (r:ai),O.length - i=m->i<O.length->(cm O i r).1.length=O.length/\(cm O i r).2.1<O.length:=by
 intro m
 induction m using sW with
 | _ m bO=>
  intro O i r aU aF;rw [xM];split
  ·have hs:=FU O i
   have:=bO (O.length - gZ O i) (by omega) (O.set i (O.getD (gZ O i) default)) (gZ O i) (2 * (i:ai)+1+1) (by exact H (hD ..) rfl) (by refine H (hD ..) ?_;omega);rw [hD] at this;exact this
  ·exact ⟨rfl,aF⟩
end
section
section
variable (w:aG){a K b9 am:y}{x:a6}{O:B (a6×y)}
theorem aeV (bu:(O.map c1)[0]? =some (.str x am))(ex:(O.map c1).length=O.length)(oH:O.length<1000000)(h:1<O.length)(al:O.length<400000)(m5:(cm O 0 0).2.1<1000000)(jW:(cm O 0 0).2.1<((cm O 0 0).1.map c1).length)(he:((cm O 0 0).1.map c1).set (cm O 0 0).2.1 (.str x am)=((cm O 0 0).1.set (cm O 0 0).2.1 (x,am)).map c1)(hs:(cm O 0 0).2.1<((cm O 0 0).1.set (cm O 0 0).2.1 (x,am)).length)(DC:((cm O 0 0).1.set (cm O 0 0).2.1 (x,am)).length<1000000) :
  b2 w 3 none [(a,dA O K)] (.call (.ref 72) ⟨[.ref a,.int 0 b9],[]⟩) λn t=>
   .ax (aY 0x120022220) [1,0,2] 1 (kz w a K (O.map c1) O.length none ex oH) [0] λah=>.ax (aY 0x111112222222) [0,2] 0 (ka w a K b9 0 0 (O.map c1) (.str x am) none rfl (by omega) bu) [0] λaN=>.ax [2,2,2,2,2] [0,0,0,0,2] 0 (RU w a n K t (t+1) (ah 1) (ah 1+1) (aN 1) (aN 1+5) (ah 2) b9 am b9 (aN 1+4) 0 x O h al) [0,1] λbx=>.ax xe [0,2] 0 (B1 w a K (bx 2) (cm O 0 0).2.1 (cm O 0 0).2.1 ((cm O 0 0).1.map c1) (((cm O 0 0).1.set (cm O 0 0).2.1 (x,am)).map c1) (.str x am) none rfl m5 jW he) [0] λcj=>.ax [0,2,2,2,0] [2] 0 (HX w a K b9 (bx 2) 0 (cm O 0 0).2.1 ((cm O 0 0).1.set (cm O 0 0).2.1 (x,am)) hs DC) [0] λcg=>.bd [] [] 0 (.ret (.ok (.ret .none))) [(0,dA (lu ((cm O 0 0).1.set (cm O 0 0).2.1 (x,am)) 0 (cm O 0 0).2.1) K)]:=c6
theorem aeU (bu:(O.map c1)[0]? =some (.str x am))(oH:(O.map c1).length<1000000)(h:¬ 1<(O.map c1).length)(jW:0<(O.map c1).length)(he:(O.map c1).set 0 (.str x am)=(O.set 0 (x,am)).map c1)(hs:0<(O.set 0 (x,am)).length)(DC:(O.set 0 (x,am)).length<1000000) :
  b2 w 3 none [(a,dA O K)] (.call (.ref 72) ⟨[.ref a,.int 0 b9],[]⟩) λn t=>
   .ax (aY 0x120022220) [1,0,2] 1 (kz w a K (O.map c1) (O.map c1).length none rfl oH) [0] λah=>.ax (aY 0x111112222222) [0,2] 0 (ka w a K b9 0 0 (O.map c1) (.str x am) none rfl (by omega) bu) [0] λaN=>.ax [2,2,2,2,2] [0,0,0,0,2] 0 (RV w a n K t (t+1) (ah 1) (ah 1+1) (aN 1) (aN 1+5) (ah 2) b9 am b9 (aN 1+4) 0 x (O.map c1) h) [0,1] λbx=>.ax xe [0,2] 0 (B1 w a K b9 0 0 (O.map c1) ((O.set 0 (x,am)).map c1) (.str x am) none rfl (by omega) jW he) [0] λcj=>.ax [0,2,2,2,0] [2] 0 (HX w a K b9 b9 0 0 (O.set 0 (x,am)) hs DC) [0] λcg=>.bd [] [] 0 (.ret (.ok (.ret .none))) [(0,dA (lu (O.set 0 (x,am)) 0 0) K)]:=c6
end
noncomputable def sF (O:B (a6×y)) :B (a6×y):=lu ((cm O 0 0).1.set (cm O 0 0).2.1 (O.getD 0 default)) 0 (cm O 0 0).2.1
theorem aeg {w:aG}{a K b9:y}{O:B (a6×y)}(bG:0<O.length)(al:O.length<400000) :
  b0 w 3 (.call (.ref 72) ⟨[.ref a,.int 0 b9],[]⟩) none [(a,dA O K)] (λ_=>.ok (.ret .none)) (λ_=>[dA (sF O) K]) (λ_=>[]) (λ_=>bZ):=by
 have hs:=ae1 _ O 0 0 rfl bG;by_cases h:1<O.length
 ·exact dy (aeV w (lL bG) (by simp) (by omega) h al (by omega) (by rw [de];omega) (by rw [rl]) (by rw [hD];omega) (by rw [hD];omega)) (λn t X c d=>ca c d []) λn t X c d=>⟨by kernel_rfl,rfl,trivial⟩
 ·refine mf (aeU w (lL bG) (by rw [de];omega) (by rw [de];omega) (by rw [de];omega) (by rw [rl]) (by rw [hD];omega) (by rw [hD];omega)) ?_
  intro n t ah _ aN _ bx _ cj _ cg _ c d;refine ⟨ca c d [],rfl,rfl,rfl,?_,rfl,trivial⟩;have:cm O 0 0=(O,0,0):=by exact H (xM ..) (H (dt (by omega) ..) rfl)
  unfold sF;refine H this ?_;rfl
noncomputable def RP (w:aG)(a K b9:y)(O:B (a6×y))(bG:0<O.length)(al:O.length<400000) :cV w:=⟨3,_,none,_,_,_,_,_,aeg (w:=w) (a:=a) (K:=K) (b9:=b9) bG al⟩
end
end
section
open PySem PySem.W PySem.W.X PySem.Calls PyProof.Rows
section
variable {w:aG}
theorem Pi {A:c9}{c:cn}(hw:c.weight=0)(eG:c.cUnits=1) :A.under c=A.in1:=by unfold Around.under Around.in1;refine H hw (H eG (H (Code.envs_of_weight hw ..) (H (Code.guards_of_weight hw ..) ?_)));rfl
theorem oS {A:c9}{R:cD->aR->Prop}{s:aR}{id:kv}{args:mH}{b:vf}{S:PySem.Spec}(he:rK pU id=some b)(hw:(Code.builtin id args).weight=0)(eG:(Code.builtin id args).cUnits=1)
  (aI:Meets (b args) S)(h:S A R s) :codeAny (model aL w) A (.builtin id args) R s:=by
 refine HJ he ?_;refine H (Pi hw eG ..) ?_;exact aI aL w A R s h
theorem Q5 {a K:y}{l dH:B ag}{v:ag}{ap:aK ag}(al:l.length<1000000)(he:l++[v]=dH) :
  b0 w 0 (.builtin "list.append" ⟨[.ref a,v],[]⟩) ap [(a,I l K)] (λ_=>.ok (.ret .none)) (λ_=>[I dH (K+1)]) (λ_=>[]) (λ_=>bZ):=by
 subst he;refine u3 (v:=λ_=>.none) λA s aS b1=>?_;refine oS PySem.entry_list_append (by kernel_rfl) (by kernel_rfl) (list_append a ⟨l⟩ K v (by refine H (jr ..) ?_;simp;omega)) ⟨b1,0,rfl,?_,hQ ..,rfl,rfl⟩;refine (hc _ b1 rfl).trans (fV some ?_);simp [e4]
noncomputable def hS (w:aG)(a K:y)(l dH:B ag)(v:ag)(ap:aK ag)(al:l.length<1000000)(he:l++[v]=dH) :cV w:=⟨0,_,ap,_,_,_,_,_,Q5 (w:=w) (a:=a) (K:=K) (ap:=ap) al he⟩
theorem ab7 {a K:y}{l dH:B ag}{v:ag}{ap:aK ag}(al:l.length<1000000)(he:l=dH++[v]) :
  b0 w 0 (.builtin "list.pop" ⟨[.ref a],[]⟩) ap [(a,I l K)] (λ_=>.ok (.ret v)) (λ_=>[I dH (K+1)]) (λ_=>[]) (λ_=>bZ):=by
 subst he;refine u3 (v:=λ_=>v) λA s aS b1=>?_;refine oS (kd (by kernel_rfl)) (by kernel_rfl) (by kernel_rfl) (PySem.MeetsSeq.list_pop_last a ⟨dH++[v]⟩ K v (by simp) (by refine H (jr ..) ?_;simp at al ⊢;omega)) ⟨b1,0,rfl,?_,hQ ..,rfl,rfl⟩;refine (hc _ b1 rfl).trans (fV some ?_);have:(⟨dH++[v]⟩ :cp ag).eraseIdxIfInBounds dH.length=⟨dH⟩:=by apply Array.ext';simp [Gv];refine H (List.eraseIdx_append_of_length_le (fk _) ..) ?_;simp
 simp [e4,this]
noncomputable def rz (w:aG)(a K:y)(l dH:B ag)(v:ag)(ap:aK ag)(al:l.length<1000000)(he:l=dH++[v]) :cV w:=⟨0,_,ap,_,_,_,_,_,ab7 (w:=w) (a:=a) (K:=K) (ap:=ap) al he⟩
end
theorem aef {w:aG}{a K b9 cN q:y}{i:ai}{O:B (a6×y)}(aF:i=(q:ai))(a4:q<O.length)(al:O.length<1000000) :
  b0 w 2 (.call (.ref 65) ⟨[.ref a,.int 0 b9,.int i cN],[]⟩) none [(a,dA O K)] (λ_=>.ok (.ret .none)) (λ_=>[dA (lu O 0 q) K]) (λ_=>[]) (λ_=>bZ):=by
 subst aF;exact OI (p:=0) a4 al
noncomputable def RO (w:aG)(a K b9 cN q:y)(i:ai)(O:B (a6×y))(aF:i=(q:ai))(a4:q<O.length)(al:O.length<1000000) :cV w:=⟨2,_,none,_,_,_,_,_,aef (w:=w) (a:=a) (K:=K) (b9:=b9) (cN:=cN) aF a4 al⟩
section
noncomputable def Yp (w:aG)(a K:y)(O:B (a6×y))(x:a6)(am:y)(he:O.map c1++[.str x am]=(O++[(x,am)]).map c1)(ex:((O++[(x,am)]).map c1).length=O.length+1)(oI:O.length<10000)(aF:((O.length+1:y) :ai) - 1=(O.length:ai))(n t:y) :bb w:=
  .ax (aY 0x1121111222220) [1,0,2] 1 (hS w a K (dF c1 O) (dF c1 (O++[(x,am)])) (.str x am) none (by first | lia | (simp;done) | (simp;lia)) he) [0] λah=>.ax [0,2,0,0,2] [0,2] 0 (kz w a (K+1) (dF c1 (O++[(x,am)])) (O.length+1) none ex (by first | lia | (simp;done) | (simp;lia))) [0] λaN=>.ax [0] [0,0,2] 0 (RO w a (K+1) (ah 1) (aN 1+1) O.length (↑(O.length+1) - 1) (O++[(x,am)]) aF (by first | lia | (simp;done) | (simp;lia)) (by first | lia | (simp;done) | (simp;lia))) [0] λbx=>.bd [] [] 0 (.ret (.ok (.ret .none))) [(0,{cls:=(.type "list"),data:=(.seq {toList:=dF c1 (lu (O++[(x,am)]) 0 O.length)} (K+1))})]
theorem Yq (w:aG)(a K:y)(O:B (a6×y))(x:a6)(am:y)(he:O.map c1++[.str x am]=(O++[(x,am)]).map c1)(ex:((O++[(x,am)]).map c1).length=O.length+1)(oI:O.length<10000)(aF:((O.length+1:y) :ai) - 1=(O.length:ai)) :b2 w 3 none [(a,dA O K)] (.call (.ref 51) ⟨[.ref a,.str x am],[]⟩) (Yp w a K O x am he ex oI aF):=c6
section
variable (w:aG)(a K:y)(x:a6)(am:y)
noncomputable def Yi (n t:y) :bb w:=
  .bd (aY 0x12111112221111111112220) sl 1 (.ret (.ok (.ret (.str x am)))) [(0,{cls:=(.type "list"),data:=(.seq ⟨[]⟩ (K+1))})]
theorem Yj:b2 w 4 none [(a,I [.str x am] K)] (.call (.ref 58) ⟨[.ref a],[]⟩) (Yi w K x am):=c6
end
noncomputable def Yk (w:aG)(a K:y)(O:B (a6×y))(h aq:a6×y)(he:(h::O++[aq]).map c1=c1 h::O.map c1++[.str aq.1 aq.2])(hs:(c1 h::O.map c1).set 0 (.str aq.1 aq.2)=(aq::O).map c1)(ex:(c1 h::O.map c1).length=O.length+1)(oI:O.length<10000)(al:((h::O++[aq]).map c1).length<1000000)(n t:y) :bb w:=
  .ax (aY 0x1111112220) [1,0,2] 1 (rz w a K (dF c1 (h::O++[aq])) (c1 h::dF c1 O) (.str aq.fst aq.snd) none al he) [0] λah=>.ax [2,2,2,1,1] [2] 0 (kz w a (K+1) (c1 h::dF c1 O) (O.length+1) none ex (by first | lia | (simp;done) | (simp;lia))) [0] λaN=>.ax [2,1,1,1,1] [0,2] 0 (ka w a (K+1) (aN 1) 0 0 (c1 h::dF c1 O) (.str h.fst h.snd) none rfl (by first | lia | (simp;done) | (simp;lia)) rfl) [0] λbx=>.ax (aY 0x11112222) [0,2] 0 (B1 w a (K+1) (bx 1+1) 0 0 (c1 h::dF c1 O) (dF c1 (aq::O)) (.str aq.fst aq.snd) none rfl (by first | lia | (simp;done) | (simp;lia)) (by first | lia | (simp;done) | (simp;lia)) hs) [0] λcj=>.ax [0,2,0] [2] 0 (RP w a (K+1) (cj 1) (aq::O) (by first | lia | (simp;done) | (simp;lia)) (by first | lia | (simp;done) | (simp;lia))) [0] λcg=>.bd [2] [] 0 (.ret (.ok (.ret (.str h.fst h.snd)))) [(0,{cls:=(.type "list"),data:=(.seq {toList:=dF c1 (sF (aq::O))} (K+1))})]
theorem Yl (w:aG)(a K:y)(O:B (a6×y))(h aq:a6×y)(he:(h::O++[aq]).map c1=c1 h::O.map c1++[.str aq.1 aq.2])(hs:(c1 h::O.map c1).set 0 (.str aq.1 aq.2)=(aq::O).map c1)(ex:(c1 h::O.map c1).length=O.length+1)(oI:O.length<10000)(al:((h::O++[aq]).map c1).length<1000000) :b2 w 4 none [(a,dA (h::O++[aq]) K)] (.call (.ref 58) ⟨[.ref a],[]⟩) (Yk w a K O h aq he hs ex oI al):=c6
noncomputable def nN (O:B (a6×y))(p:a6×y) :B (a6×y):=lu (O++[p]) 0 O.length
noncomputable def m6:B (a6×y)->B (a6×y)
 | []=>[]
 | h::T=>sF ((h::T).getLast (by simp)::(h::T).dropLast)
theorem acj {w:aG}{a K am:y}{x:a6}{O:B (a6×y)}(al:O.length<10000) :
  b0 w 3 (.call (.ref 51) ⟨[.ref a,.str x am],[]⟩) none [(a,dA O K)] (λ_=>.ok (.ret .none)) (λ_=>[dA (nN O (x,am)) (K+1)]) (λ_=>[]) (λ_=>bZ):=
 dy (Yq w a K O x am (by simp) (by simp) al (by lia)) (λn t X c d=>ca c d []) λn t X c d=>⟨by kernel_rfl,rfl,trivial⟩
theorem Ym {w:aG}{a K:y}{h:a6×y}{T:B (a6×y)}(al:T.length<10000) :
  b0 w 4 (.call (.ref 58) ⟨[.ref a],[]⟩) none [(a,dA (h::T) K)] (λ_=>.ok (.ret (.str h.1 h.2))) (λ_=>[dA (m6 T) (K+1)]) (λ_=>[]) (λ_=>bZ):=by
 cases T with
 | nil=>exact dy (Yj w a K h.1 h.2) (λn t X c d=>ca c d []) λn t X c d=>⟨by kernel_rfl,rfl,trivial⟩
 | cons t T=>
  have e:h::(t::T)=h::(t::T).dropLast++[(t::T).getLast (by simp)]:=by rw [GQ,Qc]
  have aq:=mf (bB:=λ_=>.ok (.ret (.str h.1 h.2))) (cB:=λ_=>[dA (m6 (t::T)) (K+1)]) (bV:=λ_=>[]) (cond:=λ_=>bZ) (Yl w a K (t::T).dropLast h ((t::T).getLast (by simp)) (by simp) (by simp) (by simp) (by simp at al ⊢;lia) (by simp at al ⊢;lia)) λn t ah _ aN _ bx _ cj _ cg _ c d=>⟨ca c d [],rfl,rfl,rfl,rfl,rfl,trivial⟩;rw [<- e] at aq;exact aq
noncomputable def HV (w:aG)(a K am:y)(x:a6)(O:B (a6×y))(al:O.length<10000) :cV w:=⟨3,_,none,_,_,_,_,_,acj (w:=w) (a:=a) (K:=K) (am:=am) (x:=x) al⟩
end
section
variable {w:aG}
noncomputable abbrev fG:=a6×y×ag
noncomputable abbrev mR (P:bp)(e:fG) :f8:=⟨hs P e.1,.str e.1 e.2.1,e.2.2⟩
noncomputable abbrev bT (P:bp)(aC:B fG)(K:y) :ao:={cls:=.type "dict",data:=.dict ⟨aC.map (mR P)⟩ K}
noncomputable def ef (aC:B fG)(x:a6) :aK ag:=(aC.find? λe=>e.1==x).map (·.2.2)
theorem Ca (aC:B fG) :KeysOf (h4 aL w) ⟨aC.map (mR w.params)⟩:=by
 intro e he;have oF:e∈aC.map (mR w.params):=by simpa using he
 obtain ⟨d,_,rfl⟩:=fC.mp oF;exact ⟨d.1,by simp [h4,BH],rfl⟩
theorem Cb {h:gg}{d K:y}{aC:B fG}(e:h.get? d=some (bT w.params aC K)) :h.MapOf (h4 aL w) d (ef aC):=by
 refine ⟨_,_,K,e,⟨rfl,rfl,rfl⟩,rfl,Ca aC,λk=>?_⟩;unfold findBy ef;simp only [List.find?_toArray,List.find?_map]
 induction h:aC.find? ((λe=>(h4 aL w).is k e.key)∘mR w.params) with
 | none=>
  have:(aC.find? λe=>e.1==k)=none:=by refine df h ?_;rfl
  refine H this ?_;rfl
 | some x=>
  have:(aC.find? λe=>e.1==k)=some x:=by refine df h ?_;rfl
  refine H this ?_;rfl
theorem Il {s:aR}{d K:y}{aC:B fG}(e:s.heap.get? d=some (bT w.params aC K)) :s.TypeIs (.ref d) "dict":=⟨_,e,rfl⟩
theorem nl (x:a6)(t:y) :(h4 aL w).is x (.str x t)=true:=by simp [h4,BH]
theorem An {bj:y}{ap:aK ag}{code:cn}{a:aM}{o:ao}{v:y->ag}
  (h:∀ A s,og w bj A ap s->(935<=a∨a=894)->s.heap.get? a=some o->codeAny (model aL w) A code (λr an=>∃ be,r= .ok (.ret (v be))/\vu s an) s) :
  b0 w bj code ap [(a,o)] (λx=>.ok (.ret (v (x 2)))) (λ_=>[o]) (λ_=>[]) (λ_=>bZ):=λA s aS has bU=>by
 refine gR (h A s aS (bU.free a (by simp)) (has (a,o) (cY ..))) ?_;rintro r an ⟨be,rfl,hs⟩;exact ⟨ca an.heap.objs.size an.toks [be],rfl,trivial,rfl,rfl,hs.yk has⟩
theorem Lt {d:aM}(h:935<=d∨d=894) :(d==sysModules)=false:=by rw [Q9];intro e;subst e;rcases h with h | h <;> exact absurd h (by decide)
theorem SR {d K t:y}{aC:B fG}{x:a6}{v:ag}{ap:aK ag}(bc:(ef aC x).getD .none=v) :
  b0 w 0 (.builtin "dict.get" ⟨[.ref d,.str x t],[]⟩) ap [(d,bT w.params aC K)] (λ_=>.ok (.ret v)) (λ_=>[bT w.params aC K]) (λ_=>[]) (λ_=>bZ):=by
 subst bc;refine An (v:=λ_=>(ef aC x).getD .none) λA s aS a7 b1=>?_;refine h5 (b:=Builtin.«dict.get») (kd (by kernel_rfl)) λei Q E gG dh dC iB=>?_;show wpAny _ _ (dictGet d (.str x t) >>= _) _ _ s;refine bE (Py (nl x t) (Cb b1) ?_);generalize ef aC x=Ej at dh ⊢
 induction Ej with
 | some v=>exact wpAny_pure (dh _ _ ⟨0,rfl,rfl,rfl,rfl⟩)
 | none=>show wpAny _ _ (Builtin.Dict.missed d (.str x t) >>= _) _ _ _;exact bE (wpAny_missed_other (Lt a7) (wpAny_pure (dh _ _ ⟨0,rfl,rfl,rfl,rfl⟩)))
theorem SU {d K t:y}{aC:B fG}{x:a6}{v:ag}{ap:aK ag}(bc:ef aC x=some v) :
  b0 w 0 (.builtin "dict.__getitem__" ⟨[.ref d,.str x t],[]⟩) ap [(d,bT w.params aC K)] (λ_=>.ok (.ret v)) (λ_=>[bT w.params aC K]) (λ_=>[]) (λ_=>bZ):=by
 refine An (v:=λ_=>v) λA s aS a7 b1=>?_;refine h5 entry_dict_getitem λei Q E gG dh dC iB=>?_;show wpAny _ _ (dictGet d (.str x t) >>= _) _ _ s;refine bE (Py (nl x t) (Cb b1) ?_);refine H bc ?_;exact wpAny_pure (dh _ _ ⟨0,rfl,rfl,rfl,rfl⟩)
theorem SS {d K t:y}{aC:B fG}{x:a6}{b:bW}{ap:aK ag}(bc:(ef aC x).isSome=b) :
  b0 w 0 (.builtin "dict.__contains__" ⟨[.ref d,.str x t],[]⟩) ap [(d,bT w.params aC K)] (λ_=>.ok (.ret (.bool b))) (λ_=>[bT w.params aC K]) (λ_=>[]) (λ_=>bZ):=by
 subst bc;refine An (v:=λ_=>.bool (ef aC x).isSome) λA s aS a7 b1=>?_;refine h5 entry_dict_contains λei Q E gG dh dC iB=>?_;show wpAny _ _ (dictGet d (.str x t) >>= _) _ _ s;refine bE (Py (nl x t) (Cb b1) ?_);generalize ef aC x=Ej at dh ⊢
 induction Ej with
 | some v=>exact wpAny_pure (dh _ _ ⟨0,rfl,rfl,rfl,rfl⟩)
 | none=>show wpAny _ _ (Builtin.Dict.pendingKey? d (.str x t) >>= _) _ _ _;exact bE (wpAny_pendingKey_other (Lt a7) (wpAny_pure (dh _ _ ⟨0,rfl,rfl,rfl,rfl⟩)))
theorem YQ {aC:B fG}{x:a6}(h:ef aC x=none) :(⟨aC.map (mR w.params)⟩ :cp f8).findIdx? (λe=>(h4 aL w).is x e.key)=none:=by rw [GU,GS];intro e he;obtain ⟨d,ap,rfl⟩:=fC.mp he;unfold ef at h;rw [Option.map_eq_none_iff,A8] at h;have:=h d ap;simpa [h4,BH] using this
theorem TZ {d K t:y}{aC:B fG}{x:a6}{v:ag}{ap:aK ag}(al:aC.length<1000000)(bc:ef aC x=none) :
  b0 w 0 (.builtin "dict.__setitem__" ⟨[.ref d,.str x t,v],[]⟩) ap [(d,bT w.params aC K)] (λ_=>.ok (.ret .none)) (λ_=>[bT w.params (aC++[(x,t,v)]) (K+1)]) (λ_=>[]) (λ_=>bZ):=by
 refine u3 (v:=λ_=>.none) λA s aS b1=>?_;refine h5 entry_dict_setitem λei Q E gG dh dC iB=>?_;show wpAny _ _ (Builtin.Dict.notOrdered "__setitem__" ⟨[.ref d,.str x t,v],[]⟩ >>= _) _ _ s;refine bE (afQ (Il b1) ?_);show wpAny _ _ (dictSet d (.str x t) v >>= _) _ _ s;refine bE ?_;unfold dictSet
 try with_reducible refine oa ?_
 refine bE ((h4 aL w).pyHash (nl x t) ?_);unfold dictSetHashed
 try with_reducible refine oa ?_
 refine bE (wpAny_dictFind_of (s:={s with toks:=s.toks+1}) (nl x t) b1 rfl (Ca aC) ?_);refine H (YQ bc ..) ?_;refine bE (wpAny_rule (wpAny_updateDictKeys (hz:=by simp [sizeLine];omega) (s:={s with toks:=s.toks+1}) b1 rfl (wpAny_pure (dh _ _ ⟨0,rfl,?_,hQ ..,rfl,rfl⟩))));refine (hc _ b1 rfl).trans (fV some ?_);simp [Obj.mapDictKeys,h4,hashStr,hs]
theorem IY {dd jt:Type}(f:dd->jt) :∀ (l:B dd) (i:y),(l.map f).eraseIdx i=(l.eraseIdx i).map f
 | [],_=>rfl
 | _::_,0=>rfl
 | a::l,i+1=>by simp [IY f l i]
noncomputable def mV (aC:B fG)(x:a6) :B fG:=aC.eraseP λe=>e.1==x
theorem SC {d K t:y}{aC:B fG}{x:a6}{ap:aK ag}(al:aC.length<1000000)(bc:(ef aC x).isSome=true) :
  b0 w 0 (.builtin "dict.__delitem__" ⟨[.ref d,.str x t],[]⟩) ap [(d,bT w.params aC K)] (λ_=>.ok (.ret .none)) (λ_=>[bT w.params (mV aC x) (K+1)]) (λ_=>[]) (λ_=>bZ):=by
 refine u3 (v:=λ_=>.none) λA s aS b1=>?_;refine h5 (b:=Builtin.«dict.__delitem__») (kd (by kernel_rfl)) λei Q E gG dh dC iB=>?_;unfold Builtin.«dict.__delitem__»;refine bE ?_;unfold Builtin.Dict.dictSlotArgs;refine bE (afQ (Il b1) ?_);show wpAny _ _ (pure (Value.ref d,Value.str x t)) _ _ s;refine wpAny_pure ?_;show wpAny _ _ (PK d (.str x t) >>= _) _ _ s;refine bE ?_;unfold PK
 try with_reducible refine oa ?_
 refine bE ((h4 aL w).pyHash (nl x t) ?_);refine bE (wpAny_dictFind_of (s:={s with toks:=s.toks+1}) (nl x t) b1 rfl (Ca aC) ?_);obtain ⟨v,bc⟩:=Bq.mp bc
 induction aF:(⟨aC.map (mR w.params)⟩ :cp f8).findIdx? (λe=>(h4 aL w).is x e.key) with
 | none=>rw [GU,GS] at aF;unfold ef at bc;obtain ⟨e,he,_⟩:=Option.map_eq_some_iff.mp bc;have:=aF (mR w.params e) (ep (List.mem_of_find?_eq_some he));have aJ:=List.find?_some he;simp [h4,BH] at this aJ;exact absurd aJ this
 | some i=>
  have pB:=aF;rw [GU] at pB;have kB:aC.findIdx? (λe=>e.1==x)=some i:=by rw [List.findIdx?_map] at pB;exact pB
  obtain ⟨io,_⟩:=List.findIdx?_eq_some_iff_getElem.mp kB;refine bE (wpAny_dictEntries (s:={s with toks:=s.toks+1}) b1 rfl ?_);have a5:(⟨aC.map (mR w.params)⟩ :cp f8)[i]? =some (mR w.params aC[i]):=by simp [io]
  refine H a5 ?_;refine bE (wpAny_updateDictKeysTo (f:=λaC=>aC.eraseIdxIfInBounds i) (s:={s with toks:=s.toks+1}) b1 rfl ?_ (by have:=List.length_eraseIdx_le (dF (mR w.params) aC) i;rw [de] at this;simp [sizeLine,Gv,io];omega));refine wpAny_pure ?_;refine bE (u7 (wpAny_pure (dh _ _ ⟨0,rfl,?_,hQ ..,rfl,rfl⟩)));refine (hc _ b1 rfl).trans (fV some ?_);have:(⟨aC.map (mR w.params)⟩ :cp f8).eraseIdxIfInBounds i=⟨(mV aC x).map (mR w.params)⟩:=by apply Array.ext';unfold mV;refine H (List.eraseP_eq_eraseIdx ..) (H kB ?_);simp [Gv,io];exact IY _ aC i
  simp [Obj.mapDictKeys,this]
noncomputable def jf (w:aG)(d K t:y)(aC:B fG)(x:a6)(v:ag)(ap:aK ag)(bc:(ef aC x).getD .none=v) :cV w:=⟨0,_,ap,_,_,_,_,_,SR (w:=w) (d:=d) (K:=K) (t:=t) (ap:=ap) bc⟩
noncomputable def qk (w:aG)(d K t:y)(aC:B fG)(x:a6)(v:ag)(ap:aK ag)(bc:ef aC x=some v) :cV w:=⟨0,_,ap,_,_,_,_,_,SU (w:=w) (d:=d) (K:=K) (t:=t) (ap:=ap) bc⟩
noncomputable def HP (w:aG)(d K t:y)(aC:B fG)(x:a6)(b:bW)(ap:aK ag)(bc:(ef aC x).isSome=b) :cV w:=⟨0,_,ap,_,_,_,_,_,SS (w:=w) (d:=d) (K:=K) (t:=t) (ap:=ap) bc⟩
noncomputable def HS (w:aG)(d K t:y)(aC:B fG)(x:a6)(v:ag)(ap:aK ag)(al:aC.length<1000000)(bc:ef aC x=none) :cV w:=⟨0,_,ap,_,_,_,_,_,TZ (w:=w) (d:=d) (K:=K) (t:=t) (v:=v) (ap:=ap) al bc⟩
noncomputable def BS (w:aG)(d K t:y)(aC:B fG)(x:a6)(ap:aK ag)(al:aC.length<1000000)(bc:(ef aC x).isSome=true) :cV w:=⟨0,_,ap,_,_,_,_,_,SC (w:=w) (d:=d) (K:=K) (t:=t) (ap:=ap) al bc⟩
end
theorem Ky {w:aG}{id:kv}{args:mH}{aq PF:ai}{ap:aK ag}(e:∀ F n t,tD 0 ap F 100 (.bd [] [0] 0 (.ret (.ok (.ret (.int aq t)))) [] :bb w) [] n t (.builtin id args)=sR F (.bd [] [0] 0 (.ret (.ok (.ret (.int aq t)))) [] :bb w) [] 0 n)(hz:aq=PF) :
  b0 w 0 (.builtin id args) ap [] (λx=>.ok (.ret (.int PF (x 2)))) (λ_=>[]) (λ_=>[]) (λ_=>bZ):=by
 subst hz;exact FF 100 (λ_ t=>.bd [] [0] 0 (.ret (.ok (.ret (.int aq t)))) []) e λn t a c=>⟨ca a c [t],rfl,rfl,rfl,rfl,rfl,trivial⟩
noncomputable def jN (w:aG)(x as aq:ai)(t u:y)(ap:aK ag)(h:x+as=aq) :cV w:=
 ⟨0,.builtin "int.__add__" ⟨[.int x t,.int as u],[]⟩,ap,[],λx=>.ok (.ret (.int aq (x 2))),λ_=>[],λ_=>[],λ_=>bZ,Ky (aq:=x+as) (λ_ _ _=>by kernel_rfl) h⟩
noncomputable def yw (w:aG)(x as aq:ai)(t u:y)(ap:aK ag)(h:x - as=aq) :cV w:=
 ⟨0,.builtin "int.__sub__" ⟨[.int x t,.int as u],[]⟩,ap,[],λx=>.ok (.ret (.int aq (x 2))),λ_=>[],λ_=>[],λ_=>bZ,Ky (aq:=x - as) (λ_ _ _=>by kernel_rfl) h⟩
noncomputable def t3:B (B y):=[[98,32,99],[],[105,116,39,115],[35],[122],[90],[49,48],[57],[97,61,98],[126],[45],[121,92]]
noncomputable def ay (i:y) :a6:=U (t3.getD i [])
noncomputable abbrev el (bs:y) :ao:={cls:=.ref 188,data:=.plain,dict:=some bs}
noncomputable abbrev en (P:bp)(M ab ae ak aw:y)(dD:ag)(aP:ai)(ar:y)(aO:ai)(au:y) :ao:={cls:=.type "dict",data:=.dict ⟨[aj P Ny M (.ref aw),aj P Np ab dD,aj P Nt ae (.int aP ar),aj P Nx ak (.int aO au)]⟩ 4}
noncomputable abbrev fP (x:a6)(am:y)(Z:ai)(aE er b8:y) :ao:={cls:=.ref 91,data:=.plain,dict:=some er,slots:=⟨[some (.str x am),some (.int Z aE),some (.ref b8)]⟩}
section
noncomputable def QI (w:aG)(s bs aw M ab ae ak ar au K am:y)(aC:B fG)(x:a6)(DS:ef aC x=none)(bu:(ef aC x).getD .none= .none)(al:aC.length<1000)(n t:y) :bb w:=
  .ax (aY 0x136333320110001000166666005210000100010001520110001000155555550) sm 3 (jf w aw K am aC x .none none bu) [2] λah=>.ax (aY 0x133362011000100016808000008000000008080800089808000008000000008080800089808000008000000008080800089999990000080800000000000000000000000000006066) (aY 0x1200000000000000000100000) 4 (HS w aw K am aC x (.ref (ah 0+1)) none (by first | omega | (simp;done) | (simp;omega)) DS) [2] λaN=>.bd (aY 0x1dbb4bbbbb4445808000008000000008080800084445008080000080000000000080008555666) (aY 0x1000000000000000000000) 3 (.ret (.ok (.ret .none))) [(0,el bs),(1,en w.params M ab ae ak aw PySem.Value.none 0 ar 0 au),(2,bT w.params (aC++[(x,am,PySem.Value.ref (ah 0+1))]) (K+1)),(7,{cls:=(.ref 91),data:=.plain,dict:=(some (ah 0)),slots:=⟨[some (.str x am),some (.int 0 (aN 1+5)),some (.ref (ah 0+3))]⟩}),(9,{cls:=(.type "list"),data:=(.seq ⟨[]⟩ 0)})]
theorem QJ (w:aG)(s bs aw M ab ae ak ar au K am:y)(aC:B fG)(x:a6)(DS:ef aC x=none)(bu:(ef aC x).getD .none= .none)(al:aC.length<1000) :b2 w 3 none [(s,el bs),(bs,en w.params M ab ae ak aw .none 0 ar 0 au),(aw,bT w.params aC K)] (.call (.ref 138) ⟨[.ref s,.str x am],[]⟩) (QI w s bs aw M ab ae ak ar au K am aC x DS bu al):=by revert w;exact cX
section
variable (w:aG)(s bs aw M ab ae ak ar au K am lw pZ bn va j5 aE er b8 hY bh pW pm c7 jg qU c8 u0 ti lj mU:y)(Z nU pK:ai)(aC:B fG)(x as j6 p5 nm vb:a6)(l m:B ag)(bu:(ef aC x).getD .none= .ref bn)(m9:(ef aC j6).getD .none= .ref hY)(qI:(ef aC nm).getD .none= .ref qU)(al:l.length<1000000)(aU:m.length<1000000)(eU:Z+0=Z)
section
include va
noncomputable def QL (n t:y) :bb w:=
  .ax (aY 0x137333320110001000177777006210000100010001620110001000166666660) sm 3 (jf w aw K am aC x (.ref bn) none bu) [2] λah=>.ax (aY 0x15556004040000040000000000040004666777) uh 0 (jN w Z 0 Z aE (ah 1+4) none eU) [] λaN=>.bd (aY 0x1a88588888555640400000400000000404040004) (aY 0x100000000000) 3 (.ret (.ok (.ret .none))) [(0,el bs),(1,en w.params M ab ae ak aw PySem.Value.none 0 ar 0 au),(2,bT w.params aC K),(3,{cls:=(.ref 91),data:=.plain,dict:=(some er),slots:=⟨[some (.str as j5),some (.int Z (aN 2)),some (.ref b8)]⟩})]
theorem QM:b2 w 3 none [(s,el bs),(bs,en w.params M ab ae ak aw .none 0 ar 0 au),(aw,bT w.params aC K),(bn,fP as j5 Z aE er b8)] (.call (.ref 138) ⟨[.ref s,.str x am],[]⟩) (QL w bs aw M ab ae ak ar au K am bn j5 aE er b8 Z aC x as bu eU):=by revert w;exact cX
end
noncomputable def QX (n t:y) :bb w:=
  .ax (aY 0x139333320110001000199999008210000100010001820110001000188888880) sm 3 (jf w aw K am aC x (.ref bn) none bu) [2] λah=>.ax (aY 0x17778004040000040000000000040004888999) uh 0 (jN w Z 1 (Z+1) aE (ah 1+4) none rfl) [] λaN=>.ax (aY 0x13b3333201100010001bbbbb008210000100010001888aa7aaaaa777840400000400000000404040004) w1 2 (jf w aw K lw aC j6 (.ref hY) none m9) [2] λbx=>.ax (aY 0x16866665050000050000000000050005888bbb) f1 0 (hS w c7 jg l (l++[PySem.Value.str x am]) (.str x am) none al rfl) [5] λcj=>.bd (aY 0x1daa7aaaa) [0,0,0,0] 2 (.ret (.ok (.ret .none))) [(0,el bs),(1,en w.params M ab ae ak aw PySem.Value.none 0 ar 0 au),(2,bT w.params aC K),(3,{cls:=(.ref 91),data:=.plain,dict:=(some er),slots:=⟨[some (.str as j5),some (.int (Z+1) (aN 2)),some (.ref b8)]⟩}),(4,fP p5 bh nU pW pm c7),(5,I (l++[PySem.Value.str x am]) (jg+1))]
theorem QY:b2 w 3 none [(s,el bs),(bs,en w.params M ab ae ak aw .none 0 ar 0 au),(aw,bT w.params aC K),(bn,fP as j5 Z aE er b8),(hY,fP p5 bh nU pW pm c7),(c7,I l jg)] (.call (.ref 138) ⟨[.ref s,.str x am,.str j6 lw],[]⟩) (QX w bs aw M ab ae ak ar au K am lw bn j5 aE er b8 hY bh pW pm c7 jg Z nU aC x as j6 p5 l bu m9 al):=by revert w;exact cX
section
variable (m9:(ef aC j6).getD .none= .ref bn)(al:l.length<1000000)
noncomputable def QV (n t:y) :bb w:=
  .ax (aY 0x138333320110001000188888007210000100010001720110001000177777770) sm 3 (jf w aw K am aC x (.ref bn) none bu) [2] λah=>.ax (aY 0x16667004040000040000000000040004777888) uh 0 (jN w Z 1 (Z+1) aE (ah 1+4) none rfl) [] λaN=>.ax (aY 0x13a3333201100010001aaaaa00721000010001000177799699999666740400000400000000404040004) w1 2 (jf w aw K lw aC j6 (.ref bn) none m9) [2] λbx=>.ax (aY 0x15755554040000040000000000040004777aaa) f1 0 (hS w c7 jg l (l++[PySem.Value.str x am]) (.str x am) none al rfl) [4] λcj=>.bd (aY 0x1c9969999) [0,0,0,0] 2 (.ret (.ok (.ret .none))) [(0,el bs),(1,en w.params M ab ae ak aw PySem.Value.none 0 ar 0 au),(2,bT w.params aC K),(3,{cls:=(.ref 91),data:=.plain,dict:=(some er),slots:=⟨[some (.str as j5),some (.int (Z+1) (aN 2)),some (.ref c7)]⟩}),(4,I (l++[PySem.Value.str x am]) (jg+1))]
theorem QW:b2 w 3 none [(s,el bs),(bs,en w.params M ab ae ak aw .none 0 ar 0 au),(aw,bT w.params aC K),(bn,fP as j5 Z aE er c7),(c7,I l jg)] (.call (.ref 138) ⟨[.ref s,.str x am,.str j6 lw],[]⟩) (QV w bs aw M ab ae ak ar au K am lw bn j5 aE er c7 jg Z aC x as j6 l bu m9 al):=by revert w;exact cX
end
noncomputable def QS (n t:y) :bb w:=
  .ax (aY 0x13b3333201100010001bbbbb00a210000100010001a201100010001aaaaaaa0) sm 3 (jf w aw K am aC x (.ref bn) none bu) [2] λah=>.ax (aY 0x1999a004040000040000000000040004aaabbb) uh 0 (jN w Z 2 (Z+2) aE (ah 1+4) none rfl) [] λaN=>.ax (aY 0x13d3333201100010001ddddd00a210000100010001aaacc9ccccc999a40400000400000000404040004) w1 2 (jf w aw K lw aC j6 (.ref hY) none m9) [2] λbx=>.ax (aY 0x17a77775050000050000000000050005aaaddd) f1 0 (hS w c7 jg l (l++[PySem.Value.str x am]) (.str x am) none al rfl) [6] λcj=>.ax (aY 0x13e3333201100010001eeeee00a210000100010001aaacc9cccc) xc 1 (jf w aw K pZ aC nm (.ref qU) none qI) [2] λcg=>.ax (aY 0x18a88886060000060000000000060006aaaeee) f1 0 (hS w lj mU m (m++[PySem.Value.str x am]) (.str x am) none aU rfl) [7] λfc=>.bd (lF 0x1100c0c090c0c0c0c) [0,0,0,0] 2 (.ret (.ok (.ret .none))) [(0,el bs),(1,en w.params M ab ae ak aw PySem.Value.none 0 ar 0 au),(2,bT w.params aC K),(3,{cls:=(.ref 91),data:=.plain,dict:=(some er),slots:=⟨[some (.str as j5),some (.int (Z+2) (aN 2)),some (.ref b8)]⟩}),(4,fP p5 bh nU pW pm c7),(5,fP vb c8 pK u0 ti lj),(6,I (l++[PySem.Value.str x am]) (jg+1)),(7,I (m++[PySem.Value.str x am]) (mU+1))]
theorem QT:b2 w 3 none [(s,el bs),(bs,en w.params M ab ae ak aw .none 0 ar 0 au),(aw,bT w.params aC K),(bn,fP as j5 Z aE er b8),(hY,fP p5 bh nU pW pm c7),(qU,fP vb c8 pK u0 ti lj),(c7,I l jg),(lj,I m mU)] (.call (.ref 138) ⟨[.ref s,.str x am,.str j6 lw,.str nm pZ],[]⟩) (QS w bs aw M ab ae ak ar au K am lw pZ bn j5 aE er b8 hY bh pW pm c7 jg qU c8 u0 ti lj mU Z nU pK aC x as j6 p5 nm vb l m bu m9 qI al aU):=by revert w;exact cX
section
variable (m9:(ef aC j6).getD .none= .ref bn)(qI:(ef aC nm).getD .none= .ref qU)(al:l.length<1000000)(aU:m.length<1000000)
noncomputable def QO (n t:y) :bb w:=
  .ax NR sm 3 (jf w aw K am aC x (.ref bn) none bu) [2] λah=>.ax Nu uh 0 (jN w Z 2 (Z+2) aE (ah 1+4) none rfl) [] λaN=>.ax NM w1 2 (jf w aw K lw aC j6 (.ref bn) none m9) [2] λbx=>.ax (aY 0x16966664040000040000000000040004999ccc) f1 0 (hS w c7 jg l (l++[PySem.Value.str x am]) (.str x am) none al rfl) [5] λcj=>.ax Nj xc 1 (jf w aw K pZ aC nm (.ref qU) none qI) [2] λcg=>.ax (aY 0x17977775050000050000000000050005999ddd) f1 0 (hS w lj mU m (m++[PySem.Value.str x am]) (.str x am) none aU rfl) [6] λfc=>.bd (aY 0x1fbb8bbbb) [0,0,0,0] 2 (.ret (.ok (.ret .none))) [(0,el bs),(1,en w.params M ab ae ak aw PySem.Value.none 0 ar 0 au),(2,bT w.params aC K),(3,{cls:=(.ref 91),data:=.plain,dict:=(some er),slots:=⟨[some (.str as j5),some (.int (Z+2) (aN 2)),some (.ref c7)]⟩}),(4,fP vb c8 pK u0 ti lj),(5,I (l++[PySem.Value.str x am]) (jg+1)),(6,I (m++[PySem.Value.str x am]) (mU+1))]
theorem QP:b2 w 3 none [(s,el bs),(bs,en w.params M ab ae ak aw .none 0 ar 0 au),(aw,bT w.params aC K),(bn,fP as j5 Z aE er c7),(qU,fP vb c8 pK u0 ti lj),(c7,I l jg),(lj,I m mU)] (.call (.ref 138) ⟨[.ref s,.str x am,.str j6 lw,.str nm pZ],[]⟩) (QO w bs aw M ab ae ak ar au K am lw pZ bn j5 aE er c7 jg qU c8 u0 ti lj mU Z pK aC x as j6 nm vb l m bu m9 qI al aU):=by revert w;exact cX
end
section
variable (qI:(ef aC nm).getD .none= .ref bn)(al:l.length<1000000)(aU:m.length<1000000)
noncomputable def QQ (n t:y) :bb w:=
  .ax NR sm 3 (jf w aw K am aC x (.ref bn) none bu) [2] λah=>.ax Nu uh 0 (jN w Z 2 (Z+2) aE (ah 1+4) none rfl) [] λaN=>.ax NM w1 2 (jf w aw K lw aC j6 (.ref hY) none m9) [2] λbx=>.ax (aY 0x16966665050000050000000000050005999ccc) f1 0 (hS w c7 jg l (l++[PySem.Value.str x am]) (.str x am) none al rfl) [5] λcj=>.ax Nj xc 1 (jf w aw K pZ aC nm (.ref bn) none qI) [2] λcg=>.ax (aY 0x17977774040000040000000000040004999ddd) f1 0 (hS w lj mU m (m++[PySem.Value.str x am]) (.str x am) none aU rfl) [6] λfc=>.bd (aY 0x1fbb8bbbb) [0,0,0,0] 2 (.ret (.ok (.ret .none))) [(0,el bs),(1,en w.params M ab ae ak aw PySem.Value.none 0 ar 0 au),(2,bT w.params aC K),(3,{cls:=(.ref 91),data:=.plain,dict:=(some er),slots:=⟨[some (.str as j5),some (.int (Z+2) (aN 2)),some (.ref lj)]⟩}),(4,fP p5 bh nU pW pm c7),(5,I (l++[PySem.Value.str x am]) (jg+1)),(6,I (m++[PySem.Value.str x am]) (mU+1))]
theorem QR:b2 w 3 none [(s,el bs),(bs,en w.params M ab ae ak aw .none 0 ar 0 au),(aw,bT w.params aC K),(bn,fP as j5 Z aE er lj),(hY,fP p5 bh nU pW pm c7),(c7,I l jg),(lj,I m mU)] (.call (.ref 138) ⟨[.ref s,.str x am,.str j6 lw,.str nm pZ],[]⟩) (QQ w bs aw M ab ae ak ar au K am lw pZ bn j5 aE er hY bh pW pm c7 jg lj mU Z nU aC x as j6 p5 nm l m bu m9 qI al aU):=by revert w;exact cX
end
end
theorem b0.afF {w:aG}{bj:y}{code:cn}{ap:aK ag}{pre fX:B (aM×ao)}{bB:(y->y)->cD}{cB hu:(y->y)->B ao}{bV:(y->y)->B (aM×ao)}{cond:(y->y)->Prop}
  (h:b0 w bj code ap pre bB cB bV cond)(hs:∀ p∈pre,p∈fX)(bK:(fX.map (·.1)).Nodup->(pre.map (·.1)).Nodup)(al:∀ x,(hu x).length=fX.length)
  (eG:(fX.map (·.1)).Nodup->∀ x,cond x->∀ p∈(fX.map (·.1)).zip (hu x),p∈(pre.map (·.1)).zip (cB x)∨(p∈fX/\p.1 ∉ pre.map (·.1))) :b0 w bj code ap fX bB hu bV cond:=by
 intro A s aS has bU;have qF:∀ a∈pre.map (·.1),a∈fX.map (·.1):=by intro a bY;obtain ⟨p,L,rfl⟩:=fC.mp bY;exact ep (hs p L)
 refine gR (h A s aS (λp L=>has p (hs p L)) ⟨bK bU.e8,λa bY=>bU.free a (qF a bY)⟩) ?_;rintro r an ⟨x,ke,aX,bG,az,a7⟩;refine ⟨x,ke,aX,bG,az,⟨by rw [al,de],λp L=>?_,a7.bV,a7.e8,a7.fresh,⟨λb o e aQ=>a7.eD.eO b o e λaU=>aQ (qF b aU),a7.eD.size,a7.eD.os,a7.eD.gens⟩⟩⟩;rcases eG bU.e8 x aX p L with h | ⟨h,ct⟩
 ·exact a7.has p h
 ·exact a7.eD.eO p.1 p.2 (has p h) ct
noncomputable def mn:B y:=(dW 0 12)
theorem zM {i:y}(h:i<12) :i∈mn:=(G4.mpr h:i∈lA 12)
theorem HB {p:y->Prop}(h:p 0/\p 1/\p 2/\p 3/\p 4/\p 5/\p 6/\p 7/\p 8/\p 9/\p 10/\p 11){i:y}(aF:i<12) :p i:=by have c:∀ {l:B y} {a:y},p a->(∀ i∈l,p i)->∀ i∈a::l,p i:=λaz aJ i aF=>(dx.mp aF).elim (λe=>e▸az) (aJ i);obtain ⟨bG,az,aJ,bg,cS,dI,gl,m1,jU,rR,y0,v6⟩:=h;exact c bG (c az (c aJ (c bg (c cS (c dI (c gl (c m1 (c jU (c rR (c y0 (c v6 λ_ k=>absurd k c4))))))))))) i (zM aF)
structure cs where
 (s bs aw M ab ae ak:y)
 (bn er bl cb:y->y)
structure cU where
 dD:ag
 aP:ai
 ar:y
 aO:ai
 au:y
 Z:y->ai
 aE:y->y
 aa:y->B (y×y)
 K:y->y
noncomputable abbrev ad (p:y×y) :ag:=.str (ay p.1) p.2
noncomputable abbrev ip (l:B (y×y))(K:y) :ao:=I (l.map ad) K
noncomputable def cQ (z:cs) :B fG:=mn.map λi=>(ay i,z.cb i,.ref (z.bn i))
noncomputable abbrev kl (z:cs)(S:cU)(i:y) :aM×ao:=(z.bn i,fP (ay i) (z.cb i) (S.Z i) (S.aE i) (z.er i) (z.bl i))
noncomputable abbrev kj (z:cs)(S:cU)(i:y) :aM×ao:=(z.bl i,ip (S.aa i) (S.K i))
noncomputable abbrev yl (P:bp)(z:cs)(S:cU) :B (aM×ao):=[(z.s,el z.bs),(z.bs,en P z.M z.ab z.ae z.ak z.aw S.dD S.aP S.ar S.aO S.au),(z.aw,bT P (cQ z) 12)]
noncomputable abbrev dZ (P:bp)(z:cs)(S:cU)(A af:B y) :B (aM×ao):=yl P z S++(A.map (kl z S)++af.map (kj z S))
noncomputable abbrev bX (P:bp)(z:cs)(S:cU) :B (aM×ao):=dZ P z S mn mn
theorem qP (z:cs){i:y}(h:i<12) :ef (cQ z) (ay i)=some (.ref (z.bn i)):=
 HB (p:=λi=>ef (cQ z) (ay i)=some (.ref (z.bn i))) ⟨by kernel_rfl,by kernel_rfl,by kernel_rfl,by kernel_rfl,by kernel_rfl,by kernel_rfl,by kernel_rfl,by kernel_rfl,by kernel_rfl,by kernel_rfl,by kernel_rfl,by kernel_rfl⟩ h
theorem jD (z:cs){i:y}(h:i<12) :(ef (cQ z) (ay i)).getD .none= .ref (z.bn i):=by refine H (qP z h ..) ?_;rfl
theorem EO {P:bp}{z:cs}{S dc:cU}{A af:B y} :(dZ P z S A af).map (·.1)=(dZ P z dc A af).map (·.1):=by refine H (c0 ..) (H (c0 ..) (H (c0 ..) (H (c0 ..) (H (mM ..) (H (mM ..) (H (mM ..) (H (mM ..) ?_)))))));rfl
theorem Gr (l:B (aM×ao)) :(l.map (·.1)).zip (l.map (·.2))=l:=by refine H (List.zip_map' ..) ?_;exact List.map_id l
theorem Nf {A:B y}(dC:A.Nodup)(kA:∀ i∈A,i<12) :mn.Perm (A++mn.filter λi=>!lT i A):=by
 have aw:mn.Nodup:=zO rfl;refine (x6 aw (fA.mpr ⟨dC,aw.sublist x2,λa bY b aQ e=>?_⟩)).mpr λa=>?_
 ·have:=(mN.mp aQ).2
  rw [<- e,sa.mpr bY] at this;injection this
 ·rw [dU,mN]
  constructor
  ·intro k
   induction e:lT a A with
   | true=>exact .inl (sa.mp e)
   | false=>exact .inr ⟨k,rfl⟩
  ·rintro (k | k)
   ·exact zM (kA a k)
   ·exact k.1
noncomputable def p7 (S dc:cU)(A af:B y) :Prop:=(∀ i,i ∉ A->dc.Z i=S.Z i/\dc.aE i=S.aE i)/\∀ i,i ∉ af->dc.aa i=S.aa i/\dc.K i=S.K i
noncomputable def iq (z:cs)(S:cU)(A af:B y) :B (aM×ao):=(mn.filter λi=>!lT i A).map (kl z S)++(mn.filter λi=>!lT i af).map (kj z S)
theorem uU {P:bp}{z:cs}{S dc:cU}{A af:B y}(dC:A.Nodup)(bM:af.Nodup)(kA:∀ i∈A,i<12)(pv:∀ i∈af,i<12)(h:p7 S dc A af) :(bX P z dc).Perm (dZ P z dc A af++iq z S A af):=by
 have e:iq z S A af=iq z dc A af:=by
  have f:∀ {C:B y} {i},i∈(mn.filter λi=>!lT i C)->i ∉ C:=λ{C i} aF aU=>by have:=(mN.mp aF).2;rw [sa.mpr aU] at this;cases this
  unfold iq;exact H (A9 λi aF=>show kl z S i=kl z dc i by unfold kl;rw [(h.1 i (f aF)).1,(h.1 i (f aF)).2] ..) (H (A9 λi aF=>show kj z S i=kj z dc i by unfold kj;rw [(h.2 i (f aF)).1,(h.2 i (f aF)).2] ..) rfl)
 refine H e ?_;have dV:=(Nf dC kA).map (kl z dc);have fj:=(Nf bM pv).map (kj z dc);rw [c0] at dV fj;unfold iq;refine H (f9 ..) ?_;refine GO _ ((dV.append fj).trans ?_);refine H (f9 ..) (H (f9 ..) ?_);exact (Bf _ _ _).append_left _
theorem b0.Wx {w:aG}{bj:y}{code:cn}{ap:aK ag}{pre fX R:B (aM×ao)}{bB:(y->y)->cD}{cB hu:(y->y)->B ao}{bV:(y->y)->B (aM×ao)}{cond:(y->y)->Prop}
  (h:b0 w bj code ap pre bB cB bV cond)(L:fX.Perm (pre++R))(al:∀ x,(hu x).length=fX.length)(eG:∀ x,((fX.map (·.1)).zip (hu x)).Perm ((pre.map (·.1)).zip (cB x)++R)) :b0 w bj code ap fX bB hu bV cond:=by
 have aw:∀ h:(fX.map (·.1)).Nodup,(pre.map (·.1)).Nodup/\∀ p∈R,p.1 ∉ pre.map (·.1):=λh=>by have:=(L.map (·.1)).nodup_iff.mp h;rw [c0] at this;obtain ⟨iV,_,iF⟩:=fA.mp this;exact ⟨iV,λp L aU=>iF _ aU _ (ep L) rfl⟩
 refine h.afF (λp k=>L.mem_iff.mpr (eS _ k)) (λh=>(aw h).1) al λh x _ p k=>?_;rcases dU.mp ((eG x).mem_iff.mp k) with k | k
 ·exact .inl k
 ·exact .inr ⟨L.mem_iff.mpr (eJ _ k),(aw h).2 p k⟩
theorem u6 {w:aG}{bj:y}{code:cn}{ap:aK ag}{z:cs}{S:cU}{dc:(y->y)->cU}{bH:B (aM×ao)}{jR:(y->y)->B ao}{bB:(y->y)->cD}{bV:(y->y)->B (aM×ao)}{cond:(y->y)->Prop}(A af:B y)(dC:A.Nodup)(bM:af.Nodup)(kA:∀ i∈A,i<12)(pv:∀ i∈af,i<12)
  (h:b0 w bj code ap (bH++dZ w.params z S A af) bB (λx=>jR x++(dZ w.params z (dc x) A af).map (·.2)) bV cond)(al:∀ x,(jR x).length=bH.length)(az:∀ x,p7 S (dc x) A af) :
  b0 w bj code ap (bH++bX w.params z S) bB (λx=>jR x++(bX w.params z (dc x)).map (·.2)) bV cond:=by
 have a5:∀ {ei lx:B y} x,((bH++dZ w.params z S ei lx).map (·.1)).zip (jR x++(dZ w.params z (dc x) ei lx).map (·.2))=(bH.map (·.1)).zip (jR x)++dZ w.params z (dc x) ei lx:=by intro ei lx x;exact H (c0 ..) (H (Bh (by rw [de,al]) ..) (H (EO (S:=S) (dc:=dc x) ..) (H (Gr ..) rfl)))
 refine h.Wx (R:=iq z S A af) ?_ (λx=>?_) λx=>?_
 ·refine H (f9 ..) ?_
  exact (uU dC bM kA pv ⟨λ_ _=>⟨rfl,rfl⟩,λ_ _=>⟨rfl,rfl⟩⟩).append_left _
 ·refine H (ea ..) (H (ea ..) (H (al ..) ?_))
  rfl
 ·refine H (a5 ..) (H (a5 ..) (H (f9 ..) ?_))
  exact (uU dC bM kA pv (az x)).append_left _
theorem u5 {w:aG}{bj:y}{code:cn}{ap:aK ag}{z:cs}{S:cU}{dc:(y->y)->cU}{bB:(y->y)->cD}{bV:(y->y)->B (aM×ao)}{cond:(y->y)->Prop}(A af:B y)(dC:A.Nodup)(bM:af.Nodup)(kA:∀ i∈A,i<12)(pv:∀ i∈af,i<12)
  (h:b0 w bj code ap (dZ w.params z S A af) bB (λx=>(dZ w.params z (dc x) A af).map (·.2)) bV cond)(az:∀ x,p7 S (dc x) A af) :
  b0 w bj code ap (bX w.params z S) bB (λx=>(bX w.params z (dc x)).map (·.2)) bV cond:=
 u6 (bH:=[]) (jR:=λ_=>[]) A af dC bM kA pv h (λ_=>rfl) az
end
section
noncomputable def cF {dd:Type}(f:y->dd)(i:y)(v:dd) :y->dd:=λm=>if m=i then v else f m
theorem gB {dd:Type}(f:y->dd)(i:y)(v:dd) :cF f i v i=v:=d1 rfl
theorem jc {dd:Type}(f:y->dd){i j:y}(v:dd)(h:j≠i) :cF f i v j=f j:=dt h
theorem gW {i:y} :[i].Nodup:=gy.mpr ⟨c4,mO⟩
theorem sc {i j:y}(h:i≠j) :[i,j].Nodup:=gy.mpr ⟨λk=>h (dN.mp k),gW⟩
theorem kk:∀ m∈([] :B y),m<12:=λ_ k=>absurd k c4
theorem ic {i:y}(h:i<12) :∀ m∈[i],m<12:=λm k=>dN.mp k▸h
theorem r6 {i j:y}(h:i<12)(ct:j<12) :∀ m∈[i,j],m<12:=λm k=>(dx.mp k).elim (λe=>e▸h) (ic ct m)
theorem uQ {S:cU}{A af:B y} :p7 S S A af:=⟨λ_ _=>⟨rfl,rfl⟩,λ_ _=>⟨rfl,rfl⟩⟩
theorem FJ {S:cU} :p7 S S [] []:=uQ
theorem ss {dd jt:Type}(f:y->dd)(aI:y->jt)(j:y)(v:dd)(u:jt) :∀ i,i ∉ [j]->cF f j v i=f i/\cF aI j u i=aI i:=λi h=>⟨jc _ _ λe=>h (dN.mpr e),jc _ _ λe=>h (dN.mpr e)⟩
theorem mw {P:bp}{z:cs}{S:cU}{A af:B y}{N bo:B (aM×ao)}(dC:A.map (kl z S)=N)(bM:af.map (kj z S)=bo) :dZ P z S A af=yl P z S++(N++bo):=by rw [dZ,dC,bM]
theorem gV {dd jt:Type}{f:dd->jt}{i:dd}{A:B dd}{N:jt}{T:B jt}(h:f i=N)(ct:A.map f=T) :(i::A).map f=N::T:=by exact H (hd ..) (H h (H ct rfl))
theorem pJ {z:cs}{S:cU}{i t:y}{v:ai}(h:S.Z i=v)(ct:S.aE i=t) :kl z S i=(z.bn i,fP (ay i) (z.cb i) v t (z.er i) (z.bl i)):=by rw [kl,h,ct]
theorem tn {dd:Type}{l:B dd}{k:y}{a:dd}{r:B dd}(h:l.drop k=a::r) :l[k]? =some a/\l.drop (k+1)=r:=by
 constructor
 ·have:=fV (λl=>l[0]?) h
  rw [o9] at this;exact this
 ·have:=fV List.tail h
  rw [om] at this;exact this
noncomputable def ky (S:cU)(i am k:y)(ey:B y) :cU:=
 {S with Z:=cF S.Z i (S.Z i+ey.length),aE:=cF S.aE i k,aa:=ey.foldl (λf j=>cF f j (f j++[(i,am)])) S.aa,K:=ey.foldl (λf j=>cF f j (f j+1)) S.K}
noncomputable def j7 (S:cU) :Prop:=S.dD= .none/\S.aP=0/\S.aO=0
theorem Hx {S:cU}(h:j7 S)(i am k:y)(ey:B y) :j7 (ky S i am k ey):=h
noncomputable def BQ (w:aG)(z:cs)(S:cU)(c:cn)(i am:y)(ey:B y) :Prop:=
 b0 w 3 c none (bX w.params z S) (λ_=>.ok (.ret .none)) (λx=>(bX w.params z (ky S i am (x 2) ey)).map (·.2)) (λ_=>[]) (λ_=>bZ)
section
variable {z:cs}{S:cU}{i j k am m v:y}{ey:B y}
theorem Eo {l:B (y×y)}{p:y×y}{e:y}(h:S.aa i=l++[p])(ct:S.K i=e) :kj z S i=(z.bl i,I (l.map ad++[ad p]) e):=by rw [kj,h,ct,ip,c0];rfl
theorem CS {dd:Type}(aI:(y->dd)->y->dd) :∀ (ey:B y) (f:y->dd),m ∉ ey->ey.foldl (λf j=>cF f j (aI f j)) f m=f m
 | [],_,_=>rfl
 | j::ey,f,h=>(CS aI ey _ λk=>h (dG _ k)).trans (jc _ _ λe=>h (e▸cY ..))
theorem s2 {A af:B y}(dC:i∈A)(bM:∀ j∈ey,j∈af) :p7 S (ky S i am v ey) A af:=
 ⟨λm h=>⟨jc _ _ λe=>h (e▸dC),jc _ _ λe=>h (e▸dC)⟩,λm h=>⟨CS (λf j=>f j++[(i,am)]) ey S.aa λk=>h (bM m k),CS (λf j=>f j+1) ey S.K λk=>h (bM m k)⟩⟩
theorem s3 {u:ai}(h:S.Z i+(ey.length:ai)=u) :kl z (ky S i am v ey) i=(z.bn i,fP (ay i) (z.cb i) u v (z.er i) (z.bl i)):=pJ ((gB ..).trans h) (gB ..)
theorem vA (h:j≠i) :kl z (ky S i am v ey) j=kl z S j:=pJ (jc _ _ h) (jc _ _ h)
theorem Hy:kj z (ky S i am v [j]) j=(z.bl j,I ((S.aa j).map ad++[ad (i,am)]) (S.K j+1)):=Eo (gB ..) (gB ..)
theorem BL (h:j≠k) :kj z (ky S i am v [j,k]) j=(z.bl j,I ((S.aa j).map ad++[ad (i,am)]) (S.K j+1)):=Eo ((jc _ _ h).trans (gB ..)) ((jc _ _ h).trans (gB ..))
theorem BM (h:k≠j) :kj z (ky S i am v [j,k]) k=(z.bl k,I ((S.aa k).map ad++[ad (i,am)]) (S.K k+1)):=Eo ((gB ..).trans (fV (·++[(i,am)]) (jc _ _ h))) ((gB ..).trans (fV (· +1) (jc _ _ h)))
theorem Ku:i∈[i]:=dN.mpr rfl
end
section
variable {w:aG}{z:cs}{S:cU}(dT:j7 S){i j k am bh c8:y}
include dT
theorem QN (aF:i<12) :BQ w z S (.call (.ref 138) ⟨[.ref z.s,.str (ay i) am],[]⟩) i am []:=by obtain ⟨dD,aP,ar,aO,au,Z,aE,aa,K⟩:=S;obtain ⟨az,aJ,bg⟩:=dT;subst az;subst aJ;subst bg;refine u5 [i] [] gW .nil (ic aF) kk (dy (QM w z.s z.bs z.aw z.M z.ab z.ae z.ak ar au 12 am (z.bn i) 0 (z.cb i) (aE i) (z.er i) (z.bl i) (Z i) (cQ z) (ay i) (ay i) (jD z aF) (vi _)) (λn t X c d=>ca c d [X 1 2]) λn t X c d=>⟨?_,rfl,trivial⟩) λ_=>s2 Ku λ_ h=>absurd h c4;refine H (mw (gV (s3 (vi _)) rfl) rfl ..) ?_;kernel_rfl
theorem QZ (aF:i<12)(dB:j<12)(al:∀ m,(S.aa m).length<1000) :BQ w z S (.call (.ref 138) ⟨[.ref z.s,.str (ay i) am,.str (ay j) bh],[]⟩) i am [j]:=by
 obtain ⟨dD,aP,ar,aO,au,Z,aE,aa,K⟩:=S;obtain ⟨az,aJ,bg⟩:=dT;subst az;subst aJ;subst bg;have tK:((aa j).map ad).length<1000000:=by refine H (de ..) ?_;exact fh (al j) (by decide)
 by_cases qB:i=j
 ·subst qB
  refine u5 [i] [i] gW gW (ic aF) (ic aF) (dy (QW w z.s z.bs z.aw z.M z.ab z.ae z.ak ar au 12 am bh (z.bn i) (z.cb i) (aE i) (z.er i) (z.bl i) (K i) (Z i) (cQ z) (ay i) (ay i) (ay i) ((aa i).map ad) (jD z aF) (jD z aF) tK) (λn t X c d=>ca c d [X 1 2]) λn t X c d=>⟨?_,rfl,trivial⟩) λ_=>s2 Ku λ_ h=>h;refine H (mw (gV (s3 rfl) rfl) (gV Hy rfl) ..) ?_;kernel_rfl
 ·refine u5 [i,j] [j] (sc qB) gW (r6 aF dB) (ic dB) (dy (QY w z.s z.bs z.aw z.M z.ab z.ae z.ak ar au 12 am bh (z.bn i) (z.cb i) (aE i) (z.er i) (z.bl i) (z.bn j) (z.cb j) (aE j) (z.er j) (z.bl j) (K j) (Z i) (Z j) (cQ z) (ay i) (ay i) (ay j) (ay j) ((aa j).map ad) (jD z aF) (jD z dB) tK) (λn t X c d=>ca c d [X 1 2]) λn t X c d=>⟨?_,rfl,trivial⟩) λ_=>s2 (cY ..) λ_ h=>h
  refine H (mw (gV (s3 rfl) (gV (vA (ih qB)) rfl)) (gV Hy rfl) ..) ?_;kernel_rfl
theorem QU (aF:i<12)(dB:j<12)(aV:k<12)(m2:j≠k)(al:∀ m,(S.aa m).length<1000) :BQ w z S (.call (.ref 138) ⟨[.ref z.s,.str (ay i) am,.str (ay j) bh,.str (ay k) c8],[]⟩) i am [j,k]:=by
 obtain ⟨dD,aP,ar,aO,au,Z,aE,aa,K⟩:=S;obtain ⟨az,aJ,bg⟩:=dT;subst az;subst aJ;subst bg;have tK:((aa j).map ad).length<1000000:=by refine H (de ..) ?_;exact fh (al j) (by decide)
 have qD:((aa k).map ad).length<1000000:=by refine H (de ..) ?_;exact fh (al k) (by decide)
 have za:k≠j:=ih m2;by_cases qB:i=j
 ·subst qB
  refine u5 [i,k] [i,k] (sc m2) (sc m2) (r6 aF aV) (r6 aF aV) (dy (QP w z.s z.bs z.aw z.M z.ab z.ae z.ak ar au 12 am bh c8 (z.bn i) (z.cb i) (aE i) (z.er i) (z.bl i) (K i) (z.bn k) (z.cb k) (aE k) (z.er k) (z.bl k) (K k) (Z i) (Z k) (cQ z) (ay i) (ay i) (ay i) (ay k) (ay k) ((aa i).map ad) ((aa k).map ad) (jD z aF) (jD z aF) (jD z aV) tK qD) (λn t X c d=>ca c d [X 1 2]) λn t X c d=>⟨?_,rfl,trivial⟩) λ_=>s2 (cY ..) λ_ h=>h;refine H (mw (gV (s3 rfl) (gV (vA za) rfl)) (gV (BL m2) (gV (BM za) rfl)) ..) ?_;kernel_rfl
 ·by_cases Dn:i=k
  ·subst Dn
   refine u5 [i,j] [j,i] (sc qB) (sc m2) (r6 aF dB) (r6 dB aF) (dy (QR w z.s z.bs z.aw z.M z.ab z.ae z.ak ar au 12 am bh c8 (z.bn i) (z.cb i) (aE i) (z.er i) (z.bn j) (z.cb j) (aE j) (z.er j) (z.bl j) (K j) (z.bl i) (K i) (Z i) (Z j) (cQ z) (ay i) (ay i) (ay j) (ay j) (ay i) ((aa j).map ad) ((aa i).map ad) (jD z aF) (jD z dB) (jD z aF) tK qD) (λn t X c d=>ca c d [X 1 2]) λn t X c d=>⟨?_,rfl,trivial⟩) λ_=>s2 (cY ..) λ_ h=>h;refine H (mw (gV (s3 rfl) (gV (vA m2) rfl)) (gV (BL m2) (gV (BM za) rfl)) ..) ?_;kernel_rfl
  ·refine u5 [i,j,k] [j,k] (gy.mpr ⟨λh=>(dx.mp h).elim qB λh=>Dn (dN.mp h),sc m2⟩) (sc m2) (λm h=>(dx.mp h).elim (λe=>e▸aF) (r6 dB aV m)) (r6 dB aV) (dy (QT w z.s z.bs z.aw z.M z.ab z.ae z.ak ar au 12 am bh c8 (z.bn i) (z.cb i) (aE i) (z.er i) (z.bl i) (z.bn j) (z.cb j) (aE j) (z.er j) (z.bl j) (K j) (z.bn k) (z.cb k) (aE k) (z.er k) (z.bl k) (K k) (Z i) (Z j) (Z k) (cQ z) (ay i) (ay i) (ay j) (ay j) (ay k) (ay k) ((aa j).map ad) ((aa k).map ad) (jD z aF) (jD z dB) (jD z aV) tK qD) (λn t X c d=>ca c d [X 1 2]) λn t X c d=>⟨?_,rfl,trivial⟩) λ_=>s2 (cY ..) λ_ h=>h
   refine H (mw (gV (s3 rfl) (gV (vA (ih qB)) (gV (vA (ih Dn)) rfl))) (gV (BL m2) (gV (BM za) rfl)) ..) ?_;kernel_rfl
end
noncomputable def HL (w:aG)(z:cs)(S:cU)(i am:y)(dT:j7 S)(aF:i<12) :cV w:=⟨3,_,none,_,_,_,_,_,QN (w:=w) (z:=z) (am:=am) dT aF⟩
noncomputable def Re (w:aG)(z:cs)(S:cU)(i j am bh:y)(dT:j7 S)(aF:i<12)(dB:j<12)(al:∀ m,(S.aa m).length<1000) :cV w:=⟨3,_,none,_,_,_,_,_,QZ (w:=w) (z:=z) (am:=am) (bh:=bh) dT aF dB al⟩
noncomputable def Rf (w:aG)(z:cs)(S:cU)(i j k am bh c8:y)(dT:j7 S)(aF:i<12)(dB:j<12)(aV:k<12)(m2:j≠k)(al:∀ m,(S.aa m).length<1000) :cV w:=⟨3,_,none,_,_,_,_,_,QU (w:=w) (z:=z) (am:=am) (bh:=bh) (c8:=c8) dT aF dB aV m2 al⟩
end
section
variable {w:aG}
theorem afk {bj:y}{ap:aK ag}{code:cn}{a:aM}{o:ao}{o':y->ao}{v:y->ag}
  (h:∀ A s,og w bj A ap s->s.heap.get? a=some o->codeAny (model aL w) A code (λr an=>∃ be,r= .ok (.ret (v be))/\an.heap.get? a=some (o' be)/\o7 a s.heap an.heap/\an.os=s.os/\an.gens=s.gens) s) :
  b0 w bj code ap [(a,o)] (λx=>.ok (.ret (v (x 2)))) (λx=>[o' (x 2)]) (λ_=>[]) (λ_=>bZ):=λA s aS has bU=>by
 refine gR (h A s aS (has (a,o) (cY ..))) ?_;rintro r an ⟨be,rfl,az,aJ,bg,cS⟩;refine ⟨ca an.heap.objs.size an.toks [be],rfl,trivial,rfl,rfl,⟨rfl,?_,λ_ h=>((c4 h).elim),mO,λ_ h=>((c4 h).elim),⟨λb o e aQ=>?_,by refine H aJ.1 ?_;exact fk _,bg,[],by refine H cS ?_;simp,λ_ h=>((c4 h).elim)⟩⟩⟩
 ·intro p L
  simp at L;subst L;exact az
 ·refine H (aJ.2 b (by intro ev;subst ev;simp at aQ) ..) ?_;exact e
theorem afj {bj:y}{ap:aK ag}{code:cn}{a b:aM}{o p:ao}{o':y->ao}{v:y->ag}
  (h:∀ A s,og w bj A ap s->a≠b->s.heap.get? a=some o->s.heap.get? b=some p->codeAny (model aL w) A code (λr an=>∃ be,r= .ok (.ret (v be))/\an.heap.get? a=some (o' be)/\o7 a s.heap an.heap/\an.os=s.os/\an.gens=s.gens) s) :
  b0 w bj code ap [(a,o),(b,p)] (λx=>.ok (.ret (v (x 2)))) (λx=>[o' (x 2),p]) (λ_=>[]) (λ_=>bZ):=λA s aS has bU=>by
 have wa:a≠b:=by have:=bU.e8;simpa using this
 have aQ:=has (b,p) (by simp);refine gR (h A s aS wa (has (a,o) (by simp)) aQ) ?_;rintro r an ⟨be,rfl,az,aJ,bg,cS⟩;refine ⟨ca an.heap.objs.size an.toks [be],rfl,trivial,rfl,rfl,⟨rfl,?_,λ_ h=>((c4 h).elim),mO,λ_ h=>((c4 h).elim),⟨λc o e aX=>?_,by refine H aJ.1 ?_;exact fk _,bg,[],by refine H cS ?_;simp,λ_ h=>((c4 h).elim)⟩⟩⟩
 ·intro q a4
  simp at a4;rcases a4 with rfl | rfl
  ·exact az
  ·exact (aJ.2 b λe=>wa e.symm).trans aQ
 ·refine H (aJ.2 c (by intro ev;subst ev;simp at aX) ..) ?_;exact e
theorem Ey (l:B ag)(e:y)(f:cp ag->cp ag) :∃ ev,e4 f (I l e)=I (f ⟨l⟩).toList ev:=by unfold e4;exact ⟨_,rfl⟩
theorem YP {a b cO bw:y}{l m dH:B ag}{ap:aK ag}(al:l.length<1000000)(aU:m.length<1000000)(he:l++m=dH) :
  b0 w 0 (.builtin "list.__iadd__" ⟨[.ref a,.ref b],[]⟩) ap [(a,I l cO),(b,I m bw)] (λ_=>.ok (.ret (.ref a))) (λx=>[I dH (x 2),I m bw]) (λ_=>[]) (λ_=>bZ):=by
 subst he;refine afj (v:=λ_=>.ref a) (o':=λk=>I (l++m) k) λA s aS wa bY aQ=>?_;obtain ⟨ev,oF⟩:=Ey l cO (λx=>x++⟨m⟩);refine oS (b:=Builtin.«list.__iadd__») (kd (by kernel_rfl)) (by kernel_rfl) (by kernel_rfl) (Qr a ⟨l⟩ cO b ⟨m⟩ bw (by simp [PP,sizeLine];omega) (by refine H (jr ..) ?_;simp;omega) (by refine H (jr ..) ?_;simp;omega)) ⟨bY,aQ,ev,rfl,?_,hQ ..,rfl,rfl⟩;refine (hc _ bY (by refine H oF ?_;rfl)).trans (fV some (oF.trans ?_));simp
noncomputable def pk (w:aG)(a b cO bw:y)(l m dH:B ag)(ap:aK ag)(al:l.length<1000000)(aU:m.length<1000000)(he:l++m=dH) :cV w:=⟨0,_,ap,_,_,_,_,_,YP (w:=w) (a:=a) (b:=b) (cO:=cO) (bw:=bw) (ap:=ap) al aU he⟩
theorem Sp {a cO:y}{l:B ag}{ap:aK ag}(al:l.length<1000000) :
  b0 w 0 (.builtin "list.clear" ⟨[.ref a],[]⟩) ap [(a,I l cO)] (λ_=>.ok (.ret .none)) (λx=>[I [] (x 2)]) (λ_=>[]) (λ_=>bZ):=by
 refine afk (v:=λ_=>.none) (o':=λk=>I [] k) λA s aS bY=>?_;obtain ⟨ev,oF⟩:=Ey l cO (λ_=>#[]);refine oS (b:=Builtin.«list.clear») (kd (by kernel_rfl)) (by kernel_rfl) (by kernel_rfl) (PySem.AutoSeq1.list_clear_list_0 a ⟨l⟩ cO (by refine H (jr ..) ?_;simp;omega)) ⟨bY,ev,rfl,?_,hQ ..,rfl,rfl⟩;exact (hc _ bY (by refine H oF ?_;rfl)).trans (fV some oF)
noncomputable def HN (w:aG)(a cO:y)(l:B ag)(ap:aK ag)(al:l.length<1000000) :cV w:=⟨0,_,ap,_,_,_,_,_,Sp (w:=w) (a:=a) (cO:=cO) (ap:=ap) al⟩
noncomputable abbrev di (l:B ag) :ao:={cls:=.type "tuple",data:=.seq ⟨l⟩ 0}
theorem Su {A:c9}{E:ag->aR->Prop}{Q:B ag->aR->Prop}{s:aR}{a cO:y}{l:B ag}(bY:s.heap.get? a=some (I l cO))(al:l.length<1000000)
  (dh:Q l {s with heap:=(s.heap.push (I [] 0)).update s.heap.objs.size (e4 λx=>x++⟨l⟩)}) :wpAny (model aL w) A (collect (.ref a)) Q E s:=by
 unfold collect;refine bE (wpAny_runValue ?_);refine h5 (b:=Builtin.«proto.collect») (kd (by kernel_rfl)) λei Bv GF gG agm dC iB=>?_;show wpAny _ _ (newList [] >>= λl=>again (.builtin "list.__iadd__" ⟨[l,.ref a],[]⟩)) _ _ s;refine bE (sJ ?_);refine wpAny_pure (dC _ _ ⟨su (by kernel_rfl),?_⟩);have L:(s.heap.push (I [] 0)).get? s.heap.objs.size=some (I [] 0):=nq _ rfl;refine oS (b:=Builtin.«list.__iadd__») (kd (by kernel_rfl)) (by kernel_rfl) (by kernel_rfl) (Qr s.heap.objs.size ⟨[]⟩ 0 a ⟨l⟩ cO (by simp [PP,sizeLine]) (by refine H (jr ..) ?_;simp) (by refine H (jr ..) ?_;simp;omega)) ⟨L,iv _ bY,?_⟩;obtain ⟨ev,oF⟩:=Ey [] 0 (λx=>x++⟨l⟩);have eG:((s.heap.push (I [] 0)).update s.heap.objs.size (e4 λx=>x++⟨l⟩)).get? s.heap.objs.size=some (I l ev):=by refine (hc _ L (by refine H oF ?_;rfl)).trans (fV some (oF.trans ?_));simp
 show wpAny _ _ (load s.heap.objs.size >>= _) _ _ _;exact bE (Gg eG (wpAny_pure dh))
theorem afe {a cO:y}{l:B ag}{ap:aK ag}(al:l.length<1000000) :
  b0 w 0 (.builtin "tuple.__new__" ⟨[.type "tuple",.ref a],[]⟩) ap [(a,I l cO)] (λx=>.ok (.ret (.ref (x 2)))) (λ_=>[I l cO]) (λx=>[(x 2,di l)]) (λ_=>bZ):=λA s aS has bU=>by
 have bY:=has (a,I l cO) (by simp);refine h5 (b:=Builtin.«tuple.__new__») (kd (by kernel_rfl)) λei Q E gG dh dC iB=>?_;have qF:=sub_tuple_self;have ags:=init_tuple_lookup;have agx:=madeHere_tuple;have cM:s.TypeIs (.ref a) "list":=⟨_,bY,rfl⟩
 wp_walk using PySem.AutoSeq1.wpAny_loadPart' bY,Gk cM,Su bY al
 refine (show wpAny _ _ (newObj (.type "tuple") (.seq l.toArray)) _ _ _ from sJ ?_ (by show l.toArray.size<=sizeLine;rw [jr];simp;omega));have aV:o7 s.heap.objs.size (s.heap.push (I [] 0)) ((s.heap.push (I [] 0)).update s.heap.objs.size (e4 λx=>x++⟨l⟩)):=hQ ..;have hz:((s.heap.push (I [] 0)).update s.heap.objs.size (e4 λx=>x++⟨l⟩)).objs.size=s.heap.objs.size+1:=by exact H aV.1 (H (ku ..) rfl)
 have eO:∀ b o,s.heap.get? b=some o->(((s.heap.push (I [] 0)).update s.heap.objs.size (e4 λx=>x++⟨l⟩)).push (di l)).get? b=some o:=λb o e=>
  iv _ ((aV.2 b (k0 (hC e))).trans (iv _ e))
 refine wpAny_pure (dh _ _ ⟨ca (s.heap.objs.size+2) s.toks [s.heap.objs.size+1],?_,trivial,?_,rfl,⟨rfl,?_,?_,by simp,?_,⟨λb o e _=>eO b o e,?_,rfl,[],rfl,λ_ h=>((c4 h).elim)⟩⟩⟩)
 ·show Except.ok (Flow.ret (Value.ref _))=_
  refine H hz ?_;rfl
 ·show (xZ _ _).objs.size=_
  refine H (ku ..) (H hz ?_);rfl
 ·intro p L
  simp at L;subst L;exact eO _ _ bY
 ·intro p L
  simp at L;subst L;show Heap.get? _ (s.heap.objs.size+1)=_;refine df hz ?_;exact nq _ rfl
 ·intro p L
  simp at L;subst L;exact rp _
 ·show _<=(xZ _ _).objs.size
  refine H (ku ..) (H hz ?_);omega
noncomputable def H1 (w:aG)(a cO:y)(l:B ag)(ap:aK ag)(al:l.length<1000000) :cV w:=⟨0,_,ap,_,_,_,_,_,afe (w:=w) (a:=a) (cO:=cO) (ap:=ap) al⟩
end
section
variable {w:aG}
noncomputable abbrev b4 (T:kv)(l k:y) :ao:={cls:=.type T,data:=.fields ⟨[.ref l,.int (k:ai) 0]⟩}
noncomputable abbrev ee (T:kv)(k:y) :ao:={cls:=.type T,data:=.fields ⟨[.none,.int (k:ai) 0]⟩}
noncomputable abbrev ht (T:kv)(l:B ag)(K:y) :ao:={cls:=.type T,data:=.seq ⟨l⟩ K}
theorem Ln {T d0 id:kv}{J a K k:y}{l:B ag}{v:ag}{ap:aK ag}{b:vf}(he:rK pU id=some b)
  (aQ:b ⟨[.ref J],[]⟩=(do
   let (n1,_) <- slotArgs "__next__" 0 (⟨[.ref J],[]⟩ :mH)
   let seq <- field n1 0
   if seq==.none then rule s!"{id}.ended";AP
   let .int i _ <- field n1 1 | unsupported s!"internal:{id}"
   let some ca <- xJ seq | unsupported s!"internal:{id}"
   match ca[i.toNat]? with
   | some x=>Ar n1 1 (rawInt (i+1));ret x
   | none=>rule s!"{id}.end";Ar n1 0 .none;AP))(bc:l[k]? =some v) :
  b0 w 0 (.builtin id ⟨[.ref J],[]⟩) ap [(J,b4 T a k),(a,ht d0 l K)] (λx=>.ok (.ret v)) (λx=>[b4 T a (k+1),ht d0 l K]) (λ_=>[]) (λ_=>bZ):=by
 refine λA s aS has bU=>?_;have aF:=has (J,b4 T a k) (by simp);have bY:=has (a,ht d0 l K) (by simp);have Dm:J≠a:=by have:=bU.e8;simpa using this
 refine h5 he λei Q E gG dh dC iB=>?_;rw [aQ];show wpAny _ _ (field (.ref J) 0 >>= _) _ _ s;refine bE (p3 aF rfl (x:=.ref a) rfl ?_);show wpAny _ _ (if (Value.ref a==Value.none)=true then _ else _) _ _ s;rw [dt (show ¬ ((Value.ref a==Value.none)=true) from xV)];show wpAny _ _ (field (.ref J) 1 >>= _) _ _ s;refine bE (p3 aF rfl (x:=.int k 0) rfl ?_);show wpAny _ _ (xJ (.ref a) >>= _) _ _ s;refine bE (u8 bY rfl ?_);have bu:(⟨l⟩ :cp ag)[((k:ai)).toNat]? =some v:=by simpa using bc
 simp only [bu];refine bE (Gi aF rfl (pd ..) ?_);have hs:o7 J s.heap (s.heap.update J (lC (·.setIfInBounds 1 (rawInt ((k:ai)+1))))):=hQ ..;refine wpAny_pure (dh _ _ ⟨ca s.heap.objs.size s.toks [],rfl,trivial,hs.1,rfl,⟨rfl,?_,λ_ h=>((c4 h).elim),mO,λ_ h=>((c4 h).elim),⟨λc o e aX=>?_,by refine H hs.1 ?_;exact fk _,rfl,[],rfl,λ_ h=>((c4 h).elim)⟩⟩⟩)
 ·intro q a4
  simp at a4;rcases a4 with rfl | rfl
  ·exact hc _ aF rfl
  ·exact (hs.2 _ λe=>Dm e.symm).trans bY
 ·exact (hs.2 c (by intro ev;subst ev;simp at aX)).trans e
theorem Lm {T d0 id:kv}{J a K k:y}{l:B ag}{b:vf}(he:rK pU id=some b)(hw:(Code.builtin id ⟨[.ref J],[]⟩).weight=0)(eG:(Code.builtin id ⟨[.ref J],[]⟩).cUnits=1)
  (aQ:b ⟨[.ref J],[]⟩=(do
   let (n1,_) <- slotArgs "__next__" 0 (⟨[.ref J],[]⟩ :mH)
   let seq <- field n1 0
   if seq==.none then rule s!"{id}.ended";AP
   let .int i _ <- field n1 1 | unsupported s!"internal:{id}"
   let some ca <- xJ seq | unsupported s!"internal:{id}"
   match ca[i.toNat]? with
   | some x=>Ar n1 1 (rawInt (i+1));ret x
   | none=>rule s!"{id}.end";Ar n1 0 .none;AP))(bc:l.length=k) :
  b0 w 0 (.builtin id ⟨[.ref J],[]⟩) none [(J,b4 T a k),(a,ht d0 l K)] (λx=>.error (.ref (x 2))) (λx=>[ee T k,ht d0 l K])
   (λx=>[(x 2,{cls:=.type "StopIteration",data:=.fields ⟨[.ref (x 3),.none,.none,.none,.bool false,.none]⟩}),(x 3,{cls:=.type "tuple",data:=.seq ⟨[]⟩ 0})]) (λ_=>bZ):=by
 refine λA s aS has bU=>?_;have aF:=has (J,b4 T a k) (by simp);have bY:=has (a,ht d0 l K) (by simp);have Dm:J≠a:=by have:=bU.e8;simpa using this
 refine h5 he λei Q E gG dh dC iB=>?_;subst gG;rw [aQ,Pi hw eG];show wpAny _ _ (field (.ref J) 0 >>= _) _ _ s;refine bE (p3 aF rfl (x:=.ref a) rfl ?_);show wpAny _ _ (if (Value.ref a==Value.none)=true then _ else _) _ _ s;rw [dt (show ¬ ((Value.ref a==Value.none)=true) from xV)];show wpAny _ _ (field (.ref J) 1 >>= _) _ _ s;refine bE (p3 aF rfl (x:=.int k 0) rfl ?_);show wpAny _ _ (xJ (.ref a) >>= _) _ _ s;refine bE (u8 bY rfl ?_);have bu:(⟨l⟩ :cp ag)[((k:ai)).toNat]? =none:=by simp [bc]
 simp only [bu];refine bE (wpAny_rule (bE (Gi aF rfl (Nat.zero_lt_succ ..) ?_)));have hs:o7 J s.heap (s.heap.update J (lC (·.setIfInBounds 0 .none))):=hQ ..;have pB:(s.heap.update J (lC (·.setIfInBounds 0 .none))).get? J=some (ee T k):=hc _ aF rfl;generalize b3:s.heap.update J (lC (·.setIfInBounds 0 .none))=az at hs pB;show wpAny _ _ (newExc (.type "StopIteration") [] >>= _) _ _ _;refine bE ?_;simp only [newExc,newTuple];refine bE (sJ ?_ (by size_fits));refine bE (m:=firstArgMember _ _) (xP (a:=Value.none) (by first | rfl | (simp only [firstArgMember];rfl)) ?_);refine sJ ?_ (by size_fits);simp only [raiseNew];refine bE (wpAny_handled ?_);refine H (show A.in1.handled=none from aS.handled) ?_;refine bE (wpAny_pure (wpAny_throw ?_));have hz:az.objs.size=s.heap.objs.size:=hs.1;refine iB _ _ ⟨ca (s.heap.objs.size+2) s.toks [s.heap.objs.size+1,s.heap.objs.size],?_,trivial,?_,rfl,⟨rfl,?_,?_,by simp [ca],?_,⟨λc o e aX=>?_,?_,rfl,[],rfl,λ_ h=>((c4 h).elim)⟩⟩⟩
 ·show Except.error (Value.ref _)=_
  simp only [ku,hz];rfl
 ·show (xZ _ _).objs.size=_
  refine H (ku ..) (H (ku ..) (H hz ?_));rfl
 ·intro q a4
  simp at a4;rcases a4 with rfl | rfl
  ·exact iv _ (iv _ pB)
  ·exact iv _ (iv _ ((hs.2 _ λe=>Dm e.symm).trans bY))
 ·intro q a4
  simp at a4;rcases a4 with rfl | rfl
  ·show Heap.get? _ (s.heap.objs.size+1)=some {cls:=Value.type "StopIteration",data:=Data.fields ⟨[Value.ref s.heap.objs.size,Value.none,Value.none,Value.none,Value.bool false,Value.none]⟩}
   rw [<- hz,<- ku];exact nq _ rfl
  ·show Heap.get? _ s.heap.objs.size=_
   refine df hz ?_;exact iv _ (nq _ rfl)
 ·intro p L
  simp at L;rcases L with rfl | rfl
  ·exact rp _
  ·exact fk _
 ·exact iv _ (iv _ ((hs.2 c (by intro ev;subst ev;simp at aX)).trans e))
 ·show _<=(xZ _ _).objs.size
  refine H (ku ..) (H (ku ..) (H hz ?_));omega
noncomputable def jO (w:aG)(J a K k:y)(l:B ag)(v:ag)(ap:aK ag)(bc:l[k]? =some v) :cV w:=
 ⟨0,_,ap,_,_,_,_,_,Ln (w:=w) (T:="list_iterator") (d0:="list") (id:="list_iterator.__next__") (b:=Builtin.«list_iterator.__next__») (J:=J) (a:=a) (K:=K) (ap:=ap) (kd (by kernel_rfl)) rfl bc⟩
noncomputable def pl (w:aG)(J a K k:y)(l:B ag)(v:ag)(ap:aK ag)(bc:l[k]? =some v) :cV w:=
 ⟨0,_,ap,_,_,_,_,_,Ln (w:=w) (T:="tuple_iterator") (d0:="tuple") (id:="tuple_iterator.__next__") (b:=Builtin.«tuple_iterator.__next__») (J:=J) (a:=a) (K:=K) (ap:=ap) (kd (by kernel_rfl)) rfl bc⟩
noncomputable def nC (w:aG)(J a K k:y)(l:B ag)(bc:l.length=k) :cV w:=
 ⟨0,_,none,_,_,_,_,_,Lm (w:=w) (T:="list_iterator") (d0:="list") (id:="list_iterator.__next__") (b:=Builtin.«list_iterator.__next__») (J:=J) (a:=a) (K:=K) (kd (by kernel_rfl)) (by kernel_rfl) (by kernel_rfl) rfl bc⟩
noncomputable def vG (w:aG)(J a K k:y)(l:B ag)(bc:l.length=k) :cV w:=
 ⟨0,_,none,_,_,_,_,_,Lm (w:=w) (T:="tuple_iterator") (d0:="tuple") (id:="tuple_iterator.__next__") (b:=Builtin.«tuple_iterator.__next__») (J:=J) (a:=a) (K:=K) (kd (by kernel_rfl)) (by kernel_rfl) (by kernel_rfl) rfl bc⟩
theorem ZM {a N:y}{l:B ag}{ap:aK ag}(ex:l.length=N)(al:N<1000000) :
  b0 w 0 (.builtin "len" ⟨[.ref a],[]⟩) ap [(a,di l)] (λx=>.ok (.ret (.int (N:ai) (x 2)))) (λ_=>[di l]) (λ_=>[]) (λ_=>bZ):=by
 subst ex;refine nj (v:=λbe=>.int (l.length:ai) be) λA s aS has=>?_;have b1:=has (a,di l) (cY ..);have cM:s.TypeIs (.ref a) "tuple":=⟨_,b1,rfl⟩;refine h5 entry_len λei Q E gG dh dC iB=>?_;unfold Builtin.«len»;refine bE (m:=oneArg "len" _) (wpAny_pure ?_);refine bE (m:=H4 (.ref a) (s1 "__len__")) (Pw (name:=s1 "__len__") cM slot_tuple_len
  (Px slot_tuple_len cM entry_tuple_len ?_ (args_tuple_len _)))
 show wpAny _ _ (do retInt (<- Builtin.Tuple.tupleItemsOf (.ref a)).size) _ _ s;refine bE (tupleItemsOf_ (items:=⟨l⟩) ⟨_,b1,rfl,0,rfl⟩ ?_);refine bE (p4 (wpAny_pure ⟨_,rfl,?_⟩));refine bE (oa (wpAny_pure ?_));refine bE (u7 ?_);show wpAny _ _ (if (((⟨l⟩ :cp ag).size:y) :ai)<0 then _ else _) _ _ _;refine H (dt (by omega) ..) ?_;show wpAny _ _ (if (((⟨l⟩ :cp ag).size:y) :ai) >= 2 ^ 63 then _ else _) _ _ _;refine H (dt (by simp;omega) ..) ?_;exact bE (p4 (wpAny_pure (dh _ _ ⟨_,rfl,rfl,rfl,rfl⟩)))
noncomputable def Rw (w:aG)(a:y)(l:B ag)(N:y)(ap:aK ag)(ex:l.length=N)(al:N<1000000) :cV w:=⟨0,_,ap,_,_,_,_,_,ZM (w:=w) (a:=a) (ap:=ap) ex al⟩
end
noncomputable def zE (d:p9)(f:cT×cT×B c5×B c5)(q:a6)(ty c G J:aM) :cn:=.forLoop f.1 (.ref J) f.2.2.1 f.2.2.2 (mT d q ty c G)
noncomputable abbrev nH (G J:aM) :cn:=zE (e7 13 4) (pu (e7 13 4).2.1[3]?) (U E0) 150 149 G J
noncomputable abbrev tE (P:bp)(s av aw M ab ae:y) :ao:=eM [aj P gv M (.ref s),aj P z1 ab (.ref av),aj P kM ae (.ref aw)] 3
noncomputable abbrev qz (P:bp)(s av aw M ab ae ak:y)(x:a6)(am:y) :ao:=eM [aj P gv M (.ref s),aj P z1 ab (.ref av),aj P kM ae (.ref aw),aj P lo ak (.str x am)] 4
section
variable {w:aG}
theorem fy.sH {s an:aR}{aB fm:B aM}(h:fy s an aB)(hs:∀ a∈aB,a∈fm) :fy s an fm:=⟨λb o e aQ=>h.eO b o e λaU=>aQ (hs b aU),h.size,h.os,h.gens⟩
noncomputable def PW (w:aG)(bj:y)(ap:aK ag)(dZ fX:B (aM×ao))(bB:(y->y)->cD)(cB:(y->y)->B ao)(bV:(y->y)->B (aM×ao))(cond:(y->y)->Prop)(dw:gP)(du:B (aM×ao)) :Prop:=
 ∃ c oB,dw= .dr c/\oB.map (·.1)=fX.map (·.1)/\((fX.map (·.1)).Nodup->∀ p∈oB,p∈du∨(p∈fX/\p.1 ∉ dZ.map (·.1)))/\b0 w bj c ap oB bB cB bV cond
theorem adS {bj:y}{ap:aK ag}{code:cn}{dZ fX:B (aM×ao)}{bB:(y->y)->cD}{cB:(y->y)->B ao}{bV:(y->y)->B (aM×ao)}{cond:(y->y)->Prop}{bI:y->y->bb w}
  (e:b2 w bj ap dZ code bI)(hs:∀ p∈dZ,p∈fX)(bK:(fX.map (·.1)).Nodup->(dZ.map (·.1)).Nodup)
  (left:∀ n t,mK (PW w bj ap dZ fX bB cB bV cond) (bI n t) (dZ.map (·.1)) dZ.length n) :b0 w bj code ap fX bB cB bV cond:=λA s aS has bU=>by
 have qF:∀ a∈dZ.map (·.1),a∈fX.map (·.1):=by intro a bY;obtain ⟨p,L,rfl⟩:=fC.mp bY;exact ep (hs p L)
 have JL:ie (dZ.map (·.1)):=⟨bK bU.e8,λa bY=>bU.free a (qF a bY)⟩;refine xD 100000 (bI s.heap.objs.size s.toks) aS (λp L=>has p (hs p L)) JL (e _ _ _) (left _ _) ?_;rintro dw du eo ⟨c,oB,rfl,aU,bu,bO⟩ b1 aV;show codeAny _ _ _ _ _;have dP:dX eo.heap oB:=λp L=>by
  rcases bu bU.e8 p L with h | ⟨h,ct⟩
  ·exact b1.has p h
  ·exact aV.eO p.1 p.2 (has p h) ct
 have bO:=bO A eo (aS.moves aV JL.free) dP (by refine H aU ?_;exact bU);refine gR bO ?_;rintro r an ⟨x,rfl,aX,bG,az,a7⟩;rw [aU] at a7;exact ⟨x,rfl,aX,bG,az,⟨a7.len,a7.has,a7.bV,a7.e8,λp L=>gh aV.size (a7.fresh p L),(aV.sH qF).trans a7.eD λb aQ=>.inl aQ⟩⟩
theorem VH {bj:y}{ap:aK ag}{code:cn}{pre fX R:B (aM×ao)}{bB:(y->y)->cD}{cB:(y->y)->B ao}{bV:(y->y)->B (aM×ao)}{cond:(y->y)->Prop}{bI:y->y->bb w}
  (e:b2 w bj ap pre code bI)(L:fX.Perm (pre++R)){c:y->y->hR->cn}{kI oB:y->y->hR->B (aM×ao)}(left:∀ n t X,nW pre [] bI n t X=(.dr (c n t X),kI n t X))(a4:∀ n t X,(oB n t X).Perm (kI n t X++R))(BJ:∀ n t X,(oB n t X).map (·.1)=fX.map (·.1))
  (bO:∀ n t X,b0 w bj (c n t X) ap (oB n t X) bB cB bV cond) :b0 w bj code ap fX bB cB bV cond:=by
 have aw:∀ h:(fX.map (·.1)).Nodup,(pre.map (·.1)).Nodup/\∀ p∈R,p.1 ∉ pre.map (·.1):=λh=>by have:=(L.map (·.1)).nodup_iff.mp h;rw [c0] at this;obtain ⟨iV,_,iF⟩:=fA.mp this;exact ⟨iV,λp L aU=>iF _ aU _ (ep L) rfl⟩
 refine adS e (λp k=>L.mem_iff.mpr (eS _ k)) (λh=>(aw h).1) λn t=>pP _ _ _ _ _ λX=>?_;obtain ⟨a5,bt⟩:=je (left n t X);refine ⟨c n t X,oB n t X,a5,BJ n t X,λh p k=>?_,bO n t X⟩;refine H bt ?_;rcases dU.mp ((a4 n t X).mem_iff.mp k) with k | k
 ·exact .inl k
 ·exact .inr ⟨L.mem_iff.mpr (eJ _ k),(aw h).2 p k⟩
theorem n5 {bj:y}{ap:aK ag}{code:cn}{z:cs}{S:cU}{bH:B (aM×ao)}{bB:(y->y)->cD}{cB:(y->y)->B ao}{bV:(y->y)->B (aM×ao)}{cond:(y->y)->Prop}{bI:y->y->bb w}(A af:B y)(dC:A.Nodup)(bM:af.Nodup)(kA:∀ i∈A,i<12)(pv:∀ i∈af,i<12)
  (e:b2 w bj ap (bH++dZ w.params z S A af) code bI){c:y->y->hR->cn}{dc:y->y->hR->cU}{lJ:y->y->hR->B (aM×ao)}
  (left:∀ n t X,nW (bH++dZ w.params z S A af) [] bI n t X=(.dr (c n t X),lJ n t X++dZ w.params z (dc n t X) A af))(BJ:∀ n t X,(lJ n t X).map (·.1)=bH.map (·.1))(az:∀ n t X,p7 S (dc n t X) A af)
  (bO:∀ n t X,b0 w bj (c n t X) ap (lJ n t X++bX w.params z (dc n t X)) bB cB bV cond) :b0 w bj code ap (bH++bX w.params z S) bB cB bV cond:=by
 refine VH e (R:=iq z S A af) ?_ left (λn t X=>?_) (λn t X=>?_) bO
 ·refine H (f9 ..) ?_
  exact (uU dC bM kA pv ⟨λ_ _=>⟨rfl,rfl⟩,λ_ _=>⟨rfl,rfl⟩⟩).append_left _
 ·refine H (f9 ..) ?_
  exact (uU dC bM kA pv (az n t X)).append_left _
 ·exact (c0 ..).trans ((congr (fV _ (BJ n t X)) EO).trans (c0 ..).symm)
end
section
section
variable (w:aG)(z:cs)(S:cU)(G J av M ab ae ak k i am dj:y)(aq:a6)(l:B ag)(bc:l[k]? =some (ad (i,am)))(bu:ef (cQ z) (ay i)=some (.ref (z.bn i)))
noncomputable def W7 (n t:y) :bb w:=
  .ax [2,2] [0,0,2] 0 (pl w J av 0 k l (.str (ay (i,am).fst) ((i,am).snd)) none bc) [1,2] λah=>.ax (aY 0x1666611011) [0,2] 0 (qk w z.aw 12 ((i,am).snd) (cQ z) (ay (i,am).fst) (.ref (z.bn i)) none bu) [5] λaN=>.bd NG (aY 0x1300000) 0 (.dr (nH G J)) [(0,{cls:=(.type "frame"),data:=(.dict ⟨[aj w.params gv M (.ref z.s),aj w.params z1 ab (.ref av),aj w.params kM ae (.ref z.aw),aj w.params lo (ah 1) (.str (ay (i,am).fst) ((i,am).snd))]⟩ 4)}),(1,b4 "tuple_iterator" av (k+1)),(2,ht "tuple" l 0),(3,el z.bs),(4,en w.params z.M z.ab z.ae z.ak z.aw S.dD S.aP S.ar S.aO S.au),(5,bT w.params (cQ z) 12),(6,{cls:=(.ref 91),data:=.plain,dict:=(some (z.er i)),slots:=⟨[some (.str (ay i) (z.cb i)),some (.int (-1) 378),some (.ref (z.bl i))]⟩})]
theorem W8:b2 w 3 none ([(G,tE w.params z.s av z.aw M ab ae),(J,b4 "tuple_iterator" av k),(av,di l)]++dZ w.params z S [i] []) (nH G J) (W7 w z S G J av M ab ae k i am l bc bu):=c6
noncomputable def Xc (n t:y) :bb w:=
  .ax [2,2] [0,0,2] 0 (pl w J av 0 k l (.str (ay (i,am).fst) ((i,am).snd)) none bc) [1,2] λah=>.ax (aY 0x1666611011) [0,2] 0 (qk w z.aw 12 ((i,am).snd) (cQ z) (ay (i,am).fst) (.ref (z.bn i)) none bu) [5] λaN=>.bd NG (aY 0x1300000) 0 (.dr (nH G J)) [(0,{cls:=(.type "frame"),data:=(.dict ⟨[aj w.params gv M (.ref z.s),aj w.params z1 ab (.ref av),aj w.params kM ae (.ref z.aw),aj w.params lo ak (.str (ay (i,am).fst) ((i,am).snd))]⟩ 4)}),(1,b4 "tuple_iterator" av (k+1)),(2,ht "tuple" l 0),(3,el z.bs),(4,en w.params z.M z.ab z.ae z.ak z.aw S.dD S.aP S.ar S.aO S.au),(5,bT w.params (cQ z) 12),(6,{cls:=(.ref 91),data:=.plain,dict:=(some (z.er i)),slots:=⟨[some (.str (ay i) (z.cb i)),some (.int (-1) 378),some (.ref (z.bl i))]⟩})]
theorem Xd:b2 w 3 none ([(G,qz w.params z.s av z.aw M ab ae ak aq dj),(J,b4 "tuple_iterator" av k),(av,di l)]++dZ w.params z S [i] []) (nH G J) (Xc w z S G J av M ab ae ak k i am l bc bu):=c6
section
variable (bc:l.length=k)
noncomputable def W5 (n t:y) :bb w:=
  .ax [2,2] [0,0,2] 0 (vG w J av 0 k l bc) [1,2] λah=>.bd [7] [0] 0 (.ret (.ok .next)) [(0,tE w.params z.s av z.aw M ab ae),(1,ee "tuple_iterator" k),(2,ht "tuple" l 0),(3,el z.bs),(4,en w.params z.M z.ab z.ae z.ak z.aw S.dD S.aP S.ar S.aO S.au),(5,bT w.params (cQ z) 12)]
theorem W6:b2 w 3 none ([(G,tE w.params z.s av z.aw M ab ae),(J,b4 "tuple_iterator" av k),(av,di l)]++dZ w.params z S [] []) (nH G J) (W5 w z S J av M ab ae k l bc):=c6
end
section
variable (bc:l.length=k)
noncomputable def Xa (n t:y) :bb w:=
  .ax [2,2] [0,0,2] 0 (vG w J av 0 k l bc) [1,2] λah=>.bd [7] [0] 0 (.ret (.ok .next)) [(0,qz w.params z.s av z.aw M ab ae ak aq dj),(1,ee "tuple_iterator" k),(2,ht "tuple" l 0),(3,el z.bs),(4,en w.params z.M z.ab z.ae z.ak z.aw S.dD S.aP S.ar S.aO S.au),(5,bT w.params (cQ z) 12)]
theorem Xb:b2 w 3 none ([(G,qz w.params z.s av z.aw M ab ae ak aq dj),(J,b4 "tuple_iterator" av k),(av,di l)]++dZ w.params z S [] []) (nH G J) (Xa w z S J av M ab ae ak k dj aq l bc):=c6
end
end
section
variable {w:aG}{z:cs}
noncomputable def ua (S:cU)(p:y×y) :cU:={S with Z:=cF S.Z p.1 (-1),aE:=cF S.aE p.1 378}
noncomputable def se (S:cU)(R:B (y×y)) :cU:={S with Z:=R.foldl (λf p=>cF f p.1 (-1)) S.Z,aE:=R.foldl (λf p=>cF f p.1 378) S.aE}
noncomputable def gm (aq:y×y)(R:B (y×y)) :y×y:=R.foldl (λ_ p=>p) aq
theorem JM {G J av M ab ae ak:y}{l:B ag} :∀ (aW:B (y×y)) (k:y) (S:cU) (aq:y×y),l.drop k=aW.map ad->k+aW.length=l.length->(∀ p∈aW,p.1<12)->
  b0 w 3 (nH G J) none ([(G,qz w.params z.s av z.aw M ab ae ak (ay aq.1) aq.2),(J,b4 "tuple_iterator" av k),(av,di l)]++bX w.params z S) (λ_=>.ok .next)
   (λx=>[qz w.params z.s av z.aw M ab ae ak (ay (gm aq aW).1) (gm aq aW).2,ee "tuple_iterator" l.length,di l]++(bX w.params z (se S aW)).map (·.2)) (λ_=>[]) (λ_=>bZ)
 | [],k,S,aq,_,aV,_=>by obtain rfl:k=l.length:=aV;exact u6 (dc:=λ_=>S) [] [] .nil .nil kk kk (dy (Xb w z S G J av M ab ae ak l.length aq.2 (ay aq.1) l rfl) (λ_ _ _ a b=>ca a b []) λ_ _ _ _ _=>⟨by kernel_rfl,rfl,trivial⟩) (λ_=>rfl) λ_=>FJ
 | p::aW,k,S,aq,ap,aV,L=>by have aF:=L p (cY ..);obtain ⟨i3,iP⟩:=tn ap;refine n5 [p.1] [] gW .nil (ic aF) kk (Xd w z S G J av M ab ae ak k p.1 p.2 aq.2 (ay aq.1) l i3 (qP z aF)) (c:=λ_ _ _=>nH G J) (dc:=λ_ _ _=>ua S p) (lJ:=λ_ _ _=>[(G,qz w.params z.s av z.aw M ab ae ak (ay p.1) p.2),(J,b4 "tuple_iterator" av (k+1)),(av,di l)]) (λn t X=>?_) (λ_ _ _=>rfl) (λ_ _ _=>⟨λi h=>ss _ _ _ _ _ i h,λ_ _=>⟨rfl,rfl⟩⟩) λ_ _ _=>JM aW (k+1) (ua S p) p iP ((sX ..).trans aV) λq a4=>L q (dG _ a4);refine H (mw (gV (pJ (S:=ua S p) (gB ..) (gB ..)) rfl) rfl ..) ?_;kernel_rfl
theorem W9 {G J av M ab ae:y}{S:cU}(p:y×y)(aW:B (y×y))(L:∀ q∈p::aW,q.1<12) :
  b0 w 3 (nH G J) none ([(G,tE w.params z.s av z.aw M ab ae),(J,b4 "tuple_iterator" av 0),(av,di ((p::aW).map ad))]++bX w.params z S) (λ_=>.ok .next)
   (λx=>[qz w.params z.s av z.aw M ab ae (x 2) (ay (gm p aW).1) (gm p aW).2,ee "tuple_iterator" (p::aW).length,di ((p::aW).map ad)]++(bX w.params z (se S (p::aW))).map (·.2)) (λ_=>[]) (λ_=>bZ):=by
 have aF:=L p (cY ..);refine n5 [p.1] [] gW .nil (ic aF) kk (W8 w z S G J av M ab ae 0 p.1 p.2 ((p::aW).map ad) rfl (qP z aF)) (c:=λ_ _ _=>nH G J) (dc:=λ_ _ _=>ua S p) (lJ:=λ_ _ X=>[(G,qz w.params z.s av z.aw M ab ae (X 0 1) (ay p.1) p.2),(J,b4 "tuple_iterator" av 1),(av,di ((p::aW).map ad))]) (λn t X=>?_) (λ_ _ _=>rfl) (λ_ _ _=>⟨λi h=>ss _ _ _ _ _ i h,λ_ _=>⟨rfl,rfl⟩⟩) λn t X=>?_
 ·refine H (mw (gV (pJ (S:=ua S p) (gB ..) (gB ..)) rfl) rfl ..) ?_
  kernel_rfl
 ·have aq:=JM (w:=w) (z:=z) (G:=G) (J:=J) (av:=av) (M:=M) (ab:=ab) (ae:=ae) (ak:=X 0 1) (l:=(p::aW).map ad) aW 1 (ua S p) p rfl (by refine H (de ..) (H (lB ..) ?_);rfl) λq a4=>L q (dG _ a4)
  rw [de] at aq;exact aq.sw (λ_=>[X 0 1]) (λ_=>rfl) λ_ _=>trivial
theorem Xe {G J av M ab ae:y}{S:cU} :
  b0 w 3 (nH G J) none ([(G,tE w.params z.s av z.aw M ab ae),(J,b4 "tuple_iterator" av 0),(av,di (dF ad []))]++bX w.params z S) (λ_=>.ok .next)
   (λx=>[tE w.params z.s av z.aw M ab ae,ee "tuple_iterator" 0,di (dF ad [])]++(bX w.params z S).map (·.2)) (λ_=>[]) (λ_=>bZ):=
 u6 (dc:=λ_=>S) [] [] .nil .nil kk kk (dy (W6 w z S G J av M ab ae 0 [] rfl) (λ_ _ _ a b=>ca a b []) λ_ _ _ _ _=>⟨by kernel_rfl,rfl,trivial⟩) (λ_=>rfl) λ_=>FJ
end
noncomputable def Rt (w:aG)(z:cs)(S:cU)(G J av M ab ae:y)(p:y×y)(aW:B (y×y))(L:∀ q∈p::aW,q.1<12) :cV w:=⟨3,_,none,_,_,_,_,_,W9 (w:=w) (z:=z) (S:=S) (G:=G) (J:=J) (av:=av) (M:=M) (ab:=ab) (ae:=ae) p aW L⟩
noncomputable def Ru (w:aG)(z:cs)(S:cU)(G J av M ab ae:y) :cV w:=⟨3,_,none,_,_,_,_,_,Xe (w:=w) (z:=z) (S:=S) (G:=G) (J:=J) (av:=av) (M:=M) (ab:=ab) (ae:=ae)⟩
end
section
noncomputable def WY (w:aG)(z:cs)(aH cP ar au:y)(aP aO:ai)(Z:y->ai)(aE:y->y)(aa:y->B (y×y))(K:y->y)(n t:y) :bb w:=
  .ax NQ (aY 0x12000001) 1 (H1 w aH cP [] none (by first | lia | (simp;done) | (simp;lia))) [0] λah=>.ax Nh f1 1 (Ru w z ({dD:=PySem.Value.ref aH,aP:=aP,ar:=ar,aO:=aO,au:=au,Z:=Z,aE:=aE,aa:=aa,K:=K}) n (ah 0) (ah 2) t (ah 1) (ah 1+2)) NT λaN=>.ax Nv [0,0,2] 0 (HN w aH cP [] none (by first | lia | (simp;done) | (simp;lia))) [0] λbx=>.ax (lF 0x11e1e1e1d00000300020200000002000000021d) kL 0 (jN w aP 0 (aP+0) ar (bx 1+2) none rfl) [] λcj=>.bd Nw [0,0] 0 (.ret (.ok (.ret (.ref (ah 2))))) (d4 (dW 0 28++[29]) ([I (dF ad []) (bx 2)]++((bX w.params z ⟨.ref aH,aP+0,cj 2,aO,au,Z,aE,aa,K⟩).map (·.2)++[di (dF ad [])])))
theorem WZ (w:aG)(z:cs)(aH cP ar au:y)(aP aO:ai)(Z:y->ai)(aE:y->y)(aa:y->B (y×y))(K:y->y) :b2 w 4 none ([(aH,I (dF ad []) cP)]++bX w.params z ⟨.ref aH,aP,ar,aO,au,Z,aE,aa,K⟩) (.call (.ref 150) ⟨[.ref z.s],[]⟩) (WY w z aH cP ar au aP aO Z aE aa K):=by revert w;exact cX
section
variable (w:aG)(z:cs)(aH cP ar au:y)(aP aO:ai)(v:ag)(l:B ag)(h:decide (aO<aP)=true)(Z:y->ai)(aE:y->y)(aa:y->B (y×y))(K:y->y)(p:y×y)(R:B (y×y))(L:∀ q∈p::R,q.1<12)(al:((p::R).map ad).length<1000000)
noncomputable def WV (n t:y) :bb w:=
  .ax NQ (aY 0x12000001) 1 (H1 w aH cP (dF ad (p::R)) none al) [0] λah=>.ax Nh f1 1 (Rt w z ({dD:=PySem.Value.ref aH,aP:=aP,ar:=ar,aO:=aO,au:=au,Z:=Z,aE:=aE,aa:=aa,K:=K}) n (ah 0) (ah 2) t (ah 1) (ah 1+2) p R L) NT λaN=>.ax Nv [0,0,2] 0 (HN w aH cP (dF ad (p::R)) none al) [0] λbx=>.ax (lF 0x11d00000300020200000002000000021d) [0,0,2] 0 (Rw w (ah 2) (dF ad (p::R)) ((dF ad (p::R)).length) none rfl al) [29] λcj=>.ax [] [0,2] 0 (jN w ((se {dD:=PySem.Value.ref aH,aP:=aP,ar:=ar,aO:=aO,au:=au,Z:=Z,aE:=aE,aa:=aa,K:=K}
  (p::R)).aP) (↑(dF ad (p::R)).length) ((se {dD:=PySem.Value.ref aH,aP:=aP,ar:=ar,aO:=aO,au:=au,Z:=Z,aE:=aE,aa:=aa,K:=K}
   (p::R)).aP+
 ↑(dF ad (p::R)).length) ((se {dD:=PySem.Value.ref aH,aP:=aP,ar:=ar,aO:=aO,au:=au,Z:=Z,aE:=aE,aa:=aa,K:=K}
  (p::R)).ar) (cj 2) none rfl) [] λcg=>.bd Nw [0,0] 0 (.ret (.ok (.ret (.ref (ah 2))))) (d4 (dW 0 28++[29]) ([I (dF ad []) (bx 2)]++((bX w.params z {se ⟨.ref aH,aP,ar,aO,au,Z,aE,aa,K⟩ (p::R) with aP:=aP+(((p::R).map ad).length:ai),ar:=cg 2}).map (·.2)++[di (dF ad (p::R))])))
theorem WW:b2 w 4 none ([(aH,I ((p::R).map ad) cP)]++bX w.params z ⟨.ref aH,aP,ar,aO,au,Z,aE,aa,K⟩) (.call (.ref 150) ⟨[.ref z.s],[]⟩) (WV w z aH cP ar au aP aO Z aE aa K p R L al):=by revert w;exact cX
noncomputable def YW (n t:y) :bb w:=
  .ax Fm sk 1 (lD w aO aP au ar true none h) [] λah=>.bd [] [] 0 (.ret (.ok (.ret (.bool true)))) [(0,el z.bs),(1,en w.params z.M z.ab z.ae z.ak z.aw (PySem.Value.ref aH) aP ar aO au),(2,I l cP)]
theorem YX:b2 w 3 none ([(z.s,el z.bs),(z.bs,en w.params z.M z.ab z.ae z.ak z.aw (.ref aH) aP ar aO au),(aH,I l cP)]) (.call (.ref 157) ⟨[.ref z.s],[]⟩) (YW w z aH cP ar au aP aO l h):=by revert w;exact cX
section
variable (h:decide (aO<aP)=false)(al:(v::l).length<1000000)
noncomputable def YY (n t:y) :bb w:=
  .ax Fm sk 1 (lD w aO aP au ar false none h) [] λah=>.ax (aY 0x133201100010001400) f1 0 (kz w aH cP (v::l) ((v::l).length) none rfl al) [2] λaN=>.bd [] [0,0] 0 (.ret (.ok (.ret (.bool true)))) [(0,el z.bs),(1,en w.params z.M z.ab z.ae z.ak z.aw (PySem.Value.ref aH) aP ar aO au),(2,I (v::l) cP)]
theorem YZ:b2 w 3 none ([(z.s,el z.bs),(z.bs,en w.params z.M z.ab z.ae z.ak z.aw (.ref aH) aP ar aO au),(aH,I (v::l) cP)]) (.call (.ref 157) ⟨[.ref z.s],[]⟩) (YY w z aH cP ar au aP aO v l h al):=by revert w;exact cX
end
section
variable (h:decide (aO<aP)=false)
noncomputable def Y0 (n t:y) :bb w:=
  .ax Fm sk 1 (lD w aO aP au ar false none h) [] λah=>.bd (aY 0x133333201100010001400) z7 0 (.ret (.ok (.ret (.bool false)))) [(0,el z.bs),(1,en w.params z.M z.ab z.ae z.ak z.aw (PySem.Value.ref aH) aP ar aO au),(2,I [] cP)]
theorem Y1:b2 w 3 none ([(z.s,el z.bs),(z.bs,en w.params z.M z.ab z.ae z.ak z.aw (.ref aH) aP ar aO au),(aH,I [] cP)]) (.call (.ref 157) ⟨[.ref z.s],[]⟩) (Y0 w z aH cP ar au aP aO h):=by revert w;exact cX
end
end
section
variable {w:aG}{z:cs}
noncomputable def gH (S:cU)(R:B (y×y))(t:y) :cU:={se S R with aP:=S.aP+((R.map ad).length:ai),ar:=t}
theorem W1 {S:cU}{aH cP:y}{R:B (y×y)}(dT:S.dD= .ref aH)(L:∀ q∈R,q.1<12)(al:R.length<1000) :
  b0 w 4 (.call (.ref 150) ⟨[.ref z.s],[]⟩) none ([(aH,I (R.map ad) cP)]++bX w.params z S) (λx=>.ok (.ret (.ref (x 3)))) (λx=>[I (dF ad []) (x 2)]++(bX w.params z (gH S R (x 4))).map (·.2)) (λx=>[(x 3,di (R.map ad))]) (λ_=>bZ):=by
 obtain ⟨dD,aP,ar,aO,au,Z,aE,aa,K⟩:=S;subst dT
 induction R with
 | nil=>exact dy (WZ w z aH cP ar au aP aO Z aE aa K) (λn t X c d=>ca c d [X 2 2,X 0 2,X 3 2]) λn t X c d=>⟨by kernel_rfl,rfl,trivial⟩
 | cons p R=>exact dy (WW w z aH cP ar au aP aO Z aE aa K p R L (by simp at al ⊢;lia)) (λn t X c d=>ca c d [X 2 2,X 0 2,X 4 2]) λn t X c d=>⟨by kernel_rfl,rfl,trivial⟩
theorem QF {S:cU}{aH cP:y}{l:B ag}{b:bW}(dT:S.dD= .ref aH)(al:l.length<1000)(aQ:(decide (S.aO<S.aP)||!l.isEmpty)=b) :
  b0 w 3 (.call (.ref 157) ⟨[.ref z.s],[]⟩) none [(z.s,el z.bs),(z.bs,en w.params z.M z.ab z.ae z.ak z.aw S.dD S.aP S.ar S.aO S.au),(aH,I l cP)] (λ_=>.ok (.ret (.bool b)))
   (λ_=>[el z.bs,en w.params z.M z.ab z.ae z.ak z.aw S.dD S.aP S.ar S.aO S.au,I l cP]) (λ_=>[]) (λ_=>bZ):=by
 obtain ⟨dD,aP,ar,aO,au,Z,aE,aa,K⟩:=S;subst dT;subst aQ;show b0 w 3 _ none _ _ _ _ _;cases h:decide (aO<aP) with
 | true=>refine mf (YX w z aH cP ar au aP aO l h) ?_;intro n t ah _ c d;exact ⟨ca c d [],rfl,rfl,by simp [h],rfl,rfl,trivial⟩
 | false=>
  induction l with
  | nil=>refine mf (Y1 w z aH cP ar au aP aO h) ?_;intro n t ah _ c d;exact ⟨ca c d [],rfl,rfl,by simp [h],rfl,rfl,trivial⟩
  | cons v l=>refine mf (YZ w z aH cP ar au aP aO v l h (by lia)) ?_;intro n t ah _ aN _ c d;exact ⟨ca c d [],rfl,rfl,by simp [h],rfl,rfl,trivial⟩
end
noncomputable def tc (w:aG)(z:cs)(S:cU)(aH cP:y)(R:B (y×y))(dT:S.dD= .ref aH)(L:∀ q∈R,q.1<12)(al:R.length<1000) :cV w:=⟨4,_,none,_,_,_,_,_,W1 (w:=w) (z:=z) (S:=S) (cP:=cP) dT L al⟩
noncomputable def rv (w:aG)(z:cs)(S:cU)(aH cP:y)(l:B ag)(b:bW)(dT:S.dD= .ref aH)(al:l.length<1000)(aQ:(decide (S.aO<S.aP)||!l.isEmpty)=b) :cV w:=⟨3,_,none,_,_,_,_,_,QF (w:=w) (z:=z) (S:=S) (aH:=aH) (cP:=cP) dT al aQ⟩
end
noncomputable abbrev i5 (G J:aM) :cn:=zE (e7 13 7) (pu (e7 13 7).2.1[2]?) (U z3) 171 170 G J
noncomputable abbrev kc (G J:aM) :cn:=zE (e7 13 7) (pu (pu (e7 13 7).2.1[2]?).2.2.1[4]?) (U z3) 171 170 G J
noncomputable abbrev vM (P:bp)(s av aw M ab ae:y) :ao:=eM [aj P gv M (.ref s),aj P sq ab (.ref av),aj P kM ae (.ref aw)] 3
noncomputable abbrev i4 (P:bp)(s av aw M ab ae ak aD a0:y)(x:a6)(am bn:y)(i:ai)(ci:y) :ao:=eM [aj P gv M (.ref s),aj P sq ab (.ref av),aj P kM ae (.ref aw),aj P lo ak (.str x am),aj P uy aD (.ref bn),aj P ug a0 (.int i ci)] 6
noncomputable abbrev hG (P:bp)(s av aw M ab ae ak aD a0 b7 eV:y)(x:a6)(am bn:y)(i:ai)(ci:y)(as:a6)(dq hY:y) :ao:=eM [aj P gv M (.ref s),aj P sq ab (.ref av),aj P kM ae (.ref aw),aj P lo ak (.str x am),aj P uy aD (.ref bn),aj P ug a0 (.int i ci),aj P xm b7 (.str as dq),aj P xf eV (.ref hY)] 8
noncomputable def Gn (a b c d e f aI h i j:y)(l:y->y) :y->y
 | 0=>a | 1=>b | 2=>c | 3=>d | 4=>e | 5=>f | 6=>aI | 7=>h | 8=>i | 9=>j | k+10=>l k
section
section
variable (w:aG)(z:cs)(aH ar au:y)(aP aO:ai)(Z:y->ai)(aE:y->y)(aa:y->B (y×y))(K:y->y)(G J av M ab ae ak aD a0 dj bn ci k i j am e:y)(aq:a6)(d6:ai)(Q:B (y×y))(bc:((aa i).map ad)[k]? =some (ad (j,am)))(bu:ef (cQ z) (ay j)=some (.ref (z.bn j)))(hz:((Z j - 1)==0)=true)(a4:(Q.map ad).length<1000000)(m5:Q.map ad++[ad (j,am)]=(Q++[(j,am)]).map ad)
noncomputable def TA (n t:y) :bb w:=
  .ax [2,2] [0,0,2] 0 (jO w J (z.bl i) (K i) k (dF ad (aa i)) (.str (ay j) am) none bc) [1,7] λah=>.ax z8 [0,2] 0 (qk w z.aw 12 am (cQ z) (ay j) (.ref (z.bn j)) none bu) [5] λaN=>.ax Ae f1 0 (yw w (Z j) 1 (Z j - 1) (aE j) (aN 1+2) none rfl) [] λbx=>.ax Aa ud 0 (ov w (Z j - 1) 0 (bx 2) (bx 1+2) true none hz) [] λcj=>.ax (aY 0x13133335044000400041) [0,0,2] 0 (hS w aH e (dF ad Q) (dF ad (Q++[(j,am)])) (.str (ay j) am) none a4 m5) [2] λcg=>.bd [] [3] 0 (.dr (kc G J)) [(0,{cls:=(.type "frame"),data:=(.dict ⟨[aj w.params gv M (.ref z.s),aj w.params sq ab (.ref av),aj w.params kM ae (.ref z.aw),aj w.params lo ak (.str aq dj),aj w.params uy aD (.ref bn),aj w.params ug a0 (.int d6 ci),aj w.params xm (ah 1) (.str (ay j) am),aj w.params xf (aN 1) (.ref (z.bn j))]⟩ 8)}),(1,b4 "list_iterator" (z.bl i) (k+1)),(2,I (dF ad (Q++[(j,am)])) (e+1)),(3,el z.bs),(4,en w.params z.M z.ab z.ae z.ak z.aw (PySem.Value.ref aH) aP ar aO au),(5,bT w.params (cQ z) 12),(6,{cls:=(.ref 91),data:=.plain,dict:=(some (z.er j)),slots:=⟨[some (.str (ay j) (z.cb j)),some (.int (Z j - 1) (bx 2)),some (.ref (z.bl j))]⟩}),(7,ht "list" (dF ad (aa i)) (K i))]
theorem TB:b2 w 4 none ([(G,i4 w.params z.s av z.aw M ab ae ak aD a0 aq dj bn d6 ci),(J,b4 "list_iterator" (z.bl i) k),(aH,I (Q.map ad) e)]++dZ w.params z ⟨.ref aH,aP,ar,aO,au,Z,aE,aa,K⟩ [j] [i]) (kc G J) (TA w z aH ar au aP aO Z aE aa K G J av M ab ae ak aD a0 dj bn ci k i j am e aq d6 Q bc bu hz a4 m5):=by revert w;exact cX
end
section
variable (w:aG)(z:cs)(aH ar au:y)(aP aO:ai)(Z:y->ai)(aE:y->y)(aa:y->B (y×y))(K:y->y)(G J av M ab ae ak aD a0 b7 eV dj bn ci dq hY k i j am e:y)(aq as:a6)(d6:ai)(Q:B (y×y))(bc:((aa i).map ad)[k]? =some (ad (j,am)))(bu:ef (cQ z) (ay j)=some (.ref (z.bn j)))(hz:((Z j - 1)==0)=false)(a4:(Q.map ad).length<1000000)(m5:Q.map ad++[ad (j,am)]=(Q++[(j,am)]).map ad)
section
include a4 m5
noncomputable def Ty (n t:y) :bb w:=
  .ax [2,2] [0,0,2] 0 (jO w J (z.bl i) (K i) k (dF ad (aa i)) (.str (ay j) am) none bc) [1,7] λah=>.ax z8 [0,2] 0 (qk w z.aw 12 am (cQ z) (ay j) (.ref (z.bn j)) none bu) [5] λaN=>.ax Ae f1 0 (yw w (Z j) 1 (Z j - 1) (aE j) (aN 1+2) none rfl) [] λbx=>.ax Aa ud 0 (ov w (Z j - 1) 0 (bx 2) (bx 1+2) false none hz) [] λcj=>.bd [] [3] 0 (.dr (kc G J)) [(0,{cls:=(.type "frame"),data:=(.dict ⟨[aj w.params gv M (.ref z.s),aj w.params sq ab (.ref av),aj w.params kM ae (.ref z.aw),aj w.params lo ak (.str aq dj),aj w.params uy aD (.ref bn),aj w.params ug a0 (.int d6 ci),aj w.params xm (ah 1) (.str (ay j) am),aj w.params xf (aN 1) (.ref (z.bn j))]⟩ 8)}),(1,b4 "list_iterator" (z.bl i) (k+1)),(2,I (dF ad Q) e),(3,el z.bs),(4,en w.params z.M z.ab z.ae z.ak z.aw (PySem.Value.ref aH) aP ar aO au),(5,bT w.params (cQ z) 12),(6,{cls:=(.ref 91),data:=.plain,dict:=(some (z.er j)),slots:=⟨[some (.str (ay j) (z.cb j)),some (.int (Z j - 1) (bx 2)),some (.ref (z.bl j))]⟩}),(7,ht "list" (dF ad (aa i)) (K i))]
theorem Tz:b2 w 4 none ([(G,i4 w.params z.s av z.aw M ab ae ak aD a0 aq dj bn d6 ci),(J,b4 "list_iterator" (z.bl i) k),(aH,I (Q.map ad) e)]++dZ w.params z ⟨.ref aH,aP,ar,aO,au,Z,aE,aa,K⟩ [j] [i]) (kc G J) (Ty w z aH ar au aP aO Z aE aa K G J av M ab ae ak aD a0 dj bn ci k i j am e aq d6 Q bc bu hz):=by revert w;exact cX
end
section
variable (bc:((aa i).map ad).length=k)
noncomputable def Tw (n t:y) :bb w:=
  .ax [2,2] [0,0,2] 0 (nC w J (z.bl i) (K i) k (dF ad (aa i)) bc) [1,6] λah=>.bd [8] [0] 0 (.ret (.ok .next)) [(0,i4 w.params z.s av z.aw M ab ae ak aD a0 aq dj bn d6 ci),(1,ee "list_iterator" k),(2,I (dF ad Q) e),(3,el z.bs),(4,en w.params z.M z.ab z.ae z.ak z.aw (PySem.Value.ref aH) aP ar aO au),(5,bT w.params (cQ z) 12),(6,ht "list" (dF ad (aa i)) (K i))]
theorem Tx:b2 w 4 none ([(G,i4 w.params z.s av z.aw M ab ae ak aD a0 aq dj bn d6 ci),(J,b4 "list_iterator" (z.bl i) k),(aH,I (Q.map ad) e)]++dZ w.params z ⟨.ref aH,aP,ar,aO,au,Z,aE,aa,K⟩ [] [i]) (kc G J) (Tw w z aH ar au aP aO aa K J av M ab ae ak aD a0 dj bn ci k i e aq d6 Q bc):=c6
end
section
variable (hz:((Z j - 1)==0)=true)(a4:(Q.map ad).length<1000000)(m5:Q.map ad++[ad (j,am)]=(Q++[(j,am)]).map ad)
noncomputable def TG (n t:y) :bb w:=
  .ax [2,2] [0,0,2] 0 (jO w J (z.bl i) (K i) k (dF ad (aa i)) (.str (ay j) am) none bc) [1,7] λah=>.ax z8 [0,2] 0 (qk w z.aw 12 am (cQ z) (ay j) (.ref (z.bn j)) none bu) [5] λaN=>.ax Ae f1 0 (yw w (Z j) 1 (Z j - 1) (aE j) (aN 1+2) none rfl) [] λbx=>.ax Aa ud 0 (ov w (Z j - 1) 0 (bx 2) (bx 1+2) true none hz) [] λcj=>.ax (aY 0x13133335044000400041) [0,0,2] 0 (hS w aH e (dF ad Q) (dF ad (Q++[(j,am)])) (.str (ay j) am) none a4 m5) [2] λcg=>.bd [] [3] 0 (.dr (kc G J)) [(0,{cls:=(.type "frame"),data:=(.dict ⟨[aj w.params gv M (.ref z.s),aj w.params sq ab (.ref av),aj w.params kM ae (.ref z.aw),aj w.params lo ak (.str aq dj),aj w.params uy aD (.ref bn),aj w.params ug a0 (.int d6 ci),aj w.params xm b7 (.str (ay j) am),aj w.params xf eV (.ref (z.bn j))]⟩ 8)}),(1,b4 "list_iterator" (z.bl i) (k+1)),(2,I (dF ad (Q++[(j,am)])) (e+1)),(3,el z.bs),(4,en w.params z.M z.ab z.ae z.ak z.aw (PySem.Value.ref aH) aP ar aO au),(5,bT w.params (cQ z) 12),(6,{cls:=(.ref 91),data:=.plain,dict:=(some (z.er j)),slots:=⟨[some (.str (ay j) (z.cb j)),some (.int (Z j - 1) (bx 2)),some (.ref (z.bl j))]⟩}),(7,ht "list" (dF ad (aa i)) (K i))]
theorem TH:b2 w 4 none ([(G,hG w.params z.s av z.aw M ab ae ak aD a0 b7 eV aq dj bn d6 ci as dq hY),(J,b4 "list_iterator" (z.bl i) k),(aH,I (Q.map ad) e)]++dZ w.params z ⟨.ref aH,aP,ar,aO,au,Z,aE,aa,K⟩ [j] [i]) (kc G J) (TG w z aH ar au aP aO Z aE aa K G J av M ab ae ak aD a0 b7 eV dj bn ci k i j am e aq d6 Q bc bu hz a4 m5):=by revert w;exact cX
end
section
include a4 m5
noncomputable def TE (n t:y) :bb w:=
  .ax [2,2] [0,0,2] 0 (jO w J (z.bl i) (K i) k (dF ad (aa i)) (.str (ay j) am) none bc) [1,7] λah=>.ax z8 [0,2] 0 (qk w z.aw 12 am (cQ z) (ay j) (.ref (z.bn j)) none bu) [5] λaN=>.ax Ae f1 0 (yw w (Z j) 1 (Z j - 1) (aE j) (aN 1+2) none rfl) [] λbx=>.ax Aa ud 0 (ov w (Z j - 1) 0 (bx 2) (bx 1+2) false none hz) [] λcj=>.bd [] [3] 0 (.dr (kc G J)) [(0,{cls:=(.type "frame"),data:=(.dict ⟨[aj w.params gv M (.ref z.s),aj w.params sq ab (.ref av),aj w.params kM ae (.ref z.aw),aj w.params lo ak (.str aq dj),aj w.params uy aD (.ref bn),aj w.params ug a0 (.int d6 ci),aj w.params xm b7 (.str (ay j) am),aj w.params xf eV (.ref (z.bn j))]⟩ 8)}),(1,b4 "list_iterator" (z.bl i) (k+1)),(2,I (dF ad Q) e),(3,el z.bs),(4,en w.params z.M z.ab z.ae z.ak z.aw (PySem.Value.ref aH) aP ar aO au),(5,bT w.params (cQ z) 12),(6,{cls:=(.ref 91),data:=.plain,dict:=(some (z.er j)),slots:=⟨[some (.str (ay j) (z.cb j)),some (.int (Z j - 1) (bx 2)),some (.ref (z.bl j))]⟩}),(7,ht "list" (dF ad (aa i)) (K i))]
theorem TF:b2 w 4 none ([(G,hG w.params z.s av z.aw M ab ae ak aD a0 b7 eV aq dj bn d6 ci as dq hY),(J,b4 "list_iterator" (z.bl i) k),(aH,I (Q.map ad) e)]++dZ w.params z ⟨.ref aH,aP,ar,aO,au,Z,aE,aa,K⟩ [j] [i]) (kc G J) (TE w z aH ar au aP aO Z aE aa K G J av M ab ae ak aD a0 b7 eV dj bn ci k i j am e aq d6 Q bc bu hz):=by revert w;exact cX
end
section
variable (bc:((aa i).map ad).length=k)
noncomputable def TC (n t:y) :bb w:=
  .ax [2,2] [0,0,2] 0 (nC w J (z.bl i) (K i) k (dF ad (aa i)) bc) [1,6] λah=>.bd [8] [0] 0 (.ret (.ok .next)) [(0,hG w.params z.s av z.aw M ab ae ak aD a0 b7 eV aq dj bn d6 ci as dq hY),(1,ee "list_iterator" k),(2,I (dF ad Q) e),(3,el z.bs),(4,en w.params z.M z.ab z.ae z.ak z.aw (PySem.Value.ref aH) aP ar aO au),(5,bT w.params (cQ z) 12),(6,ht "list" (dF ad (aa i)) (K i))]
theorem TD:b2 w 4 none ([(G,hG w.params z.s av z.aw M ab ae ak aD a0 b7 eV aq dj bn d6 ci as dq hY),(J,b4 "list_iterator" (z.bl i) k),(aH,I (Q.map ad) e)]++dZ w.params z ⟨.ref aH,aP,ar,aO,au,Z,aE,aa,K⟩ [] [i]) (kc G J) (TC w z aH ar au aP aO aa K J av M ab ae ak aD a0 b7 eV dj bn ci dq hY k i e aq as d6 Q bc):=c6
end
end
section
variable {w:aG}{z:cs}
noncomputable def fg:B (y×y)->(y->ai)->B (y×y)->(y->ai)×B (y×y)
 | [],Z,Q=>(Z,Q)
 | p::r,Z,Q=>fg r (cF Z p.1 (Z p.1 - 1)) (if ((Z p.1 - 1)==0)=true then Q++[p] else Q)
theorem zK {dd jt:Type}{f:dd->jt}{l:B dd}{n:y}(h:l.length+n<1000) :(l.map f).length<1000000:=by refine H (de ..) ?_;exact iK (jx ..) (fh h (by decide))
theorem zL {Q:B (y×y)}{p:y×y} :Q.map ad++[ad p]=(Q++[p]).map ad:=by refine H (c0 ..) ?_;rfl
theorem KV {dd:Type}{Q r:B dd}{p:dd}(al:Q.length+(p::r).length<1000) :(Q++[p]).length+r.length<1000:=by refine H (ea ..) (H (ig ..) (H (pb ..) (H (lB 1 ..) ?_)));exact al
theorem zJ {dd jt:Type}{f:dd->jt}{l:B dd}{k:y}{a:dd}(h:l[k]? =some a) :(l.map f)[k]? =some (f a):=by refine H (mL ..) (H h ?_);rfl
theorem Is {p:y×y}{r:B (y×y)}{Z:y->ai}{Q:B (y×y)}(h:((Z p.1 - 1)==0)=true) :fg (p::r) Z Q=fg r (cF Z p.1 (Z p.1 - 1)) (Q++[p]):=by rw [fg,d1 h]
theorem Ir {p:y×y}{r:B (y×y)}{Z:y->ai}{Q:B (y×y)}(h:((Z p.1 - 1)==0)=false) :fg (p::r) Z Q=fg r (cF Z p.1 (Z p.1 - 1)) Q:=by rw [fg,h];rfl
theorem vN {G J av M ab ae ak aD a0 b7 eV dj bn ci i aH ar au:y}{aq:a6}{d6 aP aO:ai}{aa:y->B (y×y)}{K:y->y}(aF:i<12) :∀ (aW:B (y×y)) (k:y) (Z:y->ai) (aE:y->y) (Q:B (y×y)) (e:y) (q:y×y),(aa i).drop k=aW->k+aW.length=(aa i).length->(∀ p∈aW,p.1<12)->Q.length+aW.length<1000->
  b0 w 4 (kc G J) none ([(G,hG w.params z.s av z.aw M ab ae ak aD a0 b7 eV aq dj bn d6 ci (ay q.1) q.2 (z.bn q.1)),(J,b4 "list_iterator" (z.bl i) k),(aH,I (Q.map ad) e)]++bX w.params z ⟨.ref aH,aP,ar,aO,au,Z,aE,aa,K⟩) (λ_=>.ok .next)
   (λx=>[hG w.params z.s av z.aw M ab ae ak aD a0 b7 eV aq dj bn d6 ci (ay (gm q aW).1) (gm q aW).2 (z.bn (gm q aW).1),ee "list_iterator" (aa i).length,I ((fg aW Z Q).2.map ad) (x 2)]++(bX w.params z ⟨.ref aH,aP,ar,aO,au,(fg aW Z Q).1,λk=>x (k+10),aa,K⟩).map (·.2)) (λ_=>[]) (λ_=>bZ)
 | [],k,Z,aE,Q,e,q,_,aV,_,_=>by obtain rfl:k=(aa i).length:=aV;exact (u6 (bB:=λ_=>.ok .next) (bV:=λ_=>[]) (cond:=λ_=>bZ) (jR:=λ_=>[hG w.params z.s av z.aw M ab ae ak aD a0 b7 eV aq dj bn d6 ci (ay q.1) q.2 (z.bn q.1),ee "list_iterator" (aa i).length,I (Q.map ad) e]) (dc:=λ_=>⟨.ref aH,aP,ar,aO,au,Z,aE,aa,K⟩) [] [i] .nil gW kk (ic aF) (dy (TD w z aH ar au aP aO Z aE aa K G J av M ab ae ak aD a0 b7 eV dj bn ci q.2 (z.bn q.1) (aa i).length i e aq (ay q.1) d6 Q (de ..)) (λ_ _ _ a b=>ca a b []) λ_ _ _ _ _=>⟨by kernel_rfl,rfl,trivial⟩) (λ_=>rfl) λ_=>⟨λ_ _=>⟨rfl,rfl⟩,λ_ _=>⟨rfl,rfl⟩⟩).Ai (λu=>Gn (u 0) (u 1) e 0 0 0 0 0 0 0 aE) (λ_=>rfl) λ_ _=>trivial
 | p::aW,k,Z,aE,Q,e,q,ap,aV,L,al=>by
  have m4:=L p (cY ..);obtain ⟨i3,iP⟩:=tn ap;have i8:=(sX k aW.length).trans aV;have fu:∀ p∈aW,p.1<12:=λq a4=>L q (dG _ a4)
  induction hz:(Z p.1 - 1)==0 with
  | true=>
   refine H (Is hz ..) ?_;refine n5 [p.1] [i] gW gW (ic m4) (ic aF) (TH w z aH ar au aP aO Z aE aa K G J av M ab ae ak aD a0 b7 eV dj bn ci q.2 (z.bn q.1) k i p.1 p.2 e aq (ay q.1) d6 Q (zJ i3) (qP z m4) hz (zK al) zL) (c:=λ_ _ _=>kc G J) (dc:=λ_ _ X=>⟨.ref aH,aP,ar,aO,au,cF Z p.1 (Z p.1 - 1),cF aE p.1 (X 2 2),aa,K⟩)
    (lJ:=λ_ _ _=>[(G,hG w.params z.s av z.aw M ab ae ak aD a0 b7 eV aq dj bn d6 ci (ay p.1) p.2 (z.bn p.1)),(J,b4 "list_iterator" (z.bl i) (k+1)),(aH,I ((Q++[p]).map ad) (e+1))]) (λn t X=>?_) (λ_ _ _=>rfl) (λ_ _ _=>⟨λi h=>ss _ _ _ _ _ i h,λ_ _=>⟨rfl,rfl⟩⟩)
    λ_ _ X=>vN aF aW (k+1) _ (cF aE p.1 (X 2 2)) (Q++[p]) (e+1) p iP i8 fu (KV al)
   refine H (mw (gV (pJ (S:=⟨.ref aH,aP,ar,aO,au,cF Z p.1 (Z p.1 - 1),cF aE p.1 (X 2 2),aa,K⟩) (gB ..) (gB ..)) rfl) rfl ..) ?_;kernel_rfl
  | false=>
   refine H (Ir hz ..) ?_;refine n5 [p.1] [i] gW gW (ic m4) (ic aF) (TF w z aH ar au aP aO Z aE aa K G J av M ab ae ak aD a0 b7 eV dj bn ci q.2 (z.bn q.1) k i p.1 p.2 e aq (ay q.1) d6 Q (zJ i3) (qP z m4) hz (zK al) zL) (c:=λ_ _ _=>kc G J) (dc:=λ_ _ X=>⟨.ref aH,aP,ar,aO,au,cF Z p.1 (Z p.1 - 1),cF aE p.1 (X 2 2),aa,K⟩)
    (lJ:=λ_ _ _=>[(G,hG w.params z.s av z.aw M ab ae ak aD a0 b7 eV aq dj bn d6 ci (ay p.1) p.2 (z.bn p.1)),(J,b4 "list_iterator" (z.bl i) (k+1)),(aH,I (Q.map ad) e)]) (λn t X=>?_) (λ_ _ _=>rfl) (λ_ _ _=>⟨λi h=>ss _ _ _ _ _ i h,λ_ _=>⟨rfl,rfl⟩⟩)
    λ_ _ X=>vN aF aW (k+1) _ (cF aE p.1 (X 2 2)) Q e p iP i8 fu (vq al)
   refine H (mw (gV (pJ (S:=⟨.ref aH,aP,ar,aO,au,cF Z p.1 (Z p.1 - 1),cF aE p.1 (X 2 2),aa,K⟩) (gB ..) (gB ..)) rfl) rfl ..) ?_;kernel_rfl
theorem TI {G J av M ab ae ak aD a0 dj bn ci i aH ar au:y}{aq:a6}{d6 aP aO:ai}{aa:y->B (y×y)}{K:y->y}(aF:i<12)(p:y×y)(aW:B (y×y))(Z:y->ai)(aE:y->y)(Q:B (y×y))(e:y)(hs:aa i=p::aW)(L:∀ q∈p::aW,q.1<12)(al:Q.length+(p::aW).length<1000) :
  b0 w 4 (kc G J) none ([(G,i4 w.params z.s av z.aw M ab ae ak aD a0 aq dj bn d6 ci),(J,b4 "list_iterator" (z.bl i) 0),(aH,I (Q.map ad) e)]++bX w.params z ⟨.ref aH,aP,ar,aO,au,Z,aE,aa,K⟩) (λ_=>.ok .next)
   (λx=>[hG w.params z.s av z.aw M ab ae ak aD a0 (x 3) (x 4) aq dj bn d6 ci (ay (gm p aW).1) (gm p aW).2 (z.bn (gm p aW).1),ee "list_iterator" (aa i).length,I ((fg (p::aW) Z Q).2.map ad) (x 2)]++(bX w.params z ⟨.ref aH,aP,ar,aO,au,(fg (p::aW) Z Q).1,λk=>x (k+10),aa,K⟩).map (·.2)) (λ_=>[]) (λ_=>bZ):=by
 have m4:=L p (cY ..);obtain ⟨i3,iP⟩:=tn (k:=0) hs;have i8:1+aW.length=(aa i).length:=by refine H hs (H (lB ..) ?_);rfl
 have fu:∀ p∈aW,p.1<12:=λq a4=>L q (dG _ a4)
 induction hz:(Z p.1 - 1)==0 with
 | true=>
  refine H (Is hz ..) ?_;refine n5 [p.1] [i] gW gW (ic m4) (ic aF) (TB w z aH ar au aP aO Z aE aa K G J av M ab ae ak aD a0 dj bn ci 0 i p.1 p.2 e aq d6 Q (zJ i3) (qP z m4) hz (zK al) zL) (c:=λ_ _ _=>kc G J) (dc:=λ_ _ X=>⟨.ref aH,aP,ar,aO,au,cF Z p.1 (Z p.1 - 1),cF aE p.1 (X 2 2),aa,K⟩)
   (lJ:=λ_ _ X=>[(G,hG w.params z.s av z.aw M ab ae ak aD a0 (X 0 1) (X 1 1) aq dj bn d6 ci (ay p.1) p.2 (z.bn p.1)),(J,b4 "list_iterator" (z.bl i) 1),(aH,I ((Q++[p]).map ad) (e+1))]) (λn t X=>?_) (λ_ _ _=>rfl) (λ_ _ _=>⟨λi h=>ss _ _ _ _ _ i h,λ_ _=>⟨rfl,rfl⟩⟩)
   λ_ _ X=>(vN aF aW 1 _ (cF aE p.1 (X 2 2)) (Q++[p]) (e+1) p iP i8 fu (KV al)).Ai (λu=>Gn (u 0) (u 1) (u 2) (X 0 1) (X 1 1) 0 0 0 0 0 λk=>u (k+10)) (λ_=>rfl) λ_ _=>trivial
  refine H (mw (gV (pJ (S:=⟨.ref aH,aP,ar,aO,au,cF Z p.1 (Z p.1 - 1),cF aE p.1 (X 2 2),aa,K⟩) (gB ..) (gB ..)) rfl) rfl ..) ?_;kernel_rfl
 | false=>
  refine H (Ir hz ..) ?_;refine n5 [p.1] [i] gW gW (ic m4) (ic aF) (Tz w z aH ar au aP aO Z aE aa K G J av M ab ae ak aD a0 dj bn ci 0 i p.1 p.2 e aq d6 Q (zJ i3) (qP z m4) hz (zK al) zL) (c:=λ_ _ _=>kc G J) (dc:=λ_ _ X=>⟨.ref aH,aP,ar,aO,au,cF Z p.1 (Z p.1 - 1),cF aE p.1 (X 2 2),aa,K⟩)
   (lJ:=λ_ _ X=>[(G,hG w.params z.s av z.aw M ab ae ak aD a0 (X 0 1) (X 1 1) aq dj bn d6 ci (ay p.1) p.2 (z.bn p.1)),(J,b4 "list_iterator" (z.bl i) 1),(aH,I (Q.map ad) e)]) (λn t X=>?_) (λ_ _ _=>rfl) (λ_ _ _=>⟨λi h=>ss _ _ _ _ _ i h,λ_ _=>⟨rfl,rfl⟩⟩)
   λ_ _ X=>(vN aF aW 1 _ (cF aE p.1 (X 2 2)) Q e p iP i8 fu (vq al)).Ai (λu=>Gn (u 0) (u 1) (u 2) (X 0 1) (X 1 1) 0 0 0 0 0 λk=>u (k+10)) (λ_=>rfl) λ_ _=>trivial
  refine H (mw (gV (pJ (S:=⟨.ref aH,aP,ar,aO,au,cF Z p.1 (Z p.1 - 1),cF aE p.1 (X 2 2),aa,K⟩) (gB ..) (gB ..)) rfl) rfl ..) ?_;kernel_rfl
theorem TJ {G J av M ab ae ak aD a0 dj bn ci i aH ar au:y}{aq:a6}{d6 aP aO:ai}{aa:y->B (y×y)}{K:y->y}(aF:i<12)(Z:y->ai)(aE:y->y)(Q:B (y×y))(e:y)(hs:aa i=[]) :
  b0 w 4 (kc G J) none ([(G,i4 w.params z.s av z.aw M ab ae ak aD a0 aq dj bn d6 ci),(J,b4 "list_iterator" (z.bl i) 0),(aH,I (Q.map ad) e)]++bX w.params z ⟨.ref aH,aP,ar,aO,au,Z,aE,aa,K⟩) (λ_=>.ok .next)
   (λx=>[i4 w.params z.s av z.aw M ab ae ak aD a0 aq dj bn d6 ci,ee "list_iterator" 0,I (Q.map ad) e]++(bX w.params z ⟨.ref aH,aP,ar,aO,au,Z,aE,aa,K⟩).map (·.2)) (λ_=>[]) (λ_=>bZ):=
 u6 (dc:=λ_=>⟨.ref aH,aP,ar,aO,au,Z,aE,aa,K⟩) (jR:=λ_=>[i4 w.params z.s av z.aw M ab ae ak aD a0 aq dj bn d6 ci,ee "list_iterator" 0,I (Q.map ad) e]) [] [i] .nil gW kk (ic aF) (dy (Tx w z aH ar au aP aO Z aE aa K G J av M ab ae ak aD a0 dj bn ci 0 i e aq d6 Q (by refine H hs ?_;rfl)) (λ_ _ _ a b=>ca a b []) λ_ _ _ _ _=>⟨by kernel_rfl,rfl,trivial⟩) (λ_=>rfl) λ_=>⟨λ_ _=>⟨rfl,rfl⟩,λ_ _=>⟨rfl,rfl⟩⟩
end
end
section
section
variable {w:aG}{z:cs}
theorem b0.s7 {bj:y}{code:cn}{ap:aK ag}{pre fX R:B (aM×ao)}{pf:(y->y)->bN}{bB:(y->y)->cD}{cB hu:(y->y)->B ao}{bV:(y->y)->B (aM×ao)}{cond:(y->y)->Prop}
  (h:b0 w bj code ap fX bB cB bV cond)(L:fX.Perm (pre++R))(al:∀ x,(hu x).length=pre.length)(a4:∀ x,((fX.map (·.1)).zip (cB x)).Perm ((pre.map (·.1)).zip (hu x)++pf x)) :ec w none bj code ap pre [R] bB hu bV (λx=>[pf x]) cond:=λA s aS has bU=>by
 have a5:∀ X:bN,([X] :B bN).flatten=X:=λX=>by exact H (fz ..) (H (h2 ..) (H (d9 ..) rfl))
 rw [a5] at has bU;have tB:ie (fX.map (·.1)):=⟨(L.map (·.1)).nodup_iff.mpr bU.e8,λa bY=>bU.free a ((L.map (·.1)).mem_iff.mp bY)⟩;have J2:dX s.heap fX:=λp k=>has p (L.mem_iff.mp k);refine gR (h A s aS J2 tB) ?_;rintro r an ⟨x,ke,aX,bG,az,a7⟩;refine ⟨x,ke,aX,bG,az,?_⟩;have a4:=a4 x;have Dt:(hu x).length=(pre.map (·.1)).length:=(al x).trans (de ..).symm;have bY:=a4.map (·.1);rw [c0,pI a7.len,pI Dt] at bY;have Dw:=L.map (·.1);rw [c0] at Dw;have bJ:((pf x).map (·.1)).Perm (R.map (·.1)):=(List.perm_append_left_iff _).mp (bY.symm.trans Dw);refine ⟨Dt,λp k=>?_,?_,λp k=>?_,?_⟩
 ·rw [a5] at k
  rcases dU.mp k with k | k
  ·exact a7.has p (a4.mem_iff.mpr (eS _ k))
  ·rcases dU.mp k with k | k
   ·exact a7.bV p k
   ·exact a7.has p (a4.mem_iff.mpr (eJ _ k))
 ·refine H (a5 ..) (H (c0 ..) (H (c0 ..) (H (pI Dt ..) ?_)))
  have iG:(pre.map (·.1)++((bV x).map (·.1)++(pf x).map (·.1))).Perm (fX.map (·.1)++(bV x).map (·.1)):=by refine (x5.append_left _).trans ?_;refine df (f9 ..) ?_;exact bY.symm.append_right _
  refine iG.nodup_iff.mpr (fA.mpr ⟨tB.e8,a7.e8,λa k c lQ e=>?_⟩);obtain ⟨p,Yb,rfl⟩:=fC.mp k;obtain ⟨q,Ys,rfl⟩:=fC.mp lQ;exact absurd (hC (J2 p Yb)) (j9.mpr (e▸a7.fresh q Ys))
 ·rw [a5] at k ⊢
  rcases dU.mp k with k | k
  ·exact .inr (a7.fresh p k)
  ·exact .inl (bJ.mem_iff.mp (ep k))
 ·refine H (a5 ..) ?_
  exact a7.eD.sH λa k=>Dw.mem_iff.mp k
theorem acY {S dc:cU}{A af:B y}(h:p7 S dc A af) :iq z S A af=iq z dc A af:=by
 have f:∀ {C:B y} {i},i∈(mn.filter λi=>!lT i C)->i ∉ C:=λ{C i} aF aU=>by have:=(mN.mp aF).2;rw [sa.mpr aU] at this;cases this
 unfold iq;exact H (A9 λi aF=>show kl z S i=kl z dc i by unfold kl;rw [(h.1 i (f aF)).1,(h.1 i (f aF)).2] ..) (H (A9 λi aF=>show kj z S i=kj z dc i by unfold kj;rw [(h.2 i (f aF)).1,(h.2 i (f aF)).2] ..) rfl)
theorem D0 {bj i aH ar au:y}{aP aO:ai}{Z:y->ai}{aE:y->y}{aa:y->B (y×y)}{K:y->y}{code:cn}{ap:aK ag}{dc:(y->y)->cU}{bH:B (aM×ao)}{jR:(y->y)->B ao}{bB:(y->y)->cD}{bV:(y->y)->B (aM×ao)}{cond:(y->y)->Prop}(aF:i<12)
  (h:b0 w bj code ap (bH++bX w.params z ⟨.ref aH,aP,ar,aO,au,cF Z i (-2),cF aE i 381,aa,K⟩) bB (λx=>jR x++(bX w.params z (dc x)).map (·.2)) bV cond)(al:∀ x,(jR x).length=bH.length) :
  ec w none bj code ap (bH++(yl w.params z ⟨.ref aH,aP,ar,aO,au,Z,aE,aa,K⟩++[(z.bn i,fP (ay i) (z.cb i) (-2) 381 (z.er i) (z.bl i)),(z.bl i,ip (aa i) (K i))])) [iq z ⟨.ref aH,aP,ar,aO,au,Z,aE,aa,K⟩ [i] [i]] bB (λx=>jR x++(dZ w.params z (dc x) [i] [i]).map (·.2)) bV (λx=>[iq z (dc x) [i] [i]]) cond:=by
 have g3:dZ w.params z ⟨.ref aH,aP,ar,aO,au,cF Z i (-2),cF aE i 381,aa,K⟩ [i] [i]=yl w.params z ⟨.ref aH,aP,ar,aO,au,Z,aE,aa,K⟩++[(z.bn i,fP (ay i) (z.cb i) (-2) 381 (z.er i) (z.bl i)),(z.bl i,ip (aa i) (K i))]:=mw (S:=⟨.ref aH,aP,ar,aO,au,cF Z i (-2),cF aE i 381,aa,K⟩) (gV (pJ (gB ..) (gB ..)) rfl) rfl;have ke:=acY (z:=z) (S:=⟨.ref aH,aP,ar,aO,au,Z,aE,aa,K⟩) (dc:=⟨.ref aH,aP,ar,aO,au,cF Z i (-2),cF aE i 381,aa,K⟩) (A:=[i]) (af:=[i]) ⟨λm h=>ss _ _ _ _ _ m h,λ_ _=>⟨rfl,rfl⟩⟩;rw [ke,<- g3];have a5:∀ {A af ei lx:B y} {op:cU} x,((bH++dZ w.params z op ei lx).map (·.1)).zip (jR x++(dZ w.params z (dc x) ei lx).map (·.2))=(bH.map (·.1)).zip (jR x)++dZ w.params z (dc x) ei lx:=by intro A af ei lx op x;exact H (c0 ..) (H (Bh (by rw [de,al]) ..) (H (EO (S:=op) (dc:=dc x) ..) (H (Gr ..) rfl)))
 have iG:∀ {X:B (aM×ao)} {op:cU},(X++bX w.params z op).Perm (X++dZ w.params z op [i] [i]++iq z op [i] [i]):=λ{X op}=>by refine H (f9 ..) ?_;exact (uU gW gW (ic aF) (ic aF) ⟨λ_ _=>⟨rfl,rfl⟩,λ_ _=>⟨rfl,rfl⟩⟩).append_left _
 refine h.s7 iG (λx=>?_) λx=>?_
 ·refine H (ea ..) (H (ea ..) (H (al ..) ?_))
  rfl
 ·refine H (a5 (A:=[]) (af:=[]) ..) (H (a5 (A:=[]) (af:=[]) ..) ?_)
  exact iG
end
noncomputable def Rk (w:aG)(z:cs)(G J av M ab ae ak aD a0 b7 eV dj bn ci i aH ar au:y)(aq:a6)(d6 aP aO:ai)(aa:y->B (y×y))(K:y->y)(Z:y->ai)(aE:y->y)(Q:B (y×y))(e:y)(q:y×y)(aF:i<12)(L:∀ p∈aa i,p.1<12)(al:Q.length+(aa i).length<1000) :hy w:=
 ⟨_,_,_,_,_,_,_,_,_,_,_,D0 (w:=w) (z:=z) (jR:=λx=>[hG w.params z.s av z.aw M ab ae ak aD a0 b7 eV aq dj bn d6 ci (ay (gm q (aa i)).1) (gm q (aa i)).2 (z.bn (gm q (aa i)).1),ee "list_iterator" (aa i).length,I ((fg (aa i) (cF Z i (-2)) Q).2.map ad) (x 2)]) (dc:=λx=>⟨.ref aH,aP,ar,aO,au,(fg (aa i) (cF Z i (-2)) Q).1,λk=>x (k+10),aa,K⟩) aF (vN (w:=w) (z:=z) (G:=G) (J:=J) (av:=av) (M:=M) (ab:=ab) (ae:=ae) (ak:=ak) (aD:=aD) (a0:=a0) (b7:=b7) (eV:=eV) (dj:=dj) (bn:=bn) (ci:=ci) (aH:=aH) (ar:=ar) (au:=au) (aq:=aq) (d6:=d6) (aP:=aP) (aO:=aO) (aa:=aa) (K:=K) aF (aa i) 0 (cF Z i (-2)) (cF aE i 381) Q e q rfl (jd _) L al) λ_=>rfl⟩
noncomputable def HQ (w:aG)(z:cs)(G J av M ab ae ak aD a0 dj bn ci i aH ar au:y)(aq:a6)(d6 aP aO:ai)(aa:y->B (y×y))(K:y->y)(p:y×y)(aW:B (y×y))(Z:y->ai)(aE:y->y)(Q:B (y×y))(e:y)(aF:i<12)(hs:aa i=p::aW)(L:∀ q∈p::aW,q.1<12)(al:Q.length+(p::aW).length<1000) :hy w:=
 ⟨_,_,_,_,_,_,_,_,_,_,_,D0 (w:=w) (z:=z) (jR:=λx=>[hG w.params z.s av z.aw M ab ae ak aD a0 (x 3) (x 4) aq dj bn d6 ci (ay (gm p aW).1) (gm p aW).2 (z.bn (gm p aW).1),ee "list_iterator" (aa i).length,I ((fg (p::aW) (cF Z i (-2)) Q).2.map ad) (x 2)]) (dc:=λx=>⟨.ref aH,aP,ar,aO,au,(fg (p::aW) (cF Z i (-2)) Q).1,λk=>x (k+10),aa,K⟩) aF (TI (w:=w) (z:=z) (G:=G) (J:=J) (av:=av) (M:=M) (ab:=ab) (ae:=ae) (ak:=ak) (aD:=aD) (a0:=a0) (dj:=dj) (bn:=bn) (ci:=ci) (aH:=aH) (ar:=ar) (au:=au) (aq:=aq) (d6:=d6) (aP:=aP) (aO:=aO) (aa:=aa) (K:=K) aF p aW (cF Z i (-2)) (cF aE i 381) Q e hs L al) λ_=>rfl⟩
noncomputable def HR (w:aG)(z:cs)(G J av M ab ae ak aD a0 dj bn ci i aH ar au:y)(aq:a6)(d6 aP aO:ai)(aa:y->B (y×y))(K:y->y)(Z:y->ai)(aE:y->y)(Q:B (y×y))(e:y)(aF:i<12)(hs:aa i=[]) :hy w:=
 ⟨_,_,_,_,_,_,_,_,_,_,_,D0 (w:=w) (z:=z) (jR:=λ_=>[i4 w.params z.s av z.aw M ab ae ak aD a0 aq dj bn d6 ci,ee "list_iterator" 0,I (Q.map ad) e]) (dc:=λ_=>⟨.ref aH,aP,ar,aO,au,cF Z i (-2),cF aE i 381,aa,K⟩) aF (TJ (w:=w) (z:=z) (G:=G) (J:=J) (av:=av) (M:=M) (ab:=ab) (ae:=ae) (ak:=ak) (aD:=aD) (a0:=a0) (dj:=dj) (bn:=bn) (ci:=ci) (aH:=aH) (ar:=ar) (au:=au) (aq:=aq) (d6:=d6) (aP:=aP) (aO:=aO) (aa:=aa) (K:=K) aF (cF Z i (-2)) (cF aE i 381) Q e hs) λ_=>rfl⟩
theorem tY {i:y}(h:i<12) :i=0∨i=1∨i=2∨i=3∨i=4∨i=5∨i=6∨i=7∨i=8∨i=9∨i=10∨i=11:=
 HB (p:=λi=>i=0∨i=1∨i=2∨i=3∨i=4∨i=5∨i=6∨i=7∨i=8∨i=9∨i=10∨i=11) ⟨.inl rfl,.inr (.inl rfl),.inr (.inr (.inl rfl)),.inr (.inr (.inr (.inl rfl))),.inr (.inr (.inr (.inr (.inl rfl)))),.inr (.inr (.inr (.inr (.inr (.inl rfl))))),.inr (.inr (.inr (.inr (.inr (.inr (.inl rfl)))))),.inr (.inr (.inr (.inr (.inr (.inr (.inr (.inl rfl))))))),.inr (.inr (.inr (.inr (.inr (.inr (.inr (.inr (.inl rfl)))))))),.inr (.inr (.inr (.inr (.inr (.inr (.inr (.inr (.inr (.inl rfl))))))))),.inr (.inr (.inr (.inr (.inr (.inr (.inr (.inr (.inr (.inr (.inl rfl)))))))))),.inr (.inr (.inr (.inr (.inr (.inr (.inr (.inr (.inr (.inr (.inr rfl))))))))))⟩ h
section
variable (w:aG)(z:cs)(i:y)(aF:i<12)(aH ar au:y)(aP aO:ai)(Z:y->ai)(aE:y->y)(aa:y->B (y×y))(K:y->y)(G J av M ab ae ak aD a0 b7 eV dj bn ci:y)(aq:a6)(d6:ai)(q:y×y)(k am e:y)(l:B ag)(Q:B (y×y))(bc:l[k]? =some (ad (i,am)))(eU:(Z i != -1)=false)(bu:(ef (cQ z) (ay i)).getD .none= .ref (z.bn i))(L:∀ q∈aa i,q.1<12)(al:Q.length+(aa i).length<1000)(p:y×y)(aW:B (y×y))(hs:aa i=[])
noncomputable def TK (n t:y) :bb w:=
  .ax [2,2] [0,0,2] 0 (pl w J av 0 k l (.str (ay i) am) none bc) [1,2] λah=>.ax xa [0,2] 0 (jf w z.aw 12 am (cQ z) (ay i) (.ref (z.bn i)) none bu) [6] λaN=>.ax xh f1 0 (vE w (Z i) (-1) (aE i) 378 false none eU) [] λbx=>.fF w9 w4 1 (HR w z G (bx 0) av M ab ae (ah 1) (aN 1) (aN 1+2) am (z.bn i) (aE i) i aH ar au (ay i) (Z i) aP aO aa K Z aE Q e aF hs) xb [true] λcj=>.ax w2 [0,0,2] 0 (jN w aO 1 (aO+1) au (cj 1+1) none rfl) [] λcg=>.bd wU [0,0,3] 0 (.dr (i5 G J)) (d4 (dW 0 9) ([i4 w.params z.s av z.aw M ab ae (ah 1) (aN 1) (aN 1+2) (ay i) am (z.bn i) (Z i) (aE i),b4 "tuple_iterator" av (k+1),di l,I (Q.map ad) e]++(dZ w.params z ⟨.ref aH,aP,ar,aO+1,cg 2,cF Z i (-2),cF aE i 381,aa,K⟩ [i] [i]).map (·.2)))
theorem TL:j8 w none 5 none ([(G,vM w.params z.s av z.aw M ab ae),(J,b4 "tuple_iterator" av k),(av,di l),(aH,I (Q.map ad) e)]++dZ w.params z ⟨.ref aH,aP,ar,aO,au,Z,aE,aa,K⟩ [i] [i]) [iq z ⟨.ref aH,aP,ar,aO,au,Z,aE,aa,K⟩ [i] [i]] (i5 G J) (TK w z i aF aH ar au aP aO Z aE aa K G J av M ab ae k am e l Q bc eU bu hs):=by revert w;exact cX
section
variable (hs:aa i=p::aW)(L:∀ q∈p::aW,q.1<12)(al:Q.length+(p::aW).length<1000)
noncomputable def TM (n t:y) :bb w:=
  .ax [2,2] [0,0,2] 0 (pl w J av 0 k l (.str (ay i) am) none bc) [1,2] λah=>.ax xa [0,2] 0 (jf w z.aw 12 am (cQ z) (ay i) (.ref (z.bn i)) none bu) [6] λaN=>.ax xh f1 0 (vE w (Z i) (-1) (aE i) 378 false none eU) [] λbx=>.fF w9 w4 1 (HQ w z G (bx 0) av M ab ae (ah 1) (aN 1) (aN 1+2) am (z.bn i) (aE i) i aH ar au (ay i) (Z i) aP aO aa K p aW Z aE Q e aF hs L al) xb [true] λcj=>.ax w2 [0,0,2] 0 (jN w aO 1 (aO+1) au (cj 1+1) none rfl) [] λcg=>.bd wU [0,0,3] 0 (.dr (i5 G J)) (d4 (dW 0 9) ([hG w.params z.s av z.aw M ab ae (ah 1) (aN 1) (aN 1+2) (cj 3) (cj 4) (ay i) am (z.bn i) (Z i) (aE i) (ay (gm p aW).1) (gm p aW).2 (z.bn (gm p aW).1),b4 "tuple_iterator" av (k+1),di l,I ((fg (p::aW) (cF Z i (-2)) Q).2.map ad) (cj 2)]++(dZ w.params z ⟨.ref aH,aP,ar,aO+1,cg 2,(fg (p::aW) (cF Z i (-2)) Q).1,λk=>cj (k+10),aa,K⟩ [i] [i]).map (·.2)))
theorem TN:j8 w none 5 none ([(G,vM w.params z.s av z.aw M ab ae),(J,b4 "tuple_iterator" av k),(av,di l),(aH,I (Q.map ad) e)]++dZ w.params z ⟨.ref aH,aP,ar,aO,au,Z,aE,aa,K⟩ [i] [i]) [iq z ⟨.ref aH,aP,ar,aO,au,Z,aE,aa,K⟩ [i] [i]] (i5 G J) (TM w z i aF aH ar au aP aO Z aE aa K G J av M ab ae k am e l Q bc eU bu p aW hs L al):=by revert w;exact cX
end
noncomputable def TQ (n t:y) :bb w:=
  .ax [2,2] [0,0,2] 0 (pl w J av 0 k l (.str (ay i) am) none bc) [1,2] λah=>.ax xa [0,2] 0 (jf w z.aw 12 am (cQ z) (ay i) (.ref (z.bn i)) none bu) [6] λaN=>.ax xh f1 0 (vE w (Z i) (-1) (aE i) 378 false none eU) [] λbx=>.fF w9 w4 1 (HR w z G (bx 0) av M ab ae ak aD a0 am (z.bn i) (aE i) i aH ar au (ay i) (Z i) aP aO aa K Z aE Q e aF hs) xb [true] λcj=>.ax w2 [0,0,2] 0 (jN w aO 1 (aO+1) au (cj 1+1) none rfl) [] λcg=>.bd wU [0,0,3] 0 (.dr (i5 G J)) (d4 (dW 0 9) ([i4 w.params z.s av z.aw M ab ae ak aD a0 (ay i) am (z.bn i) (Z i) (aE i),b4 "tuple_iterator" av (k+1),di l,I (Q.map ad) e]++(dZ w.params z ⟨.ref aH,aP,ar,aO+1,cg 2,cF Z i (-2),cF aE i 381,aa,K⟩ [i] [i]).map (·.2)))
theorem TR:j8 w none 5 none ([(G,i4 w.params z.s av z.aw M ab ae ak aD a0 aq dj bn d6 ci),(J,b4 "tuple_iterator" av k),(av,di l),(aH,I (Q.map ad) e)]++dZ w.params z ⟨.ref aH,aP,ar,aO,au,Z,aE,aa,K⟩ [i] [i]) [iq z ⟨.ref aH,aP,ar,aO,au,Z,aE,aa,K⟩ [i] [i]] (i5 G J) (TQ w z i aF aH ar au aP aO Z aE aa K G J av M ab ae ak aD a0 k am e l Q bc eU bu hs):=by revert w;exact cX
section
variable (hs:aa i=p::aW)(L:∀ q∈p::aW,q.1<12)(al:Q.length+(p::aW).length<1000)
noncomputable def TS (n t:y) :bb w:=
  .ax [2,2] [0,0,2] 0 (pl w J av 0 k l (.str (ay i) am) none bc) [1,2] λah=>.ax xa [0,2] 0 (jf w z.aw 12 am (cQ z) (ay i) (.ref (z.bn i)) none bu) [6] λaN=>.ax xh f1 0 (vE w (Z i) (-1) (aE i) 378 false none eU) [] λbx=>.fF w9 w4 1 (HQ w z G (bx 0) av M ab ae ak aD a0 am (z.bn i) (aE i) i aH ar au (ay i) (Z i) aP aO aa K p aW Z aE Q e aF hs L al) xb [true] λcj=>.ax w2 [0,0,2] 0 (jN w aO 1 (aO+1) au (cj 1+1) none rfl) [] λcg=>.bd wU [0,0,3] 0 (.dr (i5 G J)) (d4 (dW 0 9) ([hG w.params z.s av z.aw M ab ae ak aD a0 (cj 3) (cj 4) (ay i) am (z.bn i) (Z i) (aE i) (ay (gm p aW).1) (gm p aW).2 (z.bn (gm p aW).1),b4 "tuple_iterator" av (k+1),di l,I ((fg (p::aW) (cF Z i (-2)) Q).2.map ad) (cj 2)]++(dZ w.params z ⟨.ref aH,aP,ar,aO+1,cg 2,(fg (p::aW) (cF Z i (-2)) Q).1,λk=>cj (k+10),aa,K⟩ [i] [i]).map (·.2)))
theorem TT:j8 w none 5 none ([(G,i4 w.params z.s av z.aw M ab ae ak aD a0 aq dj bn d6 ci),(J,b4 "tuple_iterator" av k),(av,di l),(aH,I (Q.map ad) e)]++dZ w.params z ⟨.ref aH,aP,ar,aO,au,Z,aE,aa,K⟩ [i] [i]) [iq z ⟨.ref aH,aP,ar,aO,au,Z,aE,aa,K⟩ [i] [i]] (i5 G J) (TS w z i aF aH ar au aP aO Z aE aa K G J av M ab ae ak aD a0 k am e l Q bc eU bu p aW hs L al):=by revert w;exact cX
end
noncomputable def TW (n t:y) :bb w:=
  .ax [2,2] [0,0,2] 0 (pl w J av 0 k l (.str (ay i) am) none bc) [1,2] λah=>.ax xa [0,2] 0 (jf w z.aw 12 am (cQ z) (ay i) (.ref (z.bn i)) none bu) [6] λaN=>.ax xh f1 0 (vE w (Z i) (-1) (aE i) 378 false none eU) [] λbx=>.fF w9 w4 1 (Rk w z G (bx 0) av M ab ae ak aD a0 b7 eV am (z.bn i) (aE i) i aH ar au (ay i) (Z i) aP aO aa K Z aE Q e q aF L al) xb [true] λcj=>.ax w2 [0,0,2] 0 (jN w aO 1 (aO+1) au (cj 1+1) none rfl) [] λcg=>.bd wU [0,0,3] 0 (.dr (i5 G J)) (d4 (dW 0 9) ([hG w.params z.s av z.aw M ab ae ak aD a0 b7 eV (ay i) am (z.bn i) (Z i) (aE i) (ay (gm q (aa i)).1) (gm q (aa i)).2 (z.bn (gm q (aa i)).1),b4 "tuple_iterator" av (k+1),di l,I ((fg (aa i) (cF Z i (-2)) Q).2.map ad) (cj 2)]++(dZ w.params z ⟨.ref aH,aP,ar,aO+1,cg 2,(fg (aa i) (cF Z i (-2)) Q).1,λk=>cj (k+10),aa,K⟩ [i] [i]).map (·.2)))
theorem TX:j8 w none 5 none ([(G,hG w.params z.s av z.aw M ab ae ak aD a0 b7 eV aq dj bn d6 ci (ay q.1) q.2 (z.bn q.1)),(J,b4 "tuple_iterator" av k),(av,di l),(aH,I (Q.map ad) e)]++dZ w.params z ⟨.ref aH,aP,ar,aO,au,Z,aE,aa,K⟩ [i] [i]) [iq z ⟨.ref aH,aP,ar,aO,au,Z,aE,aa,K⟩ [i] [i]] (i5 G J) (TW w z i aF aH ar au aP aO Z aE aa K G J av M ab ae ak aD a0 b7 eV q k am e l Q bc eU bu L al):=by revert w;exact cX
section
variable (bc:l.length=k)
noncomputable def TO (n t:y) :bb w:=
  .ax [2,2] [0,0,2] 0 (vG w J av 0 k l bc) [1,2] λah=>.bd [32] [0] 0 (.ret (.ok .next)) (d4 (dW 0 31) ([i4 w.params z.s av z.aw M ab ae ak aD a0 aq dj bn d6 ci,ee "tuple_iterator" k,di l,I (Q.map ad) e]++(bX w.params z ⟨.ref aH,aP,ar,aO,au,Z,aE,aa,K⟩).map (·.2)))
theorem TP:b2 w 5 none ([(G,i4 w.params z.s av z.aw M ab ae ak aD a0 aq dj bn d6 ci),(J,b4 "tuple_iterator" av k),(av,di l),(aH,I (Q.map ad) e)]++bX w.params z ⟨.ref aH,aP,ar,aO,au,Z,aE,aa,K⟩) (i5 G J) (TO w z aH ar au aP aO Z aE aa K J av M ab ae ak aD a0 dj bn ci aq d6 k e l Q bc):=c6
end
section
variable (bc:l.length=k)
noncomputable def TU (n t:y) :bb w:=
  .ax [2,2] [0,0,2] 0 (vG w J av 0 k l bc) [1,2] λah=>.bd [32] [0] 0 (.ret (.ok .next)) (d4 (dW 0 31) ([hG w.params z.s av z.aw M ab ae ak aD a0 b7 eV aq dj bn d6 ci (ay q.1) q.2 (z.bn q.1),ee "tuple_iterator" k,di l,I (Q.map ad) e]++(bX w.params z ⟨.ref aH,aP,ar,aO,au,Z,aE,aa,K⟩).map (·.2)))
theorem TV:b2 w 5 none ([(G,hG w.params z.s av z.aw M ab ae ak aD a0 b7 eV aq dj bn d6 ci (ay q.1) q.2 (z.bn q.1)),(J,b4 "tuple_iterator" av k),(av,di l),(aH,I (Q.map ad) e)]++bX w.params z ⟨.ref aH,aP,ar,aO,au,Z,aE,aa,K⟩) (i5 G J) (TU w z aH ar au aP aO Z aE aa K J av M ab ae ak aD a0 b7 eV dj bn ci aq d6 q k e l Q bc):=c6
end
end
end
section
noncomputable def hP:B y->(y->y)->y->y
 | [],f,k=>f k
 | a::_,_,0=>a
 | _::l,f,k+1=>hP l f k
noncomputable def gF (aa:y->B (y×y)) :B (y×y)->(y->ai)->B (y×y)->(y->ai)×B (y×y)
 | [],Z,Q=>(Z,Q)
 | p::r,Z,Q=>gF aa r (fg (aa p.1) (cF Z p.1 (-2)) Q).1 (fg (aa p.1) (cF Z p.1 (-2)) Q).2
noncomputable def ju (aa:y->B (y×y)) :B (y×y)->(y->ai)->B (y×y)->Prop
 | [],_,_=>bZ
 | p::r,Z,Q=>p.1<12/\Z p.1=-1/\(∀ q∈aa p.1,q.1<12)/\Q.length+(aa p.1).length<1000/\ju aa r (fg (aa p.1) (cF Z p.1 (-2)) Q).1 (fg (aa p.1) (cF Z p.1 (-2)) Q).2
noncomputable def IC (P:bp)(z:cs)(av M ab ae:y)(x:y->y) :ao:=match x 4 with
 | 0=>i4 P z.s av z.aw M ab ae (x 5) (x 6) (x 7) (ay (x 9)) (x 8) (z.bn (x 9)) (-1) (x 10)
 | _=>hG P z.s av z.aw M ab ae (x 5) (x 6) (x 7) (x 11) (x 12) (ay (x 9)) (x 8) (z.bn (x 9)) (-1) (x 10) (ay (x 13)) (x 14) (z.bn (x 13))
structure sM where
 (aH ar G J av M ab ae:y)
 aP:ai
 aa:y->B (y×y)
 K:y->y
 l:B ag
structure sN where
 (F:ao)
 Z:y->ai
 aE:y->y
 Q:B (y×y)
 e:y
 aO:ai
 au:y
noncomputable abbrev sM.S (D:sM)(X:sN) :cU:=⟨.ref D.aH,D.aP,D.ar,X.aO,X.au,X.Z,X.aE,D.aa,D.K⟩
noncomputable def po (P:bp)(z:cs)(D:sM)(rZ:ao)(X:sN) :B bN:=[[(D.G,X.F)],[(D.J,rZ)],[(D.av,di D.l)],[(D.aH,I (X.Q.map ad) X.e)],bX P z (D.S X)]
noncomputable def TY (P:bp)(z:cs)(D:sM)(rZ:ao)(i:y)(X:sN) :B bN:=[[(D.G,X.F)],[(D.J,rZ)],[(D.av,di D.l)],[(D.aH,I (X.Q.map ad) X.e)],dZ P z (D.S X) [i] [i],iq z (D.S X) [i] [i]]
section
variable {w:aG}{z:cs}{D:sM}{b:aR}{aB:B aM}{A:c9}{R:cD->aR->Prop}
theorem vO {i k:y}{s:aR}{X:sN}{bI:y->y->bb w}(aF:i<12)(aS:eb w none 5 A none b)(o:bz b aB s (po w.params z D (b4 "tuple_iterator" D.av k) X))
  (E:j8 w none 5 none ([(D.G,X.F),(D.J,b4 "tuple_iterator" D.av k),(D.av,di D.l),(D.aH,I (X.Q.map ad) X.e)]++dZ w.params z (D.S X) [i] [i]) [iq z (D.S X) [i] [i]] (i5 D.G D.J) bI)(dS:y->y->hR->sN)
  (left:∀ n t Y,nW ([(D.G,X.F),(D.J,b4 "tuple_iterator" D.av k),(D.av,di D.l),(D.aH,I (X.Q.map ad) X.e)]++dZ w.params z (D.S X) [i] [i]) [iq z (D.S X) [i] [i]] bI n t Y=(.dr (i5 D.G D.J),(TY w.params z D (b4 "tuple_iterator" D.av (k+1)) i (dS n t Y)).flatten))
  (bO:∀ n t Y an,bz b aB an (po w.params z D (b4 "tuple_iterator" D.av (k+1)) (dS n t Y))->codeAny (model aL w) A (i5 D.G D.J) R an) :codeAny (model aL w) A (i5 D.G D.J) R s:=by
 have iG:∀ {dO:sN},([bX w.params z (D.S dO)] :B bN).flatten.Perm [dZ w.params z (D.S dO) [i] [i],iq z (D.S dO) [i] [i]].flatten:=λ{dO}=>by refine H (fz ..) (H (fz ..) (H (fz ..) (H (h2 ..) (H (d9 ..) (H (d9 ..) ?_)))));exact uU gW gW (ic aF) (ic aF) ⟨λ_ _=>⟨rfl,rfl⟩,λ_ _=>⟨rfl,rfl⟩⟩
 refine ((o.kn [4,0,1,2,3] rfl).uX (S:=[bX w.params z (D.S X)]) (Y:=[[(D.G,X.F)],[(D.J,b4 "tuple_iterator" D.av k)],[(D.av,di D.l)],[(D.aH,I (X.Q.map ad) X.e)]]) iG).code (aY 0x1105432) (af:=[iq z (D.S X) [i] [i]]) (R:=[]) ⟨rfl,by kernel_rfl,by kernel_rfl⟩ aS E (dw:=λ_ _ _=>.dr (i5 D.G D.J)) left λn t Y an cy=>bO n t Y an ?_;exact ((cy.kn (aY 0x1321054) rfl).uX (S:=[dZ w.params z (D.S (dS n t Y)) [i] [i],iq z (D.S (dS n t Y)) [i] [i]]) (Y:=[[(D.G,(dS n t Y).F)],[(D.J,b4 "tuple_iterator" D.av (k+1))],[(D.av,di D.l)],[(D.aH,I ((dS n t Y).Q.map ad) (dS n t Y).e)]]) iG.symm).eQ [1,2,3,4,0] rfl rfl
noncomputable def AS (w:aG)(z:cs)(D:sM)(b:aR)(aB:B aM)(R:cD->aR->Prop)(Z:y->ai)(Q:B (y×y))(aO:ai) :Prop:=
 ∀ an (x:y->y),bz b aB an (po w.params z D (ee "tuple_iterator" D.l.length) ⟨IC w.params z D.av D.M D.ab D.ae x,Z,λk=>x (k+15),Q,x 2,aO,x 3⟩)->R (.ok .next) an
theorem CM {aO:ai}{dd:Type}{p:dd}{r:B dd} :aO+1+(r.length:ai)=aO+((p::r).length:ai):=by refine H (ed ..) ?_;omega
theorem Cj (aS:eb w none 5 A none b) :∀ (aW:B (y×y)) (k ak aD a0 b7 eV m j4 ci:y) (q:y×y) (Z:y->ai) (aE:y->y) (Q:B (y×y)) (e:y) (aO:ai) (au:y) (s:aR),D.l.drop k=aW.map ad->k+aW.length=D.l.length->ju D.aa aW Z Q->
  bz b aB s (po w.params z D (b4 "tuple_iterator" D.av k) ⟨hG w.params z.s D.av z.aw D.M D.ab D.ae ak aD a0 b7 eV (ay m) j4 (z.bn m) (-1) ci (ay q.1) q.2 (z.bn q.1),Z,aE,Q,e,aO,au⟩)->
  AS w z D b aB R (gF D.aa aW Z Q).1 (gF D.aa aW Z Q).2 (aO+(aW.length:ai))->codeAny (model aL w) A (i5 D.G D.J) R s
 | [],k,ak,aD,a0,b7,eV,m,j4,ci,q,Z,aE,Q,e,aO,au,s,_,aV,_,o,bJ=>by
  obtain rfl:k=D.l.length:=aV;exact o.code [0,1,2,3,4] (l:=[(D.G,hG w.params z.s D.av z.aw D.M D.ab D.ae ak aD a0 b7 eV (ay m) j4 (z.bn m) (-1) ci (ay q.1) q.2 (z.bn q.1)),(D.J,b4 "tuple_iterator" D.av D.l.length),(D.av,di D.l),(D.aH,I (Q.map ad) e)]++bX w.params z ⟨.ref D.aH,D.aP,D.ar,aO,au,Z,aE,D.aa,D.K⟩) (af:=[]) (R:=[]) ⟨rfl,by kernel_rfl,by kernel_rfl⟩ aS (TV w z D.aH D.ar au D.aP aO Z aE D.aa D.K D.G D.J D.av D.M D.ab D.ae ak aD a0 b7 eV j4 (z.bn m) ci (ay m) (-1) q D.l.length e D.l Q rfl) (dw:=λ_ _ _=>.ret (.ok .next))
   (cv:=λ_ _ _=>po w.params z D (ee "tuple_iterator" D.l.length) ⟨hG w.params z.s D.av z.aw D.M D.ab D.ae ak aD a0 b7 eV (ay m) j4 (z.bn m) (-1) ci (ay q.1) q.2 (z.bn q.1),Z,aE,Q,e,aO,au⟩) (by intro n t X;kernel_rfl) λ_ _ _ an cy=>bJ an (hP [0,0,e,au,1,ak,aD,a0,j4,m,ci,b7,eV,q.1,q.2] aE) (cy.cast (by refine H (nt ..) (H (Int.natCast_zero ..) (H (vi ..) ?_));kernel_rfl))
 | p::aW,k,ak,aD,a0,b7,eV,m,j4,ci,q,Z,aE,Q,e,aO,au,s,ap,aV,h,o,bJ=>by obtain ⟨aF,eU,L,al,h⟩:=h;obtain ⟨i3,iP⟩:=tn ap;rw [<- CM] at bJ;refine vO aF aS o (TX w z p.1 aF D.aH D.ar au D.aP aO Z aE D.aa D.K D.G D.J D.av D.M D.ab D.ae ak aD a0 b7 eV j4 (z.bn m) ci (ay m) (-1) q k p.2 e D.l Q i3 (by refine H eU ?_;rfl) (jD z aF) L al) (λ_ _ Y=>⟨hG w.params z.s D.av z.aw D.M D.ab D.ae ak aD a0 b7 eV (ay p.1) p.2 (z.bn p.1) (Z p.1) (aE p.1) (ay (gm q (D.aa p.1)).1) (gm q (D.aa p.1)).2 (z.bn (gm q (D.aa p.1)).1),(fg (D.aa p.1) (cF Z p.1 (-2)) Q).1,λk=>Y 3 (k+10),(fg (D.aa p.1) (cF Z p.1 (-2)) Q).2,Y 3 2,aO+1,Y 4 2⟩) (by intro n t Y;kernel_rfl) λn t Y an cy=>?_;rw [eU] at cy;exact Cj aS aW (k+1) _ _ _ _ _ _ _ _ _ _ _ _ _ _ _ an iP ((sX ..).trans aV) h cy bJ
theorem IB (aS:eb w none 5 A none b) :∀ (aW:B (y×y)) (k ak aD a0 m j4 ci:y) (Z:y->ai) (aE:y->y) (Q:B (y×y)) (e:y) (aO:ai) (au:y) (s:aR),D.l.drop k=aW.map ad->k+aW.length=D.l.length->ju D.aa aW Z Q->
  bz b aB s (po w.params z D (b4 "tuple_iterator" D.av k) ⟨i4 w.params z.s D.av z.aw D.M D.ab D.ae ak aD a0 (ay m) j4 (z.bn m) (-1) ci,Z,aE,Q,e,aO,au⟩)->
  AS w z D b aB R (gF D.aa aW Z Q).1 (gF D.aa aW Z Q).2 (aO+(aW.length:ai))->codeAny (model aL w) A (i5 D.G D.J) R s
 | [],k,ak,aD,a0,m,j4,ci,Z,aE,Q,e,aO,au,s,_,aV,_,o,bJ=>by
  obtain rfl:k=D.l.length:=aV;exact o.code [0,1,2,3,4] (l:=[(D.G,i4 w.params z.s D.av z.aw D.M D.ab D.ae ak aD a0 (ay m) j4 (z.bn m) (-1) ci),(D.J,b4 "tuple_iterator" D.av D.l.length),(D.av,di D.l),(D.aH,I (Q.map ad) e)]++bX w.params z ⟨.ref D.aH,D.aP,D.ar,aO,au,Z,aE,D.aa,D.K⟩) (af:=[]) (R:=[]) ⟨rfl,by kernel_rfl,by kernel_rfl⟩ aS (TP w z D.aH D.ar au D.aP aO Z aE D.aa D.K D.G D.J D.av D.M D.ab D.ae ak aD a0 j4 (z.bn m) ci (ay m) (-1) D.l.length e D.l Q rfl) (dw:=λ_ _ _=>.ret (.ok .next))
   (cv:=λ_ _ _=>po w.params z D (ee "tuple_iterator" D.l.length) ⟨i4 w.params z.s D.av z.aw D.M D.ab D.ae ak aD a0 (ay m) j4 (z.bn m) (-1) ci,Z,aE,Q,e,aO,au⟩) (by intro n t X;kernel_rfl) λ_ _ _ an cy=>bJ an (hP [0,0,e,au,0,ak,aD,a0,j4,m,ci,0,0,0,0] aE) (cy.cast (by refine H (nt ..) (H (Int.natCast_zero ..) (H (vi ..) ?_));kernel_rfl))
 | p::aW,k,ak,aD,a0,m,j4,ci,Z,aE,Q,e,aO,au,s,ap,aV,h,o,bJ=>by
  obtain ⟨aF,eU,L,al,h⟩:=h;obtain ⟨i3,iP⟩:=tn ap;rw [<- CM] at bJ;have i8:=(sX k aW.length).trans aV;have bu:gF D.aa (p::aW) Z Q=gF D.aa aW (fg (D.aa p.1) (cF Z p.1 (-2)) Q).1 (fg (D.aa p.1) (cF Z p.1 (-2)) Q).2:=rfl;rw [bu] at bJ
  induction hs:D.aa p.1 with
  | nil=>rw [hs] at h bJ;refine vO aF aS o (TR w z p.1 aF D.aH D.ar au D.aP aO Z aE D.aa D.K D.G D.J D.av D.M D.ab D.ae ak aD a0 j4 (z.bn m) ci (ay m) (-1) k p.2 e D.l Q i3 (by refine H eU ?_;rfl) (jD z aF) hs) (λ_ _ Y=>⟨i4 w.params z.s D.av z.aw D.M D.ab D.ae ak aD a0 (ay p.1) p.2 (z.bn p.1) (Z p.1) (aE p.1),cF Z p.1 (-2),cF aE p.1 381,Q,e,aO+1,Y 4 2⟩) (by intro n t Y;kernel_rfl) λn t Y an cy=>?_;rw [eU] at cy;exact IB aS aW (k+1) _ _ _ _ _ _ _ _ _ _ _ _ an iP i8 h cy bJ
  | cons r ls=>rw [hs] at L al h bJ;refine vO aF aS o (TT w z p.1 aF D.aH D.ar au D.aP aO Z aE D.aa D.K D.G D.J D.av D.M D.ab D.ae ak aD a0 j4 (z.bn m) ci (ay m) (-1) k p.2 e D.l Q i3 (by refine H eU ?_;rfl) (jD z aF) r ls hs L al) (λ_ _ Y=>⟨hG w.params z.s D.av z.aw D.M D.ab D.ae ak aD a0 (Y 3 3) (Y 3 4) (ay p.1) p.2 (z.bn p.1) (Z p.1) (aE p.1) (ay (gm r ls).1) (gm r ls).2 (z.bn (gm r ls).1),(fg (r::ls) (cF Z p.1 (-2)) Q).1,λk=>Y 3 (k+10),(fg (r::ls) (cF Z p.1 (-2)) Q).2,Y 3 2,aO+1,Y 4 2⟩) (by intro n t Y;kernel_rfl) λn t Y an cy=>?_;rw [eU] at cy;exact Cj aS aW (k+1) _ _ _ _ _ _ _ _ _ _ _ _ _ _ _ an iP i8 h cy bJ
theorem Tv (aS:eb w none 5 A none b)(p:y×y)(aW:B (y×y)){Z:y->ai}{aE:y->y}{Q:B (y×y)}{e:y}{aO:ai}{au:y}{s:aR}(ap:D.l=(p::aW).map ad)(h:ju D.aa (p::aW) Z Q)
  (o:bz b aB s (po w.params z D (b4 "tuple_iterator" D.av 0) ⟨vM w.params z.s D.av z.aw D.M D.ab D.ae,Z,aE,Q,e,aO,au⟩))
  (bJ:AS w z D b aB R (gF D.aa (p::aW) Z Q).1 (gF D.aa (p::aW) Z Q).2 (aO+((p::aW).length:ai))) :codeAny (model aL w) A (i5 D.G D.J) R s:=by
 obtain ⟨aF,eU,L,al,h⟩:=h;obtain ⟨i3,iP⟩:=tn (k:=0) ap;rw [<- CM] at bJ;have i8:1+aW.length=D.l.length:=by refine H ap (H (de ..) (H (lB ..) ?_));rfl
 have bu:gF D.aa (p::aW) Z Q=gF D.aa aW (fg (D.aa p.1) (cF Z p.1 (-2)) Q).1 (fg (D.aa p.1) (cF Z p.1 (-2)) Q).2:=rfl;rw [bu] at bJ
 induction hs:D.aa p.1 with
 | nil=>rw [hs] at h bJ;refine vO aF aS o (TL w z p.1 aF D.aH D.ar au D.aP aO Z aE D.aa D.K D.G D.J D.av D.M D.ab D.ae 0 p.2 e D.l Q i3 (by refine H eU ?_;rfl) (jD z aF) hs) (λ_ _ Y=>⟨i4 w.params z.s D.av z.aw D.M D.ab D.ae (Y 0 1) (Y 1 1) (Y 1 1+2) (ay p.1) p.2 (z.bn p.1) (Z p.1) (aE p.1),cF Z p.1 (-2),cF aE p.1 381,Q,e,aO+1,Y 4 2⟩) (by intro n t Y;kernel_rfl) λn t Y an cy=>?_;rw [eU] at cy;exact IB aS aW 1 _ _ _ _ _ _ _ _ _ _ _ _ an iP i8 h cy bJ
 | cons r ls=>rw [hs] at L al h bJ;refine vO aF aS o (TN w z p.1 aF D.aH D.ar au D.aP aO Z aE D.aa D.K D.G D.J D.av D.M D.ab D.ae 0 p.2 e D.l Q i3 (by refine H eU ?_;rfl) (jD z aF) r ls hs L al) (λ_ _ Y=>⟨hG w.params z.s D.av z.aw D.M D.ab D.ae (Y 0 1) (Y 1 1) (Y 1 1+2) (Y 3 3) (Y 3 4) (ay p.1) p.2 (z.bn p.1) (Z p.1) (aE p.1) (ay (gm r ls).1) (gm r ls).2 (z.bn (gm r ls).1),(fg (r::ls) (cF Z p.1 (-2)) Q).1,λk=>Y 3 (k+10),(fg (r::ls) (cF Z p.1 (-2)) Q).2,Y 3 2,aO+1,Y 4 2⟩) (by intro n t Y;kernel_rfl) λn t Y an cy=>?_;rw [eU] at cy;exact Cj aS aW 1 _ _ _ _ _ _ _ _ _ _ _ _ _ _ _ an iP i8 h cy bJ
end
theorem Tu {w:aG}{z:cs}{aH ar G J av M ab ae:y}{aP:ai}{aa:y->B (y×y)}{K:y->y}(p:y×y)(aW:B (y×y))(Z:y->ai)(aE:y->y)(Q:B (y×y))(e:y)(aO:ai)(au:y)(h:ju aa (p::aW) Z Q) :
  b0 w 5 (i5 G J) none ([(G,vM w.params z.s av z.aw M ab ae),(J,b4 "tuple_iterator" av 0),(av,di ((p::aW).map ad)),(aH,I (Q.map ad) e)]++bX w.params z ⟨.ref aH,aP,ar,aO,au,Z,aE,aa,K⟩) (λ_=>.ok .next)
   (λx=>[IC w.params z av M ab ae x,ee "tuple_iterator" ((p::aW).map ad).length,di ((p::aW).map ad),I ((gF aa (p::aW) Z Q).2.map ad) (x 2)]++(bX w.params z ⟨.ref aH,aP,ar,aO+((p::aW).length:ai),x 3,(gF aa (p::aW) Z Q).1,λk=>x (k+15),aa,K⟩).map (·.2)) (λ_=>[]) (λ_=>bZ):=λA s aS has bU=>
 Tv (D:=⟨aH,ar,G,J,av,M,ab,ae,aP,aa,K,(p::aW).map ad⟩) aS p aW rfl h (bz.Q8 (S:=po w.params z ⟨aH,ar,G,J,av,M,ab,ae,aP,aa,K,(p::aW).map ad⟩ (b4 "tuple_iterator" av 0) ⟨vM w.params z.s av z.aw M ab ae,Z,aE,Q,e,aO,au⟩) (by kernel_rfl) has bU) λan x o=>⟨hP [an.heap.objs.size,an.toks] λk=>x (k+2),rfl,trivial,rfl,rfl,bz.yk o (by kernel_rfl) (by kernel_rfl)⟩
noncomputable def BX (w:aG)(z:cs)(aH ar G J av M ab ae:y)(aP:ai)(aa:y->B (y×y))(K:y->y)(p:y×y)(aW:B (y×y))(Z:y->ai)(aE:y->y)(Q:B (y×y))(e:y)(aO:ai)(au:y)(h:ju aa (p::aW) Z Q) :cV w:=
 ⟨5,_,none,_,_,_,_,_,Tu (w:=w) (z:=z) (aH:=aH) (ar:=ar) (G:=G) (J:=J) (av:=av) (M:=M) (ab:=ab) (ae:=ae) (aP:=aP) (aa:=aa) (K:=K) p aW Z aE Q e aO au h⟩
end
section
section
variable (w:aG)(z:cs)(aH e ar au:y)(aP aO:ai)(Z:y->ai)(aE:y->y)(aa:y->B (y×y))(K:y->y)(dV fj hN:y×y)(Q:B (y×y))(h:ju aa [dV] Z Q)
noncomputable def T0 (n t:y) :bb w:=
  .ax Fc sk 3 (BX w z aH ar (n+1) (n+2) n t (t+1) (t+4) aP aa K dV ([]) Z aE Q e aO au h) Fd λah=>.bd [] [] 0 (.ret (.ok (.ret .none))) (d4 (dW 0 28) ([I ((gF aa [dV] Z Q).2.map ad) (ah 2)]++(bX w.params z ⟨.ref aH,aP,ar,aO+1,ah 3,(gF aa [dV] Z Q).1,λk=>ah (k+15),aa,K⟩).map (·.2)))
theorem T1:b2 w 6 none ([(aH,I (Q.map ad) e)]++bX w.params z ⟨.ref aH,aP,ar,aO,au,Z,aE,aa,K⟩) (.call (.ref 171) ⟨[.ref z.s,ad dV],[]⟩) (T0 w z aH e ar au aP aO Z aE aa K dV Q h):=by revert w;exact cX
section
variable (h:ju aa [dV,fj] Z Q)
noncomputable def T2 (n t:y) :bb w:=
  .ax Fc sk 3 (BX w z aH ar (n+1) (n+2) n t (t+1) (t+4) aP aa K dV ([fj]) Z aE Q e aO au h) Fd λah=>.bd [] [] 0 (.ret (.ok (.ret .none))) (d4 (dW 0 28) ([I ((gF aa [dV,fj] Z Q).2.map ad) (ah 2)]++(bX w.params z ⟨.ref aH,aP,ar,aO+2,ah 3,(gF aa [dV,fj] Z Q).1,λk=>ah (k+15),aa,K⟩).map (·.2)))
theorem T3:b2 w 6 none ([(aH,I (Q.map ad) e)]++bX w.params z ⟨.ref aH,aP,ar,aO,au,Z,aE,aa,K⟩) (.call (.ref 171) ⟨[.ref z.s,ad dV,ad fj],[]⟩) (T2 w z aH e ar au aP aO Z aE aa K dV fj Q h):=by revert w;exact cX
end
section
variable (h:ju aa [dV,fj,hN] Z Q)
noncomputable def T4 (n t:y) :bb w:=
  .ax Fc sk 3 (BX w z aH ar (n+1) (n+2) n t (t+1) (t+4) aP aa K dV ([fj,hN]) Z aE Q e aO au h) Fd λah=>.bd [] [] 0 (.ret (.ok (.ret .none))) (d4 (dW 0 28) ([I ((gF aa [dV,fj,hN] Z Q).2.map ad) (ah 2)]++(bX w.params z ⟨.ref aH,aP,ar,aO+3,ah 3,(gF aa [dV,fj,hN] Z Q).1,λk=>ah (k+15),aa,K⟩).map (·.2)))
theorem T5:b2 w 6 none ([(aH,I (Q.map ad) e)]++bX w.params z ⟨.ref aH,aP,ar,aO,au,Z,aE,aa,K⟩) (.call (.ref 171) ⟨[.ref z.s,ad dV,ad fj,ad hN],[]⟩) (T4 w z aH e ar au aP aO Z aE aa K dV fj hN Q h):=by revert w;exact cX
end
end
noncomputable def rG (S:cU)(R Q:B (y×y))(au:y)(aE:y->y) :cU:={S with aO:=S.aO+(R.length:ai),au:=au,Z:=(gF S.aa R S.Z Q).1,aE:=aE}
theorem T6 {w:aG}{z:cs}{S:cU}{aH e:y}{R Q:B (y×y)}(dT:S.dD= .ref aH)(bJ:R.length=1∨R.length=2∨R.length=3)(h:ju S.aa R S.Z Q) :
  b0 w 6 (.call (.ref 171) ⟨.ref z.s::R.map ad,[]⟩) none ([(aH,I (Q.map ad) e)]++bX w.params z S) (λ_=>.ok (.ret .none)) (λx=>[I ((gF S.aa R S.Z Q).2.map ad) (x 2)]++(bX w.params z (rG S R Q (x 3) (λk=>x (k+4)))).map (·.2)) (λ_=>[]) (λ_=>bZ):=by
 obtain ⟨dD,aP,ar,aO,au,Z,aE,aa,K⟩:=S;subst dT;rcases bJ with bJ | bJ | bJ
 ·obtain ⟨dV,rfl⟩:=zy bJ
  exact dy (T1 w z aH e ar au aP aO Z aE aa K dV Q h) (λn t X c d=>hP [c,d,X 0 2,X 0 3] λk=>X 0 (k+15)) λn t X c d=>⟨by kernel_rfl,rfl,trivial⟩
 ·obtain ⟨dV,fj,rfl⟩:=wA bJ
  exact dy (T3 w z aH e ar au aP aO Z aE aa K dV fj Q h) (λn t X c d=>hP [c,d,X 0 2,X 0 3] λk=>X 0 (k+15)) λn t X c d=>⟨by kernel_rfl,rfl,trivial⟩
 ·obtain ⟨dV,fj,hN,rfl⟩:=wB bJ
  exact dy (T5 w z aH e ar au aP aO Z aE aa K dV fj hN Q h) (λn t X c d=>hP [c,d,X 0 2,X 0 3] λk=>X 0 (k+15)) λn t X c d=>⟨by kernel_rfl,rfl,trivial⟩
noncomputable def s9 (w:aG)(z:cs)(S:cU)(aH e:y)(R Q:B (y×y))(dT:S.dD= .ref aH)(bJ:R.length=1∨R.length=2∨R.length=3)(h:ju S.aa R S.Z Q) :cV w:=⟨6,_,none,_,_,_,_,_,T6 (w:=w) (z:=z) (S:=S) (aH:=aH) (e:=e) dT bJ h⟩
end
section
variable {w:aG}
structure i1 where
 aC:B (ai×ag)
 K:y
 t:vx
noncomputable abbrev eY (aq:i1) :ao:={cls:=.type "set",data:=.set ⟨aq.aC⟩ aq.K aq.t}
structure jy (w:aG)(aq:i1)(V:B a6) :Prop where
 yI:ElemsOf (h4 aL w) aq.aC
 mem:∀ k,k∈V↔∃ e∈aq.aC,(h4 aL w).is k e.2=true
 len:aq.aC.length=V.length
 fits:aq.t.fits aq.aC.length=true
noncomputable def sK (t:vx) :vx:=if t.plain=true then {t with plain:=false} else t
noncomputable def vc (aq:i1)(aC:cp (ai×ag))(t:vx)(p2:bW) :i1:=
 if (!p2&&t.tooFull)=true then ⟨(xB t aC (qh aC.size)).1.toList,aq.K+1+1,(xB t aC (qh aC.size)).2.1⟩ else ⟨aC.toList,aq.K+1,t⟩
noncomputable def p6 (P:bp)(aq:i1)(k:a6)(be:y) :i1:=
 let z:=layNew aq.t ⟨aq.aC⟩ (hs P k) (.str k be)
 vc aq z.1 (sK z.2.1) z.2.2.1
theorem jy.aed {aq:i1}{V:B a6}(h:jy w aq V)(eN:V.length<1000){O:gg}{a:aM}(b1:O.get? a=some (eY aq)) :O.SetOf (h4 aL w) a (λk=>decide (k∈V)) V.length:=
 ⟨_,_,_,_,b1,⟨rfl,rfl,rfl⟩,rfl,h.yI,λk=>by refine H (rD ..) ?_;exact h.mem k,by refine H (show (⟨aq.aC⟩ :cp (ai×ag)).size=V.length from h.len) ?_;show _ <4096;omega,h.fits,h.len⟩
theorem af4 {aq:i1}{V:B a6}{a be:y}{k:a6}{b:bW}{ap:aK ag}(h:jy w aq V)(eN:V.length<1000)(aQ:decide (k∈V)=b) :
  b0 w 0 (.builtin "set.__contains__" ⟨[.ref a,.str k be],[]⟩) ap [(a,eY aq)] (λ_=>.ok (.ret (.bool b))) (λ_=>[eY aq]) (λ_=>[]) (λ_=>bZ):=by
 subst aQ;refine An (v:=λ_=>.bool (decide (k∈V))) λA s aS a7 b1=>?_;refine h5 PySem.entry_set_contains λei Q E gG dh dC iB=>?_;unfold Builtin.«frozenset.__contains__» PM;simp only [List.isEmpty_nil,bind_assoc];unfold PL Builtin.Frozenset.withSetAsKey setContains;refine bE (wpAny_pure ?_)
 try dsimp only
 refine bE (wpAny_pure ?_)
 try dsimp only
 refine bE (Gj ?_);refine oa ?_;refine bE ((h4 aL w).pyHash (nl k be) ?_);refine bE (wpAny_setFind_of (s:={s with toks:=s.toks+1}) (nl k be) rfl (h.aed eN b1) λr a9=>?_);refine wpAny_pure ?_;show wpAny _ _ (ret (Value.bool r.isSome)) _ _ _;refine H a9 ?_;exact wpAny_pure (dh _ _ ⟨0,rfl,rfl,rfl,rfl⟩)
theorem af1 {aq:i1}{V:B a6}{be:y}{k:a6}(h:jy w aq V) :jy w (p6 w.params aq k be) (V++[k]):=by
 have Dp:(h4 aL w).is k (.str k be)=true:=nl k be;have agq:(h4 aL w).hash k=hs w.params k:=rfl;have L:=layNew_perm aq.t ⟨aq.aC⟩ (hs w.params k) (.str k be);have y9:=layNew_fits aq.t ⟨aq.aC⟩ (hs w.params k) (.str k be);unfold p6;generalize layNew aq.t ⟨aq.aC⟩ (hs w.params k) (.str k be)=z at L y9 ⊢;obtain ⟨gz,cN,p2,JN⟩:=z;simp only at L y9 ⊢;rw [Array.toList_push] at L;have IR:ElemsOf (h4 aL w) gz.toList:=(ElemsOf.push h.yI Dp rfl).perm L;have zy:gz.size=(V++[k]).length:=by refine df (ve ..) (H (L.length_eq ..) (H (ea ..) (H (ea ..) (H (h.len ..) ?_))));rfl
 have Lg:∀ lQ,lQ∈V++[k]↔∃ e∈gz.toList,(h4 aL w).is lQ e.2=true:=λlQ=>by
  rw [dU,h.mem lQ,dN];constructor
  ·rintro (⟨e,he,q⟩ | rfl)
   ·exact ⟨e,L.mem_iff.mpr (eS _ he),q⟩
   ·exact ⟨_,L.mem_iff.mpr (eJ _ (dN.mpr rfl)),Dp⟩
  ·rintro ⟨e,he,q⟩
   rcases dU.mp (L.mem_iff.mp he) with he | he
   ·exact .inl ⟨e,he,q⟩
   ·rw [dN] at he
    subst he;exact .inr ((h4 aL w).inj _ lQ k q Dp)
 have Jk:(sK cN).fits gz.size=true:=by
  unfold sK;split
  ·exact SetTable.fits_plain_off y9
  ·exact y9
 show jy w (vc aq gz (sK cN) p2) _;generalize sK cN=ar at Jk ⊢;unfold vc;split
 ·have qE:=relayAll_perm ar gz (qh gz.size)
  have y8:=relayAll_fits ar gz (qh gz.size);generalize xB ar gz (qh gz.size)=R at qE y8 ⊢;obtain ⟨pr,au,agj⟩:=R;exact ⟨IR.perm qE,λlQ=>(Lg lQ).trans ⟨λ⟨e,he,q⟩=>⟨e,qE.mem_iff.mpr he,q⟩,λ⟨e,he,q⟩=>⟨e,qE.mem_iff.mp he,q⟩⟩,qE.length_eq.trans (ve.trans zy),y8⟩
 ·exact ⟨IR,Lg,zy,Jk⟩
theorem J6 (b:bW){eo:aR}{ei:c9}{E:ag->aR->Prop}{Bv:Unit->aR->Prop}(a4:Bv () eo) :wpAny (model aL w) ei (match b with | true=>rule "set.scan.the-table-gave-way" | false=>pure ()) Bv E eo:=by rcases b with _ | _ <;> first | exact wpAny_pure a4 | exact wpAny_rule a4
theorem AI {aq:i1}{a:aM}{h:gg}{aC:cp (ai×ag)}{t:vx}(b1:h.get? a=some (eY aq)) :(h.update a (Bo aC t)).get? a=some (eY ⟨aC.toList,aq.K+1,t⟩):=by have:=hc (Bo aC t) b1 (by refine H (putSet_of aC t rfl ..) ?_;rfl);rw [putSet_of aC t rfl] at this;exact this
theorem PI {ei:c9}{s:aR}{aq:i1}{a:aM}{gz:cp (ai×ag)}{ar:vx}{p2:bW}{R:aK bW->aR->Prop}{E:ag->aR->Prop}(b1:s.heap.get? a=some (eY aq))(tN:gz.size<=sizeLine)
  (bJ:∀ an,an.heap.get? a=some (eY (vc aq gz ar p2))/\o7 a s.heap an.heap/\an.os=s.os/\an.gens=s.gens->R (some true) an) :
  wpAny (model aL w) ei (do
    storeSet a gz ar
    if (!p2&&ar.tooFull)=true then do
      (match (xB ar gz (qh gz.size)).2.2 with | true=>rule "set.scan.the-table-gave-way" | false=>pure ())
      storeSet a (xB ar gz (qh gz.size)).1 (xB ar gz (qh gz.size)).2.1
      pure (some true)
     else pure (some true)) R E s:=by
 refine bE (wpAny_storeSet_of b1 rfl ?_ tN);have Kl:=hQ s.heap a (Bo gz ar);unfold vc at bJ;by_cases aX:(!p2&&ar.tooFull)=true
 ·rw [d1 aX] at bJ ⊢
  refine bE (J6 _ (bE (wpAny_storeSet_of (s:={s with heap:=s.heap.update a (Bo gz ar)}) (AI b1) rfl (wpAny_pure (bJ _ ⟨AI (AI b1),Kl.trans (hQ _ a _),rfl,rfl⟩)) ?_)));have qE:=(relayAll_perm ar gz (qh gz.size)).length_eq;rw [ve,ve] at qE;refine H qE ?_;exact tN
 ·rw [dt aX] at bJ ⊢
  exact wpAny_pure (bJ _ ⟨AI b1,Kl,rfl,rfl⟩)
theorem af2 {aq:i1}{V:B a6}{a be:y}{k:a6}{ap:aK ag}(h:jy w aq V)(eN:V.length<1000)(aV:decide (k∈V)=false) :
  b0 w 0 (.builtin "set.add" ⟨[.ref a,.str k be],[]⟩) ap [(a,eY aq)] (λ_=>.ok (.ret .none)) (λ_=>[eY (p6 w.params aq k be)]) (λ_=>[]) (λ_=>bZ):=by
 refine u3 (v:=λ_=>.none) λA s aS b1=>?_;refine h5 (b:=Builtin.«set.add») (kd (by kernel_rfl)) λei Q E gG dh dC iB=>?_;unfold Builtin.«set.add» PM;simp only [List.isEmpty_nil,bind_assoc];unfold PL setAdd;refine bE (wpAny_pure ?_)
 try dsimp only
 refine bE (wpAny_pure ?_)
 try dsimp only
 refine bE ?_;refine oa ?_;refine bE ((h4 aL w).pyHash (nl k be) ?_);have zd:({s with toks:=s.toks+1} :aR).heap.get? a=some (eY aq):=b1;unfold setAddHashed setAddHashedIn;refine oa (bE (wpAny_setState_of zd rfl h.fits ?_));dsimp only;have aQ:(⟨aq.aC⟩ :cp (ai×ag)).size<scanBound:=by show aq.aC.length<4096;refine H (h.len ..) ?_;omega
 refine H (byScan_of (x:=.str k be) rfl aQ h.yI ..) ?_;simp only [↓reduceIte];unfold setAddByScan;refine bE ?_;refine bE (wpAny_rule ?_);refine bE (wpAny_setScan_of (nl k be) zd rfl h.fits h.yI ?_);have zc:List.findIdx? (λe:ai×ag=>(h4 aL w).is k e.2) aq.aC=none:=by
  rw [GS];intro e he
  induction a4:(h4 aL w).is k e.2 with
  | false=>rfl
  | true=>exact absurd ((h.mem k).mpr ⟨e,he,a4⟩) (by simpa using aV)
 refine H zc ?_;dsimp only;have i9:=(layNew_perm aq.t ⟨aq.aC⟩ (hs w.params k) (.str k be)).length_eq;rw [ve,ve,Array.size_push] at i9;have tN:(layNew aq.t ⟨aq.aC⟩ (hs w.params k) (.str k be)).1.size<=sizeLine:=by refine H i9 (H (jr ..) ?_);show aq.aC.length+1<=_;refine H (h.len ..) ?_;omega
 unfold p6 at dh;have ej:layNew aq.t ⟨aq.aC⟩ ((h4 aL w).hash k) (.str k be)=layNew aq.t ⟨aq.aC⟩ (hs w.params k) (.str k be):=rfl;refine H ej ?_;generalize layNew aq.t ⟨aq.aC⟩ (hs w.params k) (.str k be)=z at tN dh ⊢;obtain ⟨gz,cN,p2,JN⟩:=z;refine bE (J6 JN ?_);have dh:∀ an,an.heap.get? a=some (eY (vc aq gz (sK cN) p2))/\o7 a s.heap an.heap/\an.os=s.os/\an.gens=s.gens->Q (.done (.ret .none)) an:=λan q=>dh _ an ⟨0,rfl,q⟩;unfold sK at dh
 induction nM:cN.plain with
 | true=>rw [d1 nM] at dh;simp only [nM,↓reduceIte];refine bE ?_;refine H (hashByValue_scannable 8 (x:=.str k be) rfl ..) ?_;exact wpAny_pure (PI zd tN λan q=>wpAny_pure (wpAny_pure (dh _ q)))
 | false=>rw [dt (by refine H nM ?_;decide)] at dh;simp only [nM];refine bE (wpAny_pure ?_);exact PI zd tN λan q=>wpAny_pure (wpAny_pure (dh _ q))
noncomputable def tg (w:aG)(a be:y)(aq:i1)(V:B a6)(k:a6)(b:bW)(ap:aK ag)(h:jy w aq V)(eN:V.length<1000)(aQ:decide (k∈V)=b) :cV w:=⟨0,_,ap,_,_,_,_,_,af4 (w:=w) (a:=a) (be:=be) (ap:=ap) h eN aQ⟩
noncomputable def R3 (w:aG)(a be:y)(aq:i1)(V:B a6)(k:a6)(ap:aK ag)(h:jy w aq V)(eN:V.length<1000)(aV:decide (k∈V)=false) :cV w:=⟨0,_,ap,_,_,_,_,_,af2 (w:=w) (a:=a) (be:=be) (ap:=ap) h eN aV⟩
theorem af3 (wy:bW) :jy w ⟨[],0,.fresh 0 0 wy⟩ []:=⟨λ_ h=>((c4 h).elim),λk=>by simp,rfl,rfl⟩
end
section
structure Hd (e:cE)(f:aM) :Prop where
 frame:e.frame=some f
 tC:(e.scope.isGenerator||e.scope.isCoroutine)=false
 kind:(e.scope.kind != .module)=true
noncomputable def kQ (env:cE)(ix:ag)(o:ao) :ao:={o with slots:=#[some env.code,some (.ref env.globals),o.slots.getD 2 none,some ix,o.slots.getD 4 none,env.func.map Value.ref,some (.ref env.builtins)]++(env.cells.map λc=>some (.ref c.2)).toArray}
noncomputable def mm (o:ao) :bW:=(o.slots.getD 3 none).isSome
noncomputable def yn:y->ag
 | 0=>.none
 | _=>.notImplemented
noncomputable abbrev dl:=B (cE×aM×ao)
noncomputable def l6 (da:y) :dl->ag
 | []=>yn da
 | c::_=>.ref c.2.1
noncomputable def eR (da:y) :dl->dl
 | []=>[]
 | c::r=>bif mm c.2.2 then c::r else (c.1,c.2.1,kQ c.1 (l6 da r) c.2.2)::eR da r
noncomputable abbrev bP (ch:dl) :bN:=ch.map λc=>(c.2.1,c.2.2)
theorem uO (da:y) :∀ ch:dl,(eR da ch).map (·.2.1)=ch.map (·.2.1)
 | []=>rfl
 | c::r=>by
  unfold eR;cases mm c.2.2 with
  | true=>rfl
  | false=>simp only [cond_false,hd];exact H (uO da r ..) rfl
theorem Fz (da:y) :∀ ch:dl,(eR da ch).map (·.1)=ch.map (·.1)
 | []=>rfl
 | c::r=>by
  unfold eR;cases mm c.2.2 with
  | true=>rfl
  | false=>simp only [cond_false,hd];exact H (Fz da r ..) rfl
noncomputable def eg (ch:dl) :Prop:=∀ c∈ch,Hd c.1 c.2.1/\c.2.2.isFreed=false
theorem KB (e:cE)(v:ag)(o:ao) :(kQ e v o).isFreed=o.isFreed:=by obtain ⟨c,d,Ck,bq⟩:=o;rcases Ck with _ | _ <;> rfl
theorem eg.Fy {da:y} :∀ {ch:dl},eg ch->eg (eR da ch)
 | [],h=>h
 | c::r,h=>by
  unfold eR;cases a9:mm c.2.2 with
  | true=>exact h
  | false=>
   intro x bu;simp only [cond_false,dx] at bu;rcases bu with rfl | bu
   ·exact ⟨(h c (by simp)).1,by rw [KB];exact (h c (by simp)).2⟩
   ·exact eg.Fy (λas c3=>h as (by simp [c3])) x bu
section
variable {bo:rm}{A:c9}{E:ag->aR->Prop}
theorem Zj {env:cE}{s:aR}{Q:ag->aR->Prop}(b3:(env.scope.isGenerator||env.scope.isCoroutine)=false)(h:∀ n,Q (yn n) s) :wpAny bo A (keptBack env false []) Q E s:=by
 simp only [keptBack];refine H b3 ?_;simp only [rg,qJ];refine bE (wpAny_underTheClaimsCaller λb=>?_)
 induction b with
 | true=>exact wpAny_pure (h 1)
 | false=>exact wpAny_pure (h 0)
theorem On:∀ (ch:dl) {s:aR} {Q:Unit->aR->Prop},eg ch->dX s.heap (bP ch)->(ch.map (·.2.1)).Nodup->
  (∀ ct da,dX ct (bP (eR da ch))->(∀ b o,b ∉ ch.map (·.2.1)->s.heap.get? b=some o->ct.get? b=some o)->ct.objs.size=s.heap.objs.size->Q () {s with heap:=ct})->wpAny bo A (Om (ch.map (·.1))) Q E s
 | [],s,Q,_,_,_,h=>wpAny_pure (h s.heap 0 (λ_ h=>(nomatch h)) (λb o _ e=>e) rfl)
 | (e,f,o)::r,s,Q,aX,hs,bK,h=>by
  have L:=aX (e,f,o) (by simp);have b1:s.heap.get? f=some o:=hs (f,o) (by simp);simp only [hd,Om];rw [L.1.frame];refine bE (Gg b1 ?_);cases a9:(o.slots.getD 3 none).isSome with
  | true=>
   rw [d1 rfl];refine wpAny_pure (h s.heap 0 ?_ (λb o _ e=>e) rfl);have:eR 0 ((e,f,o)::r)=(e,f,o)::r:=by unfold eR;rw [show mm o=true from a9];rfl
   rw [this];exact hs
  | false=>
   rw [dt (by simp)];have aV:behindIsImport e (r.map (·.1))=pure false:=by unfold behindIsImport;rw [L.1.kind];simp
   refine bE (xP (a:=false) aV ?_);rw [hd,gy] at bK;have pK:∀ c∈r,c.2.1≠f:=λc oE ev=>bK.1 (by show f∈_;rw [<- ev];exact ep (f:=λc:cE×aM×ao=>c.2.1) oE);have body:∀ ix:ag,(∀ ct da,dX ct (bP (eR da r))->ct.get? f=some (kQ e ix o)->(∀ b o',b ∉ ((e,f,o)::r).map (·.2.1)->s.heap.get? b=some o'->ct.get? b=some o')->ct.objs.size=s.heap.objs.size->Q () {s with heap:=ct})->
     wpAny bo A (do
      update f λo=>{o with slots:=#[some e.code,some (.ref e.globals),o.slots.getD 2 none,some ix,o.slots.getD 4 none,e.func.map Value.ref,some (.ref e.builtins)]++(e.cells.map λc=>some (.ref c.2)).toArray}
      Om (r.map (·.1))) Q E s:=by
    intro ix a4;refine bE (wpAny_update b1 ?_);have DD:o7 f s.heap (s.heap.update f (kQ e ix)):=hQ ..;have b3:(s.heap.update f (kQ e ix)).get? f=some (kQ e ix o):=hc _ b1 (by rw [KB];exact L.2);refine On r (s:={s with heap:=s.heap.update f (kQ e ix)}) (λc oE=>aX c (by simp [oE])) (λp fu=>?_) bK.2 λct da eT i8 hz=>?_
    ·obtain ⟨c,oE,rfl⟩:=fC.mp fu
     exact (DD.2 _ (pK c oE)).trans (hs (c.2.1,c.2.2) (dG _ (ep (f:=λc:cE×aM×ao=>(c.2.1,c.2.2)) oE)))
    ·refine a4 ct da eT (i8 f _ ?_ b3) (λb o' aQ ev=>?_) (hz.trans DD.1)
     ·intro aU
      obtain ⟨c,oE,ev⟩:=fC.mp aU;exact pK c oE ev
     ·rw [hd,dx,not_or] at aQ
      exact i8 b o' aQ.2 ((DD.2 b aQ.1).trans ev)
   have bd:∀ (ix:ag) (da:y) (ct:gg),ix=l6 da r->dX ct (bP (eR da r))->ct.get? f=some (kQ e ix o)->dX ct (bP (eR da ((e,f,o)::r))):=by
    intro ix da ct aQ eT a7 p fu;unfold eR at fu;rw [show mm o=false from a9] at fu;simp only [cond_false,bP,hd,dx] at fu;rcases fu with rfl | fu
    ·rw [<- aQ];exact a7
    ·exact eT p fu
   cases r with
   | nil=>refine bE (Zj L.1.tC λn=>?_);refine body (yn n) λct da eT a7 i8 hz=>h ct n (bd _ n ct rfl (λp L=>(nomatch L)) a7) i8 hz
   | cons c r=>
    have XY:keptBack e false (dF (λx=>x.1) (c::r))=pure (.ref c.2.1):=by show keptBack e false (c.1::r.map (·.1))=_;have XJ:=(aX c (by simp)).1.frame;unfold keptBack;refine H (L.1.tC ..) ?_;show pure (if false=true then Value.none else if false=true then Value.notImplemented else c.1.frame.elim Value.notImplemented Value.ref)=_;refine H XJ ?_;rfl
    refine bE (xP (a:=.ref c.2.1) XY ?_);refine body (.ref c.2.1) λct da eT a7 i8 hz=>h ct da (bd _ da ct rfl eT a7) i8 hz
noncomputable def ph (l:B ag) :Prop:=l=[.none,.none,.none,.none,.none,.none]∨∃ (a b c d:ai) (v:ag) (x:bW),(v= .none∨∃ as:a6,v= .str as 0)/\l=[.int a 0,.int b 0,.int c 0,.int d 0,v,.bool x]
noncomputable abbrev fv (head:ag)(f:aM)(Wk:ag)(e3:B ag) :ao:={cls:=.type "traceback",data:=.fields ⟨[head,.ref f,.none,Wk,.none]++e3⟩}
noncomputable abbrev mW (T:kv)(a bh:ag)(vs:B ag) :ao:={cls:=.type T,data:=.fields ⟨a::bh::vs⟩}
theorem aej {nd:B ag}(h:IsPlace nd) :ph (if nd.isEmpty then G7 6 Value.none else nd):=by
 rcases h with rfl | ⟨a,b,c,d,v,x,bc,rfl⟩
 ·exact .inl rfl
 ·exact .inr ⟨a,b,c,d,v,x,bc,rfl⟩
noncomputable abbrev iz (C:ag)(a bh:ag)(vs:B ag) :ao:={cls:=C,data:=.fields ⟨a::bh::vs⟩}
theorem Lw {C bc hw:ag}{b:bW}{a:ag}{vs:B ag}{env:cE}{f bH:aM}{o:ao}{r:dl}{s:aR}{Q:Unit->aR->Prop}(jm:A.frames=some (env::r.map (·.1)))(aX:eg ((env,f,o)::r))(hs:dX s.heap (bP ((env,f,o)::r)))(bK:(((env,f,o)::r).map (·.2.1)).Nodup)
  (he:s.heap.get? bH=some (iz C a hw vs))(bu:bH ∉ ((env,f,o)::r).map (·.2.1))
  (h:∀ ct da e3,ph e3->dX ct (bP (eR da ((env,f,o)::r)))->ct.get? bH=some (iz C a (.ref s.heap.objs.size) vs)->ct.get? s.heap.objs.size=some (fv bc f .none e3)->
   (∀ b o',b≠bH->b ∉ ((env,f,o)::r).map (·.2.1)->s.heap.get? b=some o'->ct.get? b=some o')->ct.objs.size=s.heap.objs.size+1->Q () {s with heap:=ct}) :
  wpAny bo A (do Ar (.ref bH) 1 (<- PS bc (<- PySem.frameOf env) .none (rawInt f) .none (<- entryPlaceOf f b))) (λ_ pT=>wpAny bo A (pR (.ref bH) none) Q E pT) E s:=by
 have L:=aX (env,f,o) (by simp);unfold PySem.frameOf;refine bE (bE (wpAny_frameEnvs jm ?_));have XK:((env::r.map (·.1)).dropWhile λx=>x.frame != env.frame)=env::r.map (·.1):=by simp [List.dropWhile]
 rw [XK];unfold frameObject;refine bE (bE (On ((env,f,o)::r) aX hs bK λhm da a9 aV hz=>wpAny_pure ?_));rw [L.1.frame];refine wpAny_pure ?_;refine bE (wpAny_entryPlaceOf λnd nM=>?_);unfold PS newFields;refine bE (sJ ?_ (nM.sizeOk5 _ _ _ _ _));have J4:hm.get? bH=some (iz C a hw vs):=aV _ _ bu he;have Dg:=iv (h:=hm) (fv bc f (.int f 0) (if nd.isEmpty then G7 6 Value.none else nd)) J4;refine Gi Dg rfl (by simp) ?_;generalize Kn:(if nd.isEmpty then G7 6 Value.none else nd)=e3;have gl:ph e3:=Kn▸aej nM;have e2:(hm.push (fv bc f (.int f 0) e3)).get? hm.objs.size=some (fv bc f (.int f 0) e3):=nq _ rfl;rw [Kn] at Dg;have e6:hm.objs.size≠bH:=pe (hC J4);show wpAny bo A (pR (.ref bH) none) Q E {s with heap:=(hm.push (fv bc f (.int f 0) e3)).update bH (lC (·.setIfInBounds 1 (.ref hm.objs.size)))};have o4:=hQ (hm.push (fv bc f (.int f 0) e3)) bH (lC (·.setIfInBounds 1 (.ref hm.objs.size)));have fB:((hm.push (fv bc f (.int f 0) e3)).update bH (lC (·.setIfInBounds 1 (.ref hm.objs.size)))).get? bH=some (iz C a (.ref hm.objs.size) vs):=hc _ Dg rfl;have im:=(o4.2 _ e6).trans e2;generalize (hm.push (fv bc f (.int f 0) e3)).update bH (lC (·.setIfInBounds 1 (.ref hm.objs.size)))=kD at o4 fB im ⊢;refine wpAny_setFlight_none fB rfl rfl im rfl (by simp) ?_;have p0:=hQ kD hm.objs.size (lC (·.setIfInBounds 3 .none));have jT:(kD.update hm.objs.size (lC (·.setIfInBounds 3 .none))).get? hm.objs.size=some (fv bc f .none e3):=hc _ im rfl;have eO:∀ b o',b≠bH->hm.get? b=some o'->(kD.update hm.objs.size (lC (·.setIfInBounds 3 .none))).get? b=some o':=λb o' aQ ev=>
  (p0.2 b (k0 (hC ev))).trans ((o4.2 b aQ).trans (iv _ ev))
 refine h _ da e3 gl (λp fu=>?_) ?_ ?_ (λb o' az aJ ev=>eO b o' az (aV b o' aJ ev)) ?_
 ·refine eO _ _ ?_ (a9 p fu)
  intro ev;refine bu ?_;rw [<- uO da];obtain ⟨c,oE,rfl⟩:=fC.mp fu;rw [<- ev];exact ep (f:=λc:cE×aM×ao=>c.2.1) oE
 ·rw [hz] at fB p0 ⊢
  exact (p0.2 _ (by rw [<- hz];exact ih e6)).trans fB
 ·rw [hz] at jT
  rw [hz];exact jT
 ·exact H p0.1 (H o4.1 (H (ku ..) (H hz rfl)))
theorem Lx {C:ag}{a:ag}{vs:B ag}{env:cE}{f bH:aM}{o:ao}{r:dl}{s:aR}{Q:Unit->aR->Prop}(jm:A.frames=some (env::r.map (·.1)))(aX:eg ((env,f,o)::r))(hs:dX s.heap (bP ((env,f,o)::r)))(bK:(((env,f,o)::r).map (·.2.1)).Nodup)
  (he:s.heap.get? bH=some (iz C a .none vs))(bu:bH ∉ ((env,f,o)::r).map (·.2.1))
  (h:∀ ct da e3,ph e3->dX ct (bP (eR da ((env,f,o)::r)))->ct.get? bH=some (iz C a (.ref s.heap.objs.size) vs)->ct.get? s.heap.objs.size=some (fv .none f .none e3)->
   (∀ b o',b≠bH->b ∉ ((env,f,o)::r).map (·.2.1)->s.heap.get? b=some o'->ct.get? b=some o')->ct.objs.size=s.heap.objs.size+1->Q () {s with heap:=ct}) :
  wpAny bo A (oT (.ref bH) env) (λ_ pT=>wpAny bo A (pR (.ref bH) none) Q E pT) E s:=by
 have L:=aX (env,f,o) (by simp);unfold oT;refine H (L.1.frame ..) ?_;refine bE (p3 he rfl (x:=.none) rfl ?_);refine H (dt (by decide) ..) ?_;exact Lw (bc:=.none) (hw:=.none) (b:=_) jm aX hs bK he bu h
theorem abB {C a:ag}{vs:B ag}{env:cE}{f bH bh gk:aM}{bG:ag}{q6:B ag}{o:ao}{r:dl}{s:aR}{Q:Unit->aR->Prop}(jm:A.frames=some (env::r.map (·.1)))(aX:eg ((env,f,o)::r))(hs:dX s.heap (bP ((env,f,o)::r)))(bK:(((env,f,o)::r).map (·.2.1)).Nodup)
  (he:s.heap.get? bH=some (iz C a (.ref bh) vs))(bu:bH ∉ ((env,f,o)::r).map (·.2.1))(e2:s.heap.get? bh=some (fv bG gk .none q6))(agB:bh≠bH)(YE:bh ∉ ((env,f,o)::r).map (·.2.1))
  (h:∀ ct da e3,ph e3->dX ct (bP (eR da ((env,f,o)::r)))->ct.get? bH=some (iz C a (.ref s.heap.objs.size) vs)->ct.get? s.heap.objs.size=some (fv (.ref bh) f .none e3)->
   (∀ b o',b≠bH->b ∉ ((env,f,o)::r).map (·.2.1)->s.heap.get? b=some o'->ct.get? b=some o')->ct.objs.size=s.heap.objs.size+1->Q () {s with heap:=ct}) :
  wpAny bo A (oT (.ref bH) env) (λ_ pT=>wpAny bo A (pR (.ref bH) none) Q E pT) E s:=by
 have L:=aX (env,f,o) (by simp);unfold oT;rw [L.1.frame];refine bE (p3 he rfl (x:=.ref bh) rfl ?_);rw [d1 (by rfl)];refine bE (p3 e2 rfl (x:=.none) rfl ?_);rw [dt (by simp [rawInt])];refine bE (Gi e2 rfl (by simp) ?_);have o4:=hQ s.heap bh (lC (·.setIfInBounds 3 .none));have fB:(s.heap.update bh (lC (·.setIfInBounds 3 .none))).get? bh=some (fv bG gk .none q6):=hc _ e2 rfl;have same:∀ b o',s.heap.get? b=some o'->(s.heap.update bh (lC (·.setIfInBounds 3 .none))).get? b=some o':=λb o' e=>by
  by_cases aQ:b=bh
  ·subst aQ;rw [e2] at e;cases e;exact fB
  ·exact (o4.2 b aQ).trans e
 refine Lw (bc:=.ref bh) (hw:=.ref bh) (b:=_) jm aX (λp L=>same _ _ (hs p L)) bK (same _ _ he) bu ?_;intro ct da e3 gl a9 nJ qG aV hz;have FV:(s.heap.update bh (lC (·.setIfInBounds 3 .none))).objs.size=s.heap.objs.size:=o4.1;have:=h ct da e3 gl a9 (by rw [<- FV];exact nJ) (by rw [<- FV];exact qG) (λb o' az aJ e=>aV b o' az aJ (same _ _ e)) (by exact H hz (H FV rfl));exact this
end
end
section
noncomputable def kf:=pu (e7 13 8).2.1[5]?
noncomputable def k8:=sG kf.2.2.1[1]?
noncomputable def qv:=sG k8.2.1[1]?
noncomputable abbrev Em (d:p9)(f:cT×B c5×B c5)(q:a6)(ty c G:aM) :cn:=.whileLoop f.1 f.2.1 f.2.2 (mT d q ty c G)
noncomputable abbrev qt (G J:aM) :cn:=zE (e7 13 8) kf (U us) 178 177 G J
noncomputable abbrev rP (G:aM) :cn:=Em (e7 13 8) k8 (U us) 178 177 G
noncomputable abbrev mX (G:aM) :cn:=Em (e7 13 8) qv (U us) 178 177 G
noncomputable abbrev yP (P:bp)(bq:cp (aK ag))(s aw U cH cG ce M ab ae ak aD a0:y) :ao:={cls:=.type "frame",data:=.dict ⟨[aj P gv M (.ref s),aj P kM ab (.ref aw),aj P w3 ae (.ref U),aj P xr ak (.ref cH),aj P w5 aD (.ref cG),aj P xg a0 (.ref ce)]⟩ 6,slots:=bq}
noncomputable abbrev hU (P:bp)(bq:cp (aK ag))(s aw U cH cG ce M ab ae ak aD a0 b7:y)(x:a6)(am:y) :ao:={cls:=.type "frame",data:=.dict ⟨[aj P gv M (.ref s),aj P kM ab (.ref aw),aj P w3 ae (.ref U),aj P xr ak (.ref cH),aj P w5 aD (.ref cG),aj P xg a0 (.ref ce),aj P lo b7 (.str x am)]⟩ 7,slots:=bq}
noncomputable def Pc (o:aK c5) :B c5×B mI×c2:=(q2 o 0,(uL o).2.2.2.1,oX o)
noncomputable def pt:=Pc qv.2.1[0]?
noncomputable abbrev hk (G:aM) :cE:=mT (e7 13 8) (U us) 178 177 G
noncomputable abbrev mu (J:y) :ao:={cls:=.type "method-wrapper",data:=.fields ⟨[.builtin "list_iterator.__next__",.ref J]⟩}
variable {w:aG}
theorem WX {a K:y}{t:Tok}{l m:B ag}{v:ag}{ap:aK ag}(al:l.length<1000000)(he:l=m++[v]) :
  b0 w 0 (.builtin "list.__getitem__" ⟨[.ref a,.int (-1) t],[]⟩) ap [(a,I l K)] (λ_=>.ok (.ret v)) (λ_=>[I l K]) (λ_=>[]) (λ_=>bZ):=by
 refine nj (v:=λ_=>v) λA s aS has=>?_;have b1:=has (a,I l K) (cY ..);refine h5 IW λei Q E gG dh dC iB=>?_;have a7:Gy (-1)=true:=by rfl
 show wpAny _ _ (xW (.int (-1) t) >>= _) _ _ s;refine bE (PB a7 ?_)
 clear a7
 subst he;have a5:seqIndex? (-1) (⟨m++[v]⟩ :cp ag).size=some m.length:=by unfold seqIndex?;simp;omega
 have bt:(⟨m++[v]⟩ :cp ag)[m.length]? =some v:=by simp
 show wpAny _ _ ((vg (.ref a) >>= λca=>pure ((seqIndex? (-1) ca.size).bind λj=>ca[j]?.map (j,·))) >>= _) _ _ s;refine bE (bE ?_);unfold vg;refine bE (u8 b1 rfl (wpAny_pure (wpAny_pure ?_)));refine H a5 ?_;simp only [Hb];refine H bt ?_;exact wpAny_pure (dh _ _ ⟨0,rfl,rfl,rfl,rfl⟩)
noncomputable def ql (w:aG)(a K t:y)(l m:B ag)(v:ag)(ap:aK ag)(al:l.length<1000000)(he:l=m++[v]) :cV w:=
 ⟨0,_,ap,_,_,_,_,_,WX (w:=w) (a:=a) (K:=K) (t:=t) (ap:=ap) al he⟩
end
section
section
variable (w:aG)(G bq aw U cH cG ce M ab ae ak aD a0 b7 a5 bt cd bl cO gc J pos i am aI mF bH bh cA:y)(az aJ bg cS:ai)(aQ:bW)(c3:a6)(j o3:y)(br:cp (aK ag))(v u:ag)(l dH m f0:B ag)(aa:B (y×y))(al:(v::l).length<1000000)(aU:(u::m).length<1000000)(lf:u::m=f0++[.ref gc])(hs:(aa.map ad)[pos]? =some (ad (j,o3)))
noncomputable def V9 (n t:y) :bb w:=
  .ax [1,2,2] [0,2] 0 (kz w U a5 (v::l) (v::l).length none rfl al) [1] λah=>.ax [1,3,3,3,3] [0,0,0,2] 0 (ql w cH bt (ah 1+1) (u::m) f0 (.ref gc) none aU lf) [2] λaN=>.ax [4,4] [0,2] 0 (jO w J bl cO pos (dF ad aa) (.str (ay j) o3) none hs) [4,5] λbx=>.bd [1,1] [] 0 (.ret (.ok .next)) [(0,{cls:=(.type "frame"),data:=(.dict ⟨[aj w.params gv M (.ref bq),aj w.params kM ab (.ref aw),aj w.params w3 ae (.ref U),aj w.params xr ak (.ref cH),aj w.params w5 aD (.ref cG),aj w.params xg a0 (.ref ce),aj w.params lo b7 (.str (ay j) o3)]⟩ 7),slots:=br}),(1,I (v::l) a5),(2,I (u::m) bt),(3,mu J),(4,b4 "list_iterator" bl (pos+1)),(5,ht "list" (dF ad aa) cO)]
theorem Wa:b2 w 3 none ([(G,hU w.params br bq aw U cH cG ce M ab ae ak aD a0 b7 (ay i) am),(U,I (v::l) a5),(cH,I (u::m) bt),(gc,mu J),(J,b4 "list_iterator" bl pos),(bl,ip aa cO)]) (mX G) (V9 w bq aw U cH cG ce M ab ae ak aD a0 b7 a5 bt bl cO gc J pos j o3 br v u l m f0 aa al aU lf hs):=c6
section
variable (hs:(aa.map ad).length=pos)
noncomputable def Wb (n t:y) :bb w:=
  .ax [1,2,2] [2] 0 (kz w U a5 (v::l) (v::l).length none rfl al) [1] λah=>.ax [1,3,3,3,3] [0,0,0,2] 0 (ql w cH bt (ah 1+1) (u::m) f0 (.ref gc) none aU lf) [2] λaN=>.ax [4,4] [0,2] 0 (nC w J bl cO pos (dF ad aa) hs) [4,5] λbx=>.bd [] [] 0 (.ret (.ok (.ret (.ref (bx 2))))) [(0,hU w.params br bq aw U cH cG ce M ab ae ak aD a0 b7 (ay i) am),(1,I (v::l) a5),(2,I (u::m) bt),(3,mu J),(4,ee "list_iterator" pos),(5,ht "list" (dF ad aa) cO),(6,{cls:=(.type "StopIteration"),data:=(.fields ⟨[.ref (bx 3),.none,.none,.none,.bool false,.none]⟩)}),(7,{cls:=(.type "tuple"),data:=(.seq ⟨[]⟩ 0)})]
theorem Wc:eu w none 3 none ([(G,hU w.params br bq aw U cH cG ce M ab ae ak aD a0 b7 (ay i) am),(U,I (v::l) a5),(cH,I (u::m) bt),(gc,mu J),(J,b4 "list_iterator" bl pos),(bl,ip aa cO)]) ([]) (mX G) (Pd qv.1 pt.1 (hk G) pt.2.2) (Wb w bq aw U cH cG ce M ab ae ak aD a0 b7 a5 bt bl cO gc J pos i am br v u l m f0 aa al aU lf hs):=c6
end
noncomputable def V1 (n t:y) :bb w:=
  .bd (aY 0x1222221) [0,0,0,0] 0 (.ret (.ok .brk)) [(0,hU w.params br bq aw U cH cG ce M ab ae ak aD a0 b7 (ay i) am),(1,I [] a5)]
theorem V2:b2 w 3 none ([(G,hU w.params br bq aw U cH cG ce M ab ae ak aD a0 b7 (ay i) am),(U,I [] a5)]) (mX G) (V1 w bq aw U cH cG ce M ab ae ak aD a0 b7 a5 i am br):=c6
section
variable (gc:y)(aC:B fG)(al:l.length<1000000)(eC:l=dH++[ad (aI,mF)])(aU:m.length<1000000)(lf:m=f0++[.ref gc])(he:aC.length<1000000)(ap:(ef aC (ay aI)).isSome=true)
noncomputable def V3 (n t:y) :bb w:=
  .ax E4 [0,0,0,2] 0 (rz w U a5 l dH (.str (ay aI) mF) (some (.ref bH)) al eC) [1] λah=>.ax [4,4,4] [0,2] 0 (BS w ce cd mF aC (ay aI) (some (.ref bH)) he ap) [3] λaN=>.ax (aY 0x1333331) [0,2] 0 (rz w cH bt m f0 (.ref gc) (some (.ref bH)) aU lf) [2] λbx=>.bd [] [0] 0 (.ret (.ok .next)) [(0,hU w.params br bq aw U cH cG ce M ab ae ak aD a0 b7 (ay i) am),(1,I dH (a5+1)),(2,I f0 (bt+1)),(3,bT w.params (mV aC (ay aI)) (cd+1)),(4,(mW "StopIteration" (PySem.Value.ref cA) (PySem.Value.ref bh)
 [PySem.Value.none,PySem.Value.none,PySem.Value.bool Bool.false,PySem.Value.none])),(5,{cls:=(.type "traceback"),data:=(.fields ⟨[.none,.ref G,.none,.none,.none,.none,.none,.none,.none,.none,.none]⟩)})]
theorem V4:eu w none 3 none ([(G,hU w.params br bq aw U cH cG ce M ab ae ak aD a0 b7 (ay i) am),(U,I l a5),(cH,I m bt),(ce,bT w.params aC cd),(bH,mW "StopIteration" (.ref cA) (.ref bh) [.none,.none,.bool false,.none]),(bh,fv .none G .none [.none,.none,.none,.none,.none,.none])]) ([]) (mX G) (y7 (.ref bH) (hk G) pt.2.1) (V3 w G bq aw U cH cG ce M ab ae ak aD a0 b7 a5 bt cd i am aI mF bH bh cA br l dH m f0 gc aC al eC aU lf he ap):=c6
end
section
variable (gc:y)(aC:B fG)(al:l.length<1000000)(eC:l=dH++[ad (aI,mF)])(aU:m.length<1000000)(lf:m=f0++[.ref gc])(he:aC.length<1000000)(ap:(ef aC (ay aI)).isSome=true)
noncomputable def V5 (n t:y) :bb w:=
  .ax E4 [0,0,0,2] 0 (rz w U a5 l dH (.str (ay aI) mF) (some (.ref bH)) al eC) [1] λah=>.ax [4,4,4] [0,2] 0 (BS w ce cd mF aC (ay aI) (some (.ref bH)) he ap) [3] λaN=>.ax (aY 0x1333331) [0,2] 0 (rz w cH bt m f0 (.ref gc) (some (.ref bH)) aU lf) [2] λbx=>.bd [] [0] 0 (.ret (.ok .next)) [(0,hU w.params br bq aw U cH cG ce M ab ae ak aD a0 b7 (ay i) am),(1,I dH (a5+1)),(2,I f0 (bt+1)),(3,bT w.params (mV aC (ay aI)) (cd+1)),(4,(mW "StopIteration" (PySem.Value.ref cA) (PySem.Value.ref bh)
 [PySem.Value.none,PySem.Value.none,PySem.Value.bool Bool.false,PySem.Value.none])),(5,{cls:=(.type "traceback"),data:=(.fields ⟨[.none,.ref G,.none,.none,.none,.int az 0,.int aJ 0,.int bg 0,.int cS 0,.none,.bool aQ]⟩)})]
theorem V6:eu w none 3 none ([(G,hU w.params br bq aw U cH cG ce M ab ae ak aD a0 b7 (ay i) am),(U,I l a5),(cH,I m bt),(ce,bT w.params aC cd),(bH,mW "StopIteration" (.ref cA) (.ref bh) [.none,.none,.bool false,.none]),(bh,fv .none G .none [.int az 0,.int aJ 0,.int bg 0,.int cS 0,.none,.bool aQ])]) ([]) (mX G) (y7 (.ref bH) (hk G) pt.2.1) (V5 w G bq aw U cH cG ce M ab ae ak aD a0 b7 a5 bt cd i am aI mF bH bh cA az aJ bg cS aQ br l dH m f0 gc aC al eC aU lf he ap):=c6
end
section
variable (gc:y)(aC:B fG)(al:l.length<1000000)(eC:l=dH++[ad (aI,mF)])(aU:m.length<1000000)(lf:m=f0++[.ref gc])(he:aC.length<1000000)(ap:(ef aC (ay aI)).isSome=true)
noncomputable def V7 (n t:y) :bb w:=
  .ax E4 [0,0,0,2] 0 (rz w U a5 l dH (.str (ay aI) mF) (some (.ref bH)) al eC) [1] λah=>.ax [4,4,4] [0,2] 0 (BS w ce cd mF aC (ay aI) (some (.ref bH)) he ap) [3] λaN=>.ax (aY 0x1333331) [0,2] 0 (rz w cH bt m f0 (.ref gc) (some (.ref bH)) aU lf) [2] λbx=>.bd [] [0] 0 (.ret (.ok .next)) [(0,hU w.params br bq aw U cH cG ce M ab ae ak aD a0 b7 (ay i) am),(1,I dH (a5+1)),(2,I f0 (bt+1)),(3,bT w.params (mV aC (ay aI)) (cd+1)),(4,(mW "StopIteration" (PySem.Value.ref cA) (PySem.Value.ref bh)
 [PySem.Value.none,PySem.Value.none,PySem.Value.bool Bool.false,PySem.Value.none])),(5,{cls:=(.type "traceback"),data:=(.fields ⟨[.none,.ref G,.none,.none,.none,.int az 0,.int aJ 0,.int bg 0,.int cS 0,.str c3 0,.bool aQ]⟩)})]
theorem V8:eu w none 3 none ([(G,hU w.params br bq aw U cH cG ce M ab ae ak aD a0 b7 (ay i) am),(U,I l a5),(cH,I m bt),(ce,bT w.params aC cd),(bH,mW "StopIteration" (.ref cA) (.ref bh) [.none,.none,.bool false,.none]),(bh,fv .none G .none [.int az 0,.int aJ 0,.int bg 0,.int cS 0,.str c3 0,.bool aQ])]) ([]) (mX G) (y7 (.ref bH) (hk G) pt.2.1) (V7 w G bq aw U cH cG ce M ab ae ak aD a0 b7 a5 bt cd i am aI mF bH bh cA az aJ bg cS aQ c3 br l dH m f0 gc aC al eC aU lf he ap):=c6
end
end
variable {w:aG}
theorem xF {dg:aK (B cE)}{bj:y}{bG:aK ag}{A:c9}{s:aR}{R:cD->aR->Prop}{F:gP->B (aM×ao)->Prop}{l:B (aM×ao)}{c:cn}{d3:e5 h3}{bI:y->y->bb w}
  (e:eu w dg bj bG l [] c d3 bI)(aS:eb w dg bj A bG s)(has:dX s.heap l)(bU:ie (l.map (·.1)))
  (left:∀ n t,mK F (bI n t) (l.map (·.1)) l.length n)
  (dP:∀ dw du an,F dw du->nu s (l.map (·.1)) an du->fy s an (l.map (·.1))->qc w A R an dw) :wpOwn (model aL w) A c d3 (postC aL w A R) (postE R) s:=by
 refine Os (af:=[]) 100000 (bI s.heap.objs.size s.toks) aS (by simpa using has) (by simpa using bU) (e _ _ _) (left _ _) ?_;simpa using dP
theorem eb.eW {dg Jl:aK (B cE)}{bj oO:y}{A:c9}{ap:aK ag}{s:aR}(h:eb w dg bj A ap s)(al:oO<=bj)(a7:∀ l,Jl=some l->dg=some l) :eb w Jl oO A ap s:=
 ⟨by have:=h.depth;omega,by have:=h.units;omega,h.handled,h.it,h.size,λl e=>h.frames l (a7 l e)⟩
theorem dX.sub {h:gg}{l m:B (aM×ao)}(O:dX h l)(hs:∀ p∈m,p∈l) :dX h m:=λp L=>O p (hs p L)
theorem ie.sub {aB fm:B aM}(h:ie aB)(hs:List.Sublist fm aB) :ie fm:=⟨h.e8.sublist hs,λa bY=>h.free a (hs.subset bY)⟩
structure ly where
 (G bq aw U cH cG ce M ab ae ak aD a0 b7:y)
noncomputable abbrev ly.eM (P:bp)(F:ly)(br:cp (aK ag))(i am:y) :ao:=hU P br F.bq F.aw F.U F.cH F.cG F.ce F.M F.ab F.ae F.ak F.aD F.a0 F.b7 (ay i) am
noncomputable def xA (env:cE)(ix:ag)(br:cp (aK ag)) :cp (aK ag):=#[some env.code,some (.ref env.globals),br.getD 2 none,some ix,br.getD 4 none,env.func.map Value.ref,some (.ref env.builtins)]++(env.cells.map λc=>some (.ref c.2)).toArray
noncomputable def CG:mI:=match pt.2.1 with
 | h::_=>h
 | []=>.ExceptHandler none none [] default
theorem VN (G:aM) :mX G= .whileLoop qv.1 [.Try pt.1 [CG] [] [] pt.2.2] qv.2.2 (hk G):=by kernel_rfl
theorem VM:pt.2.1=[CG]:=by kernel_rfl
noncomputable abbrev sC:B ag:=[.none,.none,.bool false,.none]
end
section
variable {w:aG}
structure eK where
 (i t gc J pos wT:y)
noncomputable def f6 (ba:B eK) :B ag:=(ba.map λf=>ad (f.i,f.t)).reverse
noncomputable def gJ (ba:B eK) :B ag:=(ba.map λf=>Value.ref f.gc).reverse
noncomputable def gi:B eK->B fG
 | []=>[]
 | f::ba=>gi ba++[(ay f.i,f.t,.int (ba.length:ai) f.wT)]
noncomputable abbrev Wv (z:cs)(f:eK) :B (aM×ao):=[(f.gc,mu f.J),(f.J,b4 "list_iterator" (z.bl f.i) f.pos)]
noncomputable def jk (z:cs)(ba:B eK) :bN:=ba.flatMap (Wv z)
noncomputable def lp (aa:y->B (y×y)) :B eK->aK ((y×y)×eK×B eK)
 | []=>none
 | f::ba=>match (aa f.i)[f.pos]? with
  | some p=>some (p,{f with pos:=f.pos+1},ba)
  | none=>lp aa ba
theorem abu:∀ i j:Fin 12,t3.getD i.1 []=t3.getD j.1 []->i=j:=by decide
theorem Lr {i j:y}(aF:i<12)(dB:j<12)(h:ay i=ay j) :i=j:=by
 have aJ:t3.getD i []=t3.getD j []:=by unfold ay at h;have:=fV (λs:a6=>s.cps.toList) h;simpa [U] using this
 exact fV Fin.val (abu ⟨i,aF⟩ ⟨j,dB⟩ aJ)
theorem Au (f:eK)(ba:B eK) :f6 (f::ba)=f6 ba++[ad (f.i,f.t)]:=by simp [f6]
theorem wu (f:eK)(ba:B eK) :gJ (f::ba)=gJ ba++[.ref f.gc]:=by simp [gJ]
theorem xL (ba:B eK) :(f6 ba).length=ba.length:=by simp [f6]
theorem D3 (ba:B eK) :(gJ ba).length=ba.length:=by simp [gJ]
theorem B8:∀ ba:B eK,(gi ba).length=ba.length
 | []=>rfl
 | f::ba=>by rw [gi,ea,B8 ba];rfl
theorem Ik {x:fG} :∀ {ba:B eK},x∈gi ba->∃ f∈ba,x.1=ay f.i
 | f::ba,h=>by
  rw [gi] at h;rcases dU.mp h with h | h
  ·obtain ⟨aI,b3,e⟩:=Ik h
   exact ⟨aI,dG _ b3,e⟩
  ·rw [dN] at h
   subst h;exact ⟨f,cY ..,rfl⟩
theorem B9 {ba:B eK}{i:y}(aF:i<12)(cq:∀ f∈ba,f.i<12)(bK:∀ f∈ba,f.i≠i) :∀ x∈gi ba,(x.1==ay i)=false:=by
 intro x bu;obtain ⟨f,a7,e⟩:=Ik bu;refine H e ?_
 induction h:ay f.i==ay i with
 | false=>rfl
 | true=>exact absurd (Lr (cq f a7) aF (eq_of_beq h)) (bK f a7)
theorem VF {f:eK}{ba:B eK}(aF:f.i<12)(cq:∀ aI∈ba,aI.i<12)(bK:∀ aI∈ba,aI.i≠f.i) :mV (gi (f::ba)) (ay f.i)=gi ba:=by unfold mV;rw [gi,List.eraseP_append_right _ (λb aQ=>by rw [B9 aF cq bK b aQ];simp)];simp
theorem K3 {f:eK}{ba:B eK}(aF:f.i<12)(cq:∀ aI∈ba,aI.i<12)(bK:∀ aI∈ba,aI.i≠f.i) :ef (gi (f::ba)) (ay f.i)=some (.int (ba.length:ai) f.wT):=by
 unfold ef;rw [gi,List.find?_append];have:List.find? (λe=>e.1==ay f.i) (gi ba)=none:=by rw [A8];intro x bu;refine H (B9 aF cq bK x bu ..) ?_;simp
 refine H this ?_;simp
end
section
variable {w:aG}
noncomputable def mD (l:B c5)(i:y) :c5:=l.getD i (.Pass default)
end
section
variable {w:aG}
theorem Lk {bj:y}{ap:aK ag}{code:cn}{pre:B (aM×ao)}{o:ao}
  (h:∀ A s,og w bj A ap s->dX s.heap pre->codeAny (model aL w) A code (λr an=>r= .ok (.ret (.ref s.heap.objs.size))/\an.heap=s.heap.push o/\an.os=s.os/\an.gens=s.gens) s)(a7:o.isFreed=false) :
  b0 w bj code ap pre (λx=>.ok (.ret (.ref (x 2)))) (λ_=>pre.map (·.2)) (λx=>[(x 2,o)]) (λ_=>bZ):=λA s aS has bU=>by
 refine gR (h A s aS has) ?_;rintro r an ⟨rfl,az,aJ,bg⟩;refine ⟨ca an.heap.objs.size an.toks [s.heap.objs.size],rfl,trivial,rfl,rfl,⟨by simp,?_,?_,by simp,?_,⟨λb o' e _=>by refine H az ?_;exact iv _ e,by refine H az (H (ku ..) ?_);exact rp _,aJ,[],by refine H bg ?_;simp,λ_ h=>((c4 h).elim)⟩⟩⟩
 ·intro p L
  rw [Gr] at L;refine H az ?_;exact iv _ (has p L)
 ·intro p L
  simp at L;subst L;refine H az ?_;exact nq _ a7
 ·intro p L
  simp at L;subst L;exact fk _
theorem Zs {a b cO bw:y}{l m dH:B ag}{ap:aK ag}(al:l.length+m.length<1000000)(he:l++m=dH) :
  b0 w 0 (.builtin "list.__add__" ⟨[.ref a,.ref b],[]⟩) ap [(a,I l cO),(b,I m bw)] (λx=>.ok (.ret (.ref (x 2)))) (λ_=>[I l cO,I m bw]) (λx=>[(x 2,I dH 0)]) (λ_=>bZ):=by
 subst he;refine Lk (pre:=[(a,I l cO),(b,I m bw)]) (λA s aS has=>?_) rfl;refine oS (kd (by kernel_rfl)) (by kernel_rfl) (by kernel_rfl) (PySem.AutoSeq1.list___add___list_list_0 a ⟨l⟩ cO b ⟨m⟩ bw (by rw [jr];simp;omega)) ⟨has (a,I l cO) (by simp),has (b,I m bw) (by simp),rfl,?_,rfl,rfl⟩;simp
noncomputable def rx (w:aG)(a b cO bw:y)(l m dH:B ag)(ap:aK ag)(al:l.length+m.length<1000000)(he:l++m=dH) :cV w:=⟨0,_,ap,_,_,_,_,_,Zs (w:=w) (a:=a) (b:=b) (cO:=cO) (bw:=bw) (ap:=ap) al he⟩
noncomputable abbrev q7 (n6 n7:ag) :ao:={cls:=.type "slice",data:=.fields ⟨[n6,n7,.none]⟩}
theorem FO {a b cO:y}{l dH:B ag}{n6 n7:ag}{bf aF:aK ai}{ap:aK ag}(al:l.length<1000000)(nd:IsPart n6 bf)(aci:IsPart n7 aF)(he:At ⟨l⟩ bf aF none=⟨dH⟩) :
  b0 w 0 (.builtin "list.__getitem__" ⟨[.ref a,.ref b],[]⟩) ap [(a,I l cO),(b,q7 n6 n7)] (λx=>.ok (.ret (.ref (x 2)))) (λ_=>[I l cO,q7 n6 n7]) (λx=>[(x 2,I dH 0)]) (λ_=>bZ):=by
 refine Lk (pre:=[(a,I l cO),(b,q7 n6 n7)]) (λA s aS has=>?_) rfl;have b1:=has (a,I l cO) (by simp);have oJ:=has (b,q7 n6 n7) (by simp);have JX:s.TypeIs (.ref b) "slice":=⟨_,oJ,rfl⟩;refine h5 IW λei Q E gG dh dC iB=>?_;show wpAny _ _ (xW (.ref b) >>= _) _ _ s;refine bE ?_;unfold xW;refine bE (PC JX slice_no_index ?_);simp only [Option.isNone_none,if_true];refine wpAny_pure ?_;show wpAny _ _ (typeOf (.ref b) >>= _) _ _ s;refine bE (Gk JX ?_);rw [dt (by decide)];rw [listSliceParts_eq];refine bE (bE (p3 oJ rfl (x:=.none) rfl (bE (PA .none ?_))));rw [dt (show ¬ ((rawPart none==rawInt 0)=true) from xV)];refine bE (p3 oJ rfl (x:=n6) rfl (bE (PA nd ?_)));refine bE (p3 oJ rfl (x:=n7) rfl (bE (PA aci (wpAny_pure ?_))));refine bE (m:=vg (.ref a)) ?_;unfold vg;refine bE (u8 b1 rfl (wpAny_pure ?_));refine bE (xP (sliceIndices_raw bf aF none _ (by simp)) ?_);have hz:=slicePick_size_le (⟨l⟩ :cp ag) bf aF none;refine bE (sJ (wpAny_pure (dh _ _ ⟨rfl,?_,rfl,rfl⟩)) (gh hz (by rw [jr];simp;omega)));show s.heap.push {cls:=.type "list",data:=.seq (At ⟨l⟩ bf aF none)}=_;exact H he rfl
theorem aem (l:B ag)(q:y) :At ⟨l⟩ none (some (q:ai)) none=⟨l.take q⟩:=by exact H (slicePick_upto' ..) rfl
theorem aek (l:B ag)(q:y) :At ⟨l⟩ (some (q:ai)) none none=⟨l.drop q⟩:=by exact H (slicePick_from' ..) rfl
noncomputable def B2 (w:aG)(a b cO t q:y)(nZ:ai)(l:B ag)(ap:aK ag)(a4:nZ=(q:ai))(al:l.length<1000000) :cV w:=
 ⟨0,_,ap,_,_,_,_,_,FO (w:=w) (a:=a) (b:=b) (cO:=cO) (l:=l) (n6:=.none) (n7:=.int nZ t) (ap:=ap) al .none (.int _ _) (by subst a4;exact aem l q)⟩
noncomputable def HY (w:aG)(a b cO t q:y)(nZ:ai)(l:B ag)(ap:aK ag)(a4:nZ=(q:ai))(al:l.length<1000000) :cV w:=
 ⟨0,_,ap,_,_,_,_,_,FO (w:=w) (a:=a) (b:=b) (cO:=cO) (l:=l) (n6:=.int nZ t) (n7:=.none) (ap:=ap) al (.int _ _) .none (by subst a4;exact aek l q)⟩
end
section
noncomputable def WE (w:aG)(G bq aw U cH cG ce M ab ae ak aD a0 b7 a5 cd i am q iI:y)(br:cp (aK ag))(aq:i1)(V:B a6)(aC:B fG)(l:B ag)(hz:jy w aq V)(eN:V.length<1000)(dY:decide (ay i∈V)=true)(pA:ef aC (ay i)=some (.int (q:ai) iI))(tJ:(ef aC (ay i)).isSome=true)(al:l.length<1000)(n t:y) :bb w:=
  .ax [1,1,3,3,3] [0,2] 0 (tg w cG am aq V (ay i) true none hz eN dY) [2] λah=>.ax [1,1,4,4,4] [0,2] 0 (HP w ce cd am aC (ay i) true none tJ) [3] λaN=>.ax (aY 0x14444111) [0,2] 0 (qk w ce cd am aC (ay i) (.int (↑q) iI) none pA) [3] λbx=>.ax [2,2,2,2] [0,2] 1 (HY w U (bx 0) a5 iI q (↑q) l none rfl (by first | omega | (simp;done) | (simp;omega))) [1,4] λcj=>.ax [1,6,7,6,6] [0,2] 1 (rx w (cj 2) (cj 0) 0 0 (qe q l) [.str (ay i) am] (qe q l++[PySem.Value.str (ay i) am]) none (by first | omega | (simp;done) | (simp;omega)) rfl) [5,6] λcg=>.bd [] [] 0 (.ret (.ok (.ret (.ref (cg 2))))) [(0,hU w.params br bq aw U cH cG ce M ab ae ak aD a0 b7 (ay i) am),(1,I l a5),(2,eY aq),(3,bT w.params aC cd),(7,I (qe q l++[PySem.Value.str (ay i) am]) 0)]
theorem WF (w:aG)(G bq aw U cH cG ce M ab ae ak aD a0 b7 a5 cd i am q iI:y)(br:cp (aK ag))(aq:i1)(V:B a6)(aC:B fG)(l:B ag)(hz:jy w aq V)(eN:V.length<1000)(dY:decide (ay i∈V)=true)(pA:ef aC (ay i)=some (.int (q:ai) iI))(tJ:(ef aC (ay i)).isSome=true)(al:l.length<1000) :eu w none 3 none ([(G,hU w.params br bq aw U cH cG ce M ab ae ak aD a0 b7 (ay i) am),(U,I l a5),(cG,eY aq),(ce,bT w.params aC cd)]) ([]) (rP G) (wr k8.1 (mD k8.2.1 0) (hk G)) (WE w G bq aw U cH cG ce M ab ae ak aD a0 b7 a5 cd i am q iI br aq V aC l hz eN dY pA tJ al):=c6
section
variable (w:aG)(G bq aw U cH cG ce M ab ae ak aD a0 b7 a5 bt cd cO i am cb aE bn er bl:y)(Z:ai)(br:cp (aK ag))(aq:i1)(V:B a6)(aC ns:B fG)(l m:B ag)(aa:B (y×y))(hz:jy w aq V)(eN:V.length<1000)(dY:decide (ay i∈V)=true)(pA:(ef aC (ay i)).isSome=false)
noncomputable def WG (n t:y) :bb w:=
  .ax [1,1,2,2,2] [0,2] 0 (tg w cG am aq V (ay i) true none hz eN dY) [1] λah=>.ax [1,1,3,3,3] [0,2] 0 (HP w ce cd am aC (ay i) false none pA) [2] λaN=>.bd [] [] 0 (.ret (.ok .next)) [(0,hU w.params br bq aw U cH cG ce M ab ae ak aD a0 b7 (ay i) am),(1,eY aq),(2,bT w.params aC cd)]
theorem WH:eu w none 3 none ([(G,hU w.params br bq aw U cH cG ce M ab ae ak aD a0 b7 (ay i) am),(cG,eY aq),(ce,bT w.params aC cd)]) ([]) (rP G) (wr k8.1 (mD k8.2.1 0) (hk G)) (WG w bq aw U cH cG ce M ab ae ak aD a0 b7 cd i am br aq V aC hz eN dY pA):=c6
section
variable (dY:decide (ay i∈V)=false)(pA:ef aC (ay i)=none)(bu:ef ns (ay i)=some (.ref bn))(al:l.length<1000000)(aU:m.length<1000000)(tJ:aC.length<1000000)
noncomputable def WI (n t:y) :bb w:=
  .ax [1,1,4,4,4] [0,2] 0 (tg w cG am aq V (ay i) false none hz eN dY) [3] λah=>.ax (aY 0x14144441) [0,2] 0 (R3 w cG am aq V (ay i) none hz eN dY) [3] λaN=>.ax (aY 0x16666110033331) [0,2] 0 (qk w aw 12 am ns (ay i) (.ref bn) none bu) [5] λbx=>.ax (aY 0x1399999998887070000070000000000070007) (aY 0x12000000000000000) 2 (hS w cH bt m (m++[PySem.Value.ref (bx 0+1)]) (.ref (bx 0+1)) none aU rfl) [2] λcj=>.ax [0,0,1] [0,2] 0 (kz w U a5 l l.length none rfl al) [1] λcg=>.ax [1,1,5,5,5] [0,2] 0 (HS w ce cd am aC (ay i) (.int (↑l.length) (cg 2)) none tJ pA) [4] λfc=>.ax (aY 0x12122221) [0,2] 0 (hS w U a5 l (l++[PySem.Value.str (ay i) am]) (.str (ay i) am) none al rfl) [1] λfS=>.bd [] [] 0 (.ret (.ok .next)) [(0,hU w.params br bq aw U cH cG ce M ab ae ak aD a0 b7 (ay i) am),(1,I (l++[PySem.Value.str (ay i) am]) (a5+1)),(2,I (m++[PySem.Value.ref (bx 0+1)]) (bt+1)),(3,eY (p6 w.params aq (ay i) am)),(4,bT w.params (aC++[(ay i,am,PySem.Value.int (↑l.length) (cg 2))]) (cd+1)),(5,bT w.params ns 12),(6,fP (ay i) cb Z aE er bl),(7,ip aa cO),(8,{cls:=(.type "list_iterator"),data:=(.fields ⟨[.ref bl,.int 0 0]⟩)}),(9,{cls:=(.type "method-wrapper"),data:=(.fields ⟨[.builtin "list_iterator.__next__",.ref (bx 0)]⟩)})]
theorem WJ:eu w none 3 none ([(G,hU w.params br bq aw U cH cG ce M ab ae ak aD a0 b7 (ay i) am),(U,I l a5),(cH,I m bt),(cG,eY aq),(ce,bT w.params aC cd),(aw,bT w.params ns 12),(bn,fP (ay i) cb Z aE er bl),(bl,ip aa cO)]) ([]) (rP G) (wr k8.1 (mD k8.2.1 0) (hk G)) (WI w bq aw U cH cG ce M ab ae ak aD a0 b7 a5 bt cd cO i am cb aE bn er bl Z br aq V aC ns l m aa hz eN dY pA bu al aU tJ):=by revert w;refine nk λw fe fI hE hF=>?_;rcases fe with _ | _ <;> (intro hz F n t;kernel_rfl)
end
end
variable {w:aG}
noncomputable def kN (aI:y->B (y×y)) :B (y×y)->aK ((y×y)×B (y×y))
 | []=>none
 | (i,q)::ac=>match (aI i)[q]? with
  | some p=>some (p,(i,q+1)::ac)
  | none=>kN aI ac
noncomputable def kr (aI:y->B (y×y)) :y->B (y×y)->B y->y->aK (bW×B y)
 | 0,_,_,_=>none
 | n+1,ac,V,i=>if i∈V/\i∈ac.map (·.1) then some (true,V) else
  match kN aI (if i∈V then ac else (i,0)::ac) with
  | none=>some (false,if i∈V then V else V++[i])
  | some (p,e0)=>kr aI n e0 (if i∈V then V else V++[i]) p.1
noncomputable def kx (ba:B eK) :B (y×y):=ba.map λf=>(f.i,f.pos)
theorem N3 {aa:y->B (y×y)} :∀ {ba:B eK},lp aa ba=none->kN aa (kx ba)=none
 | [],_=>rfl
 | f::ba,h=>by
  unfold lp at h;show (match (aa f.i)[f.pos]? with | some p=>some (p,(f.i,f.pos+1)::kx ba) | none=>kN aa (kx ba))=none
  induction L:(aa f.i)[f.pos]? with
  | some p=>rw [L] at h;injection h
  | none=>rw [L] at h;exact N3 h
theorem N4 {aa:y->B (y×y)}{p:y×y}{ji:eK}{l2:B eK} :∀ {ba:B eK},lp aa ba=some (p,ji,l2)->kN aa (kx ba)=some (p,kx (ji::l2))
 | [],h=>by injection h
 | f::ba,h=>by
  unfold lp at h;show (match (aa f.i)[f.pos]? with | some p=>some (p,(f.i,f.pos+1)::kx ba) | none=>kN aa (kx ba))=_
  induction L:(aa f.i)[f.pos]? with
  | some p=>rw [L] at h;rcases h with _ | _;rfl
  | none=>rw [L] at h;exact N4 h
theorem N2 {aa:y->B (y×y)}{p:y×y}{ji:eK}{l2:B eK} :∀ {ba:B eK},lp aa ba=some (p,ji,l2)->(∃ f∈ba,p∈aa f.i)/\(∃ f∈ba,ji.gc=f.gc/\ji.J=f.J)/\∀ aI∈l2,aI∈ba
 | [],h=>by injection h
 | f::ba,h=>by
  unfold lp at h
  induction L:(aa f.i)[f.pos]? with
  | some q=>rw [L] at h;rcases h with _ | _;exact ⟨⟨f,by simp,x4 L⟩,⟨f,by simp,rfl,rfl⟩,λaI b3=>dG _ b3⟩
  | none=>rw [L] at h;obtain ⟨⟨a,bY,e⟩,⟨b,aQ,ev⟩,c⟩:=N2 h;exact ⟨⟨a,dG _ bY,e⟩,⟨b,dG _ aQ,ev⟩,λaI b3=>dG _ (c aI b3)⟩
theorem N1 {aa:y->B (y×y)}{p:y×y}{ji:eK}{l2:B eK} :∀ {ba:B eK},lp aa ba=some (p,ji,l2)->∃ f A,ba=A++f::l2/\ji={f with pos:=f.pos+1}/\f.pos<(aa f.i).length
 | [],h=>by injection h
 | f::ba,h=>by
  unfold lp at h
  induction L:(aa f.i)[f.pos]? with
  | some q=>rw [L] at h;rcases h with _ | _;exact ⟨f,[],rfl,rfl,(vm.mp L).1⟩
  | none=>rw [L] at h;obtain ⟨aI,A,a5,bt,cd⟩:=N1 h;exact ⟨aI,f::A,by refine H a5 ?_;rfl,bt,cd⟩
noncomputable def VO:c2:=oX k8.2.1[1]?
theorem CJ (G:aM) :rP G= .whileLoop k8.1 [mD k8.2.1 0,.While qv.1 qv.2.1 qv.2.2 VO] k8.2.2 (hk G):=by kernel_rfl
end
section
variable {w:aG}
theorem K4 {i:y}(aF:i<12) :∀ {ba:B eK},(∀ f∈ba,f.i<12)->(ba.map (·.i)).Nodup->i∈ba.map (·.i)->∃ (q iI:y),ef (gi ba) (ay i)=some (.int (q:ai) iI)
 | [],_,_,h=>by cases h
 | f::ba,cq,bK,h=>by
  rw [hd,gy] at bK;have v7:∀ aI∈ba,aI.i<12:=λaI b3=>cq aI (dG _ b3);have e6:∀ aI∈ba,aI.i≠f.i:=λaI b3 e=>bK.1 (e▸ep (f:=λf:eK=>f.i) b3);rcases dx.mp h with h | h
  ·exact ⟨ba.length,f.wT,by rw [h];exact K3 (cq f (by simp)) v7 e6⟩
  ·obtain ⟨q,iI,e⟩:=K4 aF v7 bK.2 h
   refine ⟨q,iI,?_⟩;unfold ef at e ⊢;rw [gi,List.find?_append]
   induction a7:List.find? (λe=>e.1==ay i) (gi ba) with
   | none=>rw [a7] at e;injection e
   | some x=>rw [a7] at e;exact e
theorem K5 {i:y}(aF:i<12){ba:B eK}(cq:∀ f∈ba,f.i<12)(h:i ∉ ba.map (·.i)) :ef (gi ba) (ay i)=none:=by
 unfold ef;rw [A8.mpr]
 ·rfl
 ·intro x bu
  refine H (B9 aF cq (λf a7 e=>h (e▸ep (f:=λf:eK=>f.i) a7)) x bu ..) ?_;simp
end
noncomputable abbrev es (T:kv)(aw k:y) :ao:={cls:=.type T,data:=.fields ⟨[.ref aw,.int (k:ai) 0,.int 12 0,.int 12 0]⟩}
section
section
variable (w:aG)(z:cs)(k i:y)(aF:i<12)(J:y)
section
include aF
noncomputable def Ta (n t:y) :bb w:=
  .bd (aY 0x1111112211) [0] 0 (.ret (.ok (.ret (.str (ay i) (z.cb i))))) (d4 [0,1] ([es "dict_keyiterator" z.aw (i+1),bT w.params (cQ z) 12]))
theorem Tb:b2 w 0 none ([(J,es "dict_keyiterator" z.aw i),(z.aw,bT w.params (cQ z) 12)]) (.builtin "dict_keyiterator.__next__" ⟨[.ref J],[]⟩) (Ta w z i):=by rcases tY aF with rfl | rfl | rfl | rfl | rfl | rfl | rfl | rfl | rfl | rfl | rfl | rfl <;> (intro F n t;kernel_rfl)
end
noncomputable def S3 (n t:y) :bb w:=
  .bd (aY 0x11112211) [0] 2 (.ret (.error (.ref (n+1)))) [(0,{cls:=(.type "dict_keyiterator"),data:=(.fields ⟨[.none,.int 12 0,.int 12 0,.int 12 0]⟩)}),(1,bT w.params (cQ z) 12),(3,{cls:=(.type "StopIteration"),data:=(.fields ⟨[.ref n,.none,.none,.none,.bool false,.none]⟩)}),(2,{cls:=(.type "tuple"),data:=(.seq ⟨[]⟩ 0)})]
theorem S4:b2 w 0 none ([(J,es "dict_keyiterator" z.aw 12),(z.aw,bT w.params (cQ z) 12)]) (.builtin "dict_keyiterator.__next__" ⟨[.ref J],[]⟩) (S3 w z):=c6
noncomputable def S8 (n t:y) :bb w:=
  .bd [1,1,1] [0] 1 (.ret (.ok (.ret (.ref n)))) [(0,bT w.params (cQ z) 12),(1,{cls:=(.type "dict_keyiterator"),data:=(.fields ⟨[.ref (k+935),.int 0 0,.int 12 0,.int 12 0]⟩)})]
theorem S9:b2 w 0 none ([(k+935,bT w.params (cQ z) 12)]) (.builtin "dict.__iter__" ⟨[.ref (k+935)],[]⟩) (S8 w z k):=c6
section
include k
noncomputable def S6 (n t:y) :bb w:=
  .bd [1,1,1] [0] 1 (.ret (.ok (.ret (.ref n)))) [(0,bT w.params (cQ z) 12),(1,{cls:=(.type "dict_keyiterator"),data:=(.fields ⟨[.ref 894,.int 0 0,.int 12 0,.int 12 0]⟩)})]
theorem S7:b2 w 0 none ([(894,bT w.params (cQ z) 12)]) (.builtin "dict.__iter__" ⟨[.ref 894],[]⟩) (S6 w z):=c6
end
noncomputable def Vm (n t:y) :bb w:=
  .bd [1] [0] 1 (.ret (.ok (.ret (.ref n)))) [(0,bT w.params (cQ z) 12),(1,{cls:=(.type "dict_values"),data:=(.fields ⟨[.ref (k+935)]⟩)})]
theorem Vn:b2 w 0 none ([(k+935,bT w.params (cQ z) 12)]) (.builtin "dict.values" ⟨[.ref (k+935)],[]⟩) (Vm w z k):=c6
end
variable {w:aG}
theorem Tc {z:cs}{i J:y}(aF:i<12) :b0 w 0 (.builtin "dict_keyiterator.__next__" ⟨[.ref J],[]⟩) none [(J,es "dict_keyiterator" z.aw i),(z.aw,bT w.params (cQ z) 12)] (λ_=>.ok (.ret (.str (ay i) (z.cb i)))) (λ_=>[es "dict_keyiterator" z.aw (i+1),bT w.params (cQ z) 12]) (λ_=>[]) (λ_=>bZ):=
 dy (Tb w z i aF J) (λn t X c d=>ca c d []) λn t X c d=>⟨by kernel_rfl,rfl,trivial⟩
theorem S5 {z:cs}{J:y} :b0 w 0 (.builtin "dict_keyiterator.__next__" ⟨[.ref J],[]⟩) none [(J,es "dict_keyiterator" z.aw 12),(z.aw,bT w.params (cQ z) 12)] (λx=>.error (.ref (x 2))) (λ_=>[{cls:=.type "dict_keyiterator",data:=.fields ⟨[.none,.int 12 0,.int 12 0,.int 12 0]⟩},bT w.params (cQ z) 12])
  (λx=>[(x 2,{cls:=.type "StopIteration",data:=.fields ⟨[.ref (x 3),.none,.none,.none,.bool false,.none]⟩}),(x 3,{cls:=.type "tuple",data:=.seq ⟨[]⟩ 0})]) (λ_=>bZ):=
 dy (S4 w z J) (λn t X c d=>ca c d [n+1,n]) λn t X c d=>⟨by kernel_rfl,rfl,trivial⟩
theorem CW {aw:y}(h:935<=aw∨aw=894) :(∃ k,aw=k+935)∨aw=894:=by
 rcases h with h | h
 ·exact .inl ⟨aw - 935,by omega⟩
 ·exact .inr h
theorem SV {z:cs}{aw:y} :b0 w 0 (.builtin "dict.__iter__" ⟨[.ref aw],[]⟩) none [(aw,bT w.params (cQ z) 12)] (λx=>.ok (.ret (.ref (x 2)))) (λ_=>[bT w.params (cQ z) 12]) (λx=>[(x 2,es "dict_keyiterator" aw 0)]) (λ_=>bZ):=λA s aS has bU=>by
 rcases CW (bU.free aw (by simp)) with ⟨k,rfl⟩ | rfl
 ·exact dy (bB:=λx=>.ok (.ret (.ref (x 2)))) (cB:=λ_=>[bT w.params (cQ z) 12]) (bV:=λx=>[(x 2,es "dict_keyiterator" (k+935) 0)]) (cond:=λ_=>bZ) (S9 w z k) (λn t X c d=>ca c d [n]) (λn t X c d=>⟨by kernel_rfl,rfl,trivial⟩) A s aS has bU
 ·exact dy (bB:=λx=>.ok (.ret (.ref (x 2)))) (cB:=λ_=>[bT w.params (cQ z) 12]) (bV:=λx=>[(x 2,es "dict_keyiterator" 894 0)]) (cond:=λ_=>bZ) (S7 w z 0) (λn t X c d=>ca c d [n]) (λn t X c d=>⟨by kernel_rfl,rfl,trivial⟩) A s aS has bU
noncomputable def BU (w:aG)(z:cs)(i J:y)(aF:i<12) :cV w:=⟨0,_,none,_,_,_,_,_,Tc (w:=w) (z:=z) (J:=J) aF⟩
noncomputable def Rj (w:aG)(z:cs)(J:y) :cV w:=⟨0,_,none,_,_,_,_,_,S5 (w:=w) (z:=z) (J:=J)⟩
noncomputable def Ri (w:aG)(z:cs)(aw:y) :cV w:=⟨0,_,none,_,_,_,_,_,SV (w:=w) (z:=z) (aw:=aw)⟩
end
section
variable {w:aG}
theorem eb.under {dg:aK (B cE)}{bj oO:y}{A:c9}{ap:aK ag}{s:aR}{b:B c5}{env:cE}(h:eb w dg bj A ap s)(al:oO+1<=bj) :eb w (dg.map (env::·)) oO (A.under (.func b env)) ap s:=by
 refine ⟨?_,?_,h.handled,h.it,h.size,?_⟩
 ·have:=h.depth
  show A.depth+1+40 * oO<=900;lia
 ·have:=h.units
  have eG:=F6 (.func b env);show A.units+Code.cUnits (.func b env)+200 * oO<=9000;have:u2 (.func b env)<=200:=by show _<=_;simp [u2]
  lia
 ·intro l e
  induction dg with
  | none=>injection e
  | some eH=>
   (injection e with d8;subst d8)
   show uH [env] A.frames=_;refine H (h.frames eH rfl ..) ?_;rfl
noncomputable def VR:c2:=oX kf.2.2.1[1]?
theorem yO (G J:aM) :qt G J= .forLoop kf.1 (.ref J) [mD kf.2.2.1 0,.While k8.1 k8.2.1 k8.2.2 VR] [] (hk G):=by kernel_rfl
noncomputable def Jb:B c5:=(e7 13 8).2.1.take 5
noncomputable def tA:B c5:=(e7 13 8).2.1.drop 6
noncomputable def Ja:c2:=oX (e7 13 8).2.1[5]?
noncomputable abbrev vZ (G:aM) :cn:=.func (e7 13 8).2.1 (hk G)
theorem VL:(e7 13 8).2.1=Jb++.For kf.1 kf.2.1 kf.2.2.1 [] Ja::tA:=by kernel_rfl
noncomputable abbrev qu (P:bp)(bq:cp (aK ag))(s M:y) :ao:={cls:=.type "frame",data:=.dict ⟨[aj P gv M (.ref s)]⟩ 1,slots:=bq}
noncomputable def CH:y×c2×c2:=(Of (kP tA[0]? 0),kO (kP tA[0]? 0),oX tA[0]?)
theorem VP:tA=[.Return (some (.Constant .none CH.1 CH.2.1)) CH.2.2]:=by kernel_rfl
theorem VQ {A:c9}{env:cE}{s:aR}{Q:kt->aR->Prop}{E:ag->aR->Prop}(h:Q (.ret .none) s) :wpAny (model aL w) A (execs tA env) Q E s:=by refine H (VP ..) ?_;unfold execs;exact bE (wpAny_Return_some (wpAny_Constant_none (wpAny_pure h)))
end
section
section
variable (w:aG)(z:cs)(i:y)(aF:i<12)(J G bq U cH cG ce M ar au:y)(aH:ag)(aP aO:ai)(ab ae ak aD a0 b7 j o3:y)(br:cp (aK ag))(aq:i1)(V:B a6)(hz:jy w aq V)(eN:V.length<1000)(dY:decide (ay i∈V)=false)
noncomputable def VT (n t:y) :bb w:=
  .ax [1,1] [0,2] 0 (BU w z i J aF) [0,1] λah=>.ax (aY 0x14443333) [0,2] 0 (tg w cG (z.cb i) aq V (ay i) false none hz eN dY) [3] λaN=>.bd [] [] 0 (.ret (.ok .next)) [(0,es "dict_keyiterator" z.aw (i+1)),(1,bT w.params (cQ z) 12),(2,{cls:=(.type "frame"),data:=(.dict ⟨[aj w.params gv M (.ref bq),aj w.params kM ab (.ref z.aw),aj w.params w3 ae (.ref U),aj w.params xr ak (.ref cH),aj w.params w5 aD (.ref cG),aj w.params xg a0 (.ref ce),aj w.params lo (ah 1) (.str (ay i) (z.cb i))]⟩ 7),slots:=br}),(3,eY aq)]
theorem VU:eu w none 3 none ([(J,es "dict_keyiterator" z.aw i),(z.aw,bT w.params (cQ z) 12),(G,yP w.params br bq z.aw U cH cG ce M ab ae ak aD a0),(cG,eY aq)]) ([]) (qt G J) (mY kf.1 (.ref J) (mD kf.2.2.1 0) (hk G)) (VT w z i aF J bq U cH cG ce M ab ae ak aD a0 br aq V hz eN dY):=c6
noncomputable def VV (n t:y) :bb w:=
  .ax [1,1] [0,2] 0 (BU w z i J aF) [0,1] λah=>.ax (aY 0x14443333) [0,2] 0 (tg w cG (z.cb i) aq V (ay i) false none hz eN dY) [3] λaN=>.bd [] [] 0 (.ret (.ok .next)) (d4 [0,1,2,3] ([es "dict_keyiterator" z.aw (i+1),bT w.params (cQ z) 12,hU w.params br bq z.aw U cH cG ce M ab ae ak aD a0 b7 (ay i) (z.cb i),eY aq]))
theorem VW:eu w none 3 none ([(J,es "dict_keyiterator" z.aw i),(z.aw,bT w.params (cQ z) 12),(G,hU w.params br bq z.aw U cH cG ce M ab ae ak aD a0 b7 (ay j) o3),(cG,eY aq)]) ([]) (qt G J) (mY kf.1 (.ref J) (mD kf.2.2.1 0) (hk G)) (VV w z i aF J bq U cH cG ce M ab ae ak aD a0 b7 br aq V hz eN dY):=c6
section
variable (dY:decide (ay i∈V)=true)
noncomputable def VZ (n t:y) :bb w:=
  .ax [1,1] [0,2] 0 (BU w z i J aF) [0,1] λah=>.ax (aY 0x14443333) [0,2] 0 (tg w cG (z.cb i) aq V (ay i) true none hz eN dY) [3] λaN=>.bd [] [] 0 (.ret (.ok .cont)) (d4 [0,1,2,3] ([es "dict_keyiterator" z.aw (i+1),bT w.params (cQ z) 12,hU w.params br bq z.aw U cH cG ce M ab ae ak aD a0 b7 (ay i) (z.cb i),eY aq]))
theorem V0:eu w none 3 none ([(J,es "dict_keyiterator" z.aw i),(z.aw,bT w.params (cQ z) 12),(G,hU w.params br bq z.aw U cH cG ce M ab ae ak aD a0 b7 (ay j) o3),(cG,eY aq)]) ([]) (qt G J) (mY kf.1 (.ref J) (mD kf.2.2.1 0) (hk G)) (VZ w z i aF J bq U cH cG ce M ab ae ak aD a0 b7 br aq V hz eN dY):=c6
end
noncomputable def VX (n t:y) :bb w:=
  .ax [1,1] [0,2] 0 (Rj w z J) [0,1] λah=>.bd [4] [] 0 (.ret (.ok .brk)) [(0,{cls:=(.type "dict_keyiterator"),data:=(.fields ⟨[.none,.int 12 0,.int 12 0,.int 12 0]⟩)}),(1,bT w.params (cQ z) 12),(2,hU w.params br bq z.aw U cH cG ce M ab ae ak aD a0 b7 (ay j) o3)]
theorem VY:eu w none 3 none ([(J,es "dict_keyiterator" z.aw 12),(z.aw,bT w.params (cQ z) 12),(G,hU w.params br bq z.aw U cH cG ce M ab ae ak aD a0 b7 (ay j) o3)]) ([]) (qt G J) (mY kf.1 (.ref J) (mD kf.2.2.1 0) (hk G)) (VX w z J bq U cH cG ce M ab ae ak aD a0 b7 j o3 br):=c6
noncomputable def Wt (n t:y) :bb w:=
  .ax (aY 0x144411111777777001111113022000200021) sj 4 (Ri w z z.aw) [3] λah=>.bd [9] [] 0 (.ret (.ok (.ret (.ref (ah 2))))) [(0,{cls:=(.type "frame"),data:=(.dict ⟨[aj w.params gv M (.ref z.s),aj w.params kM (t+1) (.ref z.aw),aj w.params w3 (t+2) (.ref n),aj w.params xr (t+3) (.ref (n+1)),aj w.params w5 (t+4) (.ref (n+2)),aj w.params xg (t+5) (.ref (n+3))]⟩ 6),slots:=br}),(1,el z.bs),(2,en w.params z.M z.ab z.ae z.ak z.aw aH aP ar aO au),(3,bT w.params (cQ z) 12),(4,{cls:=(.type "list"),data:=(.seq ⟨[]⟩ 0)}),(5,{cls:=(.type "list"),data:=(.seq ⟨[]⟩ 0)}),(6,{cls:=(.type "set"),data:=(PySem.Data.set #[] 0 (PySem.SetTable.fresh 0 0 !w.params.followText "set-order"))}),(7,{cls:=(.type "dict"),data:=(.dict ⟨[]⟩ 0)}),(8,es "dict_keyiterator" z.aw 0)]
theorem Wu:eu w none 4 none ([(G,qu w.params br z.s M),(z.s,el z.bs),(z.bs,en w.params z.M z.ab z.ae z.ak z.aw aH aP ar aO au),(z.aw,bT w.params (cQ z) 12)]) ([]) (vZ G) (Jt Jb Ja kf.2.1 (hk G)) (Wt w z M ar au aH aP aO br):=by revert w;exact cX
end
end
section
theorem nD (r:dl) :(bP r).map (·.1)=r.map (·.2.1):=by rw [bP,mM];rfl
section
variable {b s:aR}{aB:B aM}{S R:B bN}{A:c9}{E:ag->aR->Prop}{Q:Unit->aR->Prop}{C a:ag}{vs:B ag}{env:cE}{f bH:aM}{o:ao}{r:dl}{bo:rm}
theorem bz.Ly {ch yy:dl}{cI cy dz:ao}{ct:gg}(oU:bz b aB s S)(cL:B y)(hs:nc cL S.length=true/\(ko S cL).flatten=bP ch++[(bH,cI)]/\oY S.length S cL=R)(pz:935<=s.heap.objs.size)(J3:yy.map (·.2.1)=ch.map (·.2.1))(mi:dX ct (bP yy))(nJ:ct.get? bH=some cy)(qG:ct.get? s.heap.objs.size=some dz)
  (aV:∀ b o',b≠bH->b ∉ ch.map (·.2.1)->s.heap.get? b=some o'->ct.get? b=some o')(hz:ct.objs.size=s.heap.objs.size+1) :bz b aB {s with heap:=ct} ([(bH,cy)]::[(s.heap.objs.size,dz)]::bP yy::R):=by
 refine fp λfx dk=>?_;obtain ⟨qC,al,a9⟩:=hs;have L:S.flatten.Perm ((bP ch++[(bH,cI)])++R.flatten):=by refine df al (df a9 (df (kY ..) ?_));exact (wM qC).flatten
 have LB:bz b aB s [bP ch++[(bH,cI)]]:=oU.q9 (l:=R.flatten) (by refine H (fz ..) (H (h2 ..) (H (d9 ..) ?_));exact L);have bK:=LB.bU.e8;rw [fz,h2,d9,c0,nD] at bK;obtain ⟨iV,ce,iF⟩:=fA.mp bK;refine dk ?_;have bu:bH ∉ ch.map (·.2.1):=λaU=>iF bH aU bH (dN.mpr rfl) rfl;have lt:∀ c∈(bP ch++[(bH,cI)]).map (·.1),c<s.heap.objs.size:=λc k=>LB.lt (by refine H (fz ..) (H (h2 ..) (H (d9 ..) ?_));exact k);have gV:∀ c∈ch.map (·.2.1),c∈(bP ch++[(bH,cI)]).map (·.1):=λc k=>by refine H (c0 ..) (H (nD ..) ?_);exact eS _ k
 have Ez:bH∈(bP ch++[(bH,cI)]).map (·.1):=by refine H (c0 ..) ?_;exact eJ _ (dN.mpr rfl)
 have b1:nu s ((bP ch++[(bH,cI)]).map (·.1)) {s with heap:=ct} ([(bH,cy),(s.heap.objs.size,dz)]++bP yy):=by
  refine ⟨λp k=>?_,?_,λp k=>?_⟩
  ·rcases dU.mp k with k | k
   ·rcases dx.mp k with rfl | k
    ·exact nJ
    ·refine H (dN.mp k ..) ?_;exact qG
   ·exact mi p k
  ·refine H (c0 ..) (H (nD ..) (H J3 ?_))
   refine fA.mpr ⟨gy.mpr ⟨λk=>?_,gy.mpr ⟨c4,mO⟩⟩,iV,λc k d lQ e=>?_⟩
   ·exact absurd (lt bH Ez) (j9.mpr (vp (dN.mp k).symm))
   ·subst e
    rcases dx.mp k with k | k
    ·have ae:_ =bH:=k
     exact bu (ae▸lQ)
    ·exact absurd (lt c (gV c lQ)) (j9.mpr (vp (dN.mp k).symm))
  ·rcases dU.mp k with k | k
   ·rcases dx.mp k with rfl | k
    ·exact .inl Ez
    ·refine H (dN.mp k ..) ?_;exact .inr (fk _)
   ·exact .inl (gV _ (by refine df J3 (df (nD ..) ?_);exact ep k))
 have zr:fy s {s with heap:=ct} ((bP ch++[(bH,cI)]).map (·.1)):=by refine ⟨λc gd e bK=>aV c gd (λe=>bK (e▸Ez)) (λk=>bK (gV c k)) e,by show _<=ct.objs.size;refine H hz ?_;exact rp _,rfl,[],rfl,λ_ h=>(c4 h).elim⟩
 exact (oU.frame L b1 zr pz).cast (by rw [fz,fz,fz,fz];rfl)
theorem bz.Lv (oU:bz b aB s S){cL:B y}{T:B (aM×ao)}(hs:nc cL S.length=true)(al:(ko S cL).flatten=bP ((env,f,o)::r)++T) :dX s.heap (bP ((env,f,o)::r))/\dX s.heap T/\(((env,f,o)::r).map (·.2.1)).Nodup/\(T.map (·.1)).Nodup/\∀ p∈T,p.1 ∉ ((env,f,o)::r).map (·.2.1):=by have cI:=oU.kn cL hs;have az:=cI.has;have fB:=cI.bU.e8;rw [al] at az fB;rw [c0,nD] at fB;refine fp λfx dk=>?_;obtain ⟨iV,ce,iF⟩:=fA.mp fB;refine dk ?_;exact ⟨λp k=>az p (eS _ k),λp k=>az p (eJ _ k),iV,ce,λp L k=>iF _ k _ (ep L) rfl⟩
theorem bz.Lu (oU:bz b aB s S)(cL:B y)(hs:nc cL S.length=true/\(ko S cL).flatten=bP ((env,f,o)::r)++[(bH,iz C a .none vs)]/\oY S.length S cL=R)(pz:935<=s.heap.objs.size)(jm:A.frames=some (env::r.map (·.1)))(aX:eg ((env,f,o)::r))
  (h:∀ ct da e3 bh,ph e3->bz b aB {s with heap:=ct} ([(bH,iz C a (.ref bh) vs)]::[(bh,fv .none f .none e3)]::bP (eR da ((env,f,o)::r))::R)->Q () {s with heap:=ct}) :
  wpAny bo A (oT (.ref bH) env) (λ_ pT=>wpAny bo A (pR (.ref bH) none) Q E pT) E s:=by
 refine fp λfx dk=>?_;obtain ⟨dV,fj,hN,_,zW⟩:=oU.Lv hs.1 hs.2.1;refine dk ?_;exact Lx jm aX dV hN (fj _ (dN.mpr rfl)) (zW _ (dN.mpr rfl)) λct da e3 gl mi nJ qG aV hz=>h ct da e3 _ gl (oU.Ly cL hs pz (uO da _) mi nJ qG aV hz)
theorem bz.abA {b9 gk:aM}{bG:ag}{q6:B ag}(oU:bz b aB s S)(cL:B y)(j:y)(dB:S.getD j []=[(b9,fv bG gk .none q6)])(XX:nc (cL++[j]) S.length=true)(hs:nc cL S.length=true/\(ko S cL).flatten=bP ((env,f,o)::r)++[(bH,iz C a (.ref b9) vs)]/\oY S.length S cL=R)(pz:935<=s.heap.objs.size)(jm:A.frames=some (env::r.map (·.1)))(aX:eg ((env,f,o)::r))
  (h:∀ ct da e3 bh,ph e3->bz b aB {s with heap:=ct} ([(bH,iz C a (.ref bh) vs)]::[(bh,fv (.ref b9) f .none e3)]::bP (eR da ((env,f,o)::r))::R)->Q () {s with heap:=ct}) :
  wpAny bo A (oT (.ref bH) env) (λ_ pT=>wpAny bo A (pR (.ref bH) none) Q E pT) E s:=by
 refine fp λfx dk=>?_;obtain ⟨dV,fj,hN,sg,zW⟩:=oU.Lv (cL:=cL++[j]) (T:=[(bH,iz C a (.ref b9) vs)]++[(b9,fv bG gk .none q6)]) XX (by show ((cL++[j]).map λi=>S.getD i []).flatten=_;rw [c0,kY,<- f9];show (ko S cL).flatten++(S.getD j []++[])=_;exact H hs.2.1 (H dB (H (d9 ..) rfl)));refine dk ?_;have r9:(bH,iz C a (.ref b9) vs)∈[(bH,iz C a (.ref b9) vs)]++[(b9,fv bG gk .none q6)]:=.head _;have t0:(b9,fv bG gk .none q6)∈[(bH,iz C a (.ref b9) vs)]++[(b9,fv bG gk .none q6)]:=.tail _ (.head _);exact abB jm aX dV hN (fj _ r9) (zW _ r9) (fj _ t0) (λe=>(gy.mp sg).1 (by refine df e ?_;exact dN.mpr rfl)) (zW _ t0) λct da e3 gl mi nJ qG aV hz=>h ct da e3 _ gl (oU.Ly cL hs pz (uO da _) mi nJ qG aV hz)
end
end
section
variable {w:aG}
noncomputable def xz (br:cp (aK ag)) :bW:=(br.getD 3 none).isSome
noncomputable def iw (G:aM)(br:cp (aK ag))(r:dl)(ft:cp (aK ag))(cz:dl) :Prop:=
 (ft=br/\cz=r)∨(xz br=false/\xz ft=true/\∃ da,ft=xA (hk G) (l6 da r) br/\cz=eR da r)
theorem iw.refl {G:aM}{br:cp (aK ag)}{r:dl} :iw G br r br r:=.inl ⟨rfl,rfl⟩
theorem iw.trans {G:aM}{br ft OP:cp (aK ag)}{r cz Oh:dl}(az:iw G br r ft cz)(aJ:iw G ft cz OP Oh) :iw G br r OP Oh:=by
 rcases az with ⟨rfl,rfl⟩ | ⟨a,b,c⟩
 ·exact aJ
 ·rcases aJ with ⟨rfl,rfl⟩ | ⟨d,_,_⟩
  ·exact .inr ⟨a,b,c⟩
  ·rw [b] at d;injection d
theorem iw.env {G:aM}{br ft:cp (aK ag)}{r cz:dl}(h:iw G br r ft cz) :cz.map (·.1)=r.map (·.1):=by
 rcases h with ⟨_,rfl⟩ | ⟨_,_,da,_,rfl⟩
 ·rfl
 ·exact Fz da r
theorem iw.ok {G:aM}{br ft:cp (aK ag)}{r cz:dl}(h:iw G br r ft cz)(a9:eg r) :eg cz:=by
 rcases h with ⟨_,rfl⟩ | ⟨_,_,da,_,rfl⟩
 ·exact a9
 ·exact a9.Fy
structure kW where
 (br:cp (aK ag))
 r:dl
 (i am a5 bt cd:y)
 ba:B eK
 aq:i1
noncomputable def fW (P:bp)(z:cs)(F:ly)(br:cp (aK ag))(i am:y) :ao:=hU P br F.bq z.aw F.U F.cH F.cG F.ce F.M F.ab F.ae F.ak F.aD F.a0 F.b7 (ay i) am
noncomputable def jS (P:bp)(z:cs)(S:cU)(F:ly)(X:kW)(dO:bN) :B bN:=[[(F.G,fW P z F X.br X.i X.am)],[(F.U,I (f6 X.ba) X.a5)],[(F.cH,I (gJ X.ba) X.bt)],[(F.ce,bT P (gi X.ba) X.cd)],bP X.r,jk z X.ba,bX P z S,[(F.cG,eY X.aq)],dO]
structure mJ (S:cU)(ba:B eK) :Prop where
 fK:∀ f∈ba,f.i<12
 wI:(ba.map (·.i)).Nodup
 pos:∀ f∈ba,f.pos<=(S.aa f.i).length
 len:ba.length<800
theorem mJ.tail {S:cU}{f:eK}{ba:B eK}(h:mJ S (f::ba)) :mJ S ba:=⟨λaI b3=>h.fK aI (dG _ b3),(gy.mp h.wI).2,λaI b3=>h.pos aI (dG _ b3),vq h.len⟩
theorem mJ.next {S:cU}{f:eK}{ba:B eK}(h:mJ S (f::ba))(L:f.pos+1<=(S.aa f.i).length) :mJ S ({f with pos:=f.pos+1}::ba):=by
 refine ⟨λaI b3=>?_,h.wI,λaI b3=>?_,h.len⟩
 ·rcases dx.mp b3 with rfl | b3
  ·exact h.fK f (cY ..)
  ·exact h.fK aI (dG _ b3)
 ·rcases dx.mp b3 with rfl | b3
  ·exact L
  ·exact h.pos aI (dG _ b3)
theorem mJ.names {S:cU}{f:eK}{ba:B eK}(h:mJ S (f::ba)) :(∀ aI∈ba,aI.i<12)/\∀ aI∈ba,aI.i≠f.i:=
 ⟨λaI b3=>h.fK aI (dG _ b3),λaI b3 e=>(gy.mp h.wI).1 (show f.i∈ba.map (·.i) by refine df e ?_;exact ep (f:=λf:eK=>f.i) b3)⟩
theorem La (P:bp)(z:cs)(S:cU){i:y}(h:i<12) :(z.bl i,ip (S.aa i) (S.K i))∈bX P z S:=eJ _ (eJ _ (ep (f:=kj z S) (zM h)))
theorem acT {P:bp}{z:cs}{F:ly}{br:cp (aK ag)}{i am da:y}{r:dl} :∃ ft cz,iw F.G br r ft cz/\bP (eR da ((hk F.G,F.G,fW P z F br i am)::r))=(F.G,fW P z F ft i am)::bP cz:=by
 have e:mm (fW P z F br i am)=xz br:=rfl
 induction h:xz br with
 | true=>exact ⟨br,r,.refl,by unfold eR;refine H e (H h ?_);rfl⟩
 | false=>exact ⟨xA (hk F.G) (l6 da r) br,eR da r,.inr ⟨h,by unfold xz xA;simp,da,rfl,rfl⟩,by rw [eR,e,h];rfl⟩
section
variable {b:aR}{aB:B aM}{z:cs}{S:cU}{F:ly}{dO:bN}{A:c9}{bj:y}{aC:B cE}
theorem Jc {s:aR}{X:kW}{f:eK}{ba:B eK}(px:X.ba=f::ba)(aF:f.i<12)(o:bz b aB s (jS w.params z S F X dO)) :∃ af,bz b aB s ([(z.bl f.i,ip (S.aa f.i) (S.K f.i))]::af::[[(F.G,fW w.params z F X.br X.i X.am)],[(F.U,I (f6 (f::ba)) X.a5)],[(F.cH,I (gJ (f::ba)) X.bt)],[(f.gc,mu f.J)],[(f.J,b4 "list_iterator" (z.bl f.i) f.pos)],[(F.ce,bT w.params (gi (f::ba)) X.cd)],bP X.r,jk z ba,[(F.cG,eY X.aq)],dO])/\
  ∀ an Y,bz b aB an ([(z.bl f.i,ip (S.aa f.i) (S.K f.i))]::af::Y)->bz b aB an (bX w.params z S::Y):=by
 obtain ⟨br,r,i,am,a5,bt,cd,ac,aq⟩:=X;subst px;obtain ⟨af,cI,ix⟩:=bz.open ((o.kn (aY 0x1874352106) rfl).cast (dc:=bX w.params z S::[(F.G,fW w.params z F br i am)]::[(F.U,I (f6 (f::ba)) a5)]::[(F.cH,I (gJ (f::ba)) bt)]::[(f.gc,mu f.J)]::[(f.J,b4 "list_iterator" (z.bl f.i) f.pos)]::jk z ba::[(F.ce,bT w.params (gi (f::ba)) cd)]::bP r::[(F.cG,eY aq)]::dO::[]) (by kernel_rfl)) (La w.params z S aF);exact ⟨af,cI.eQ (aY 0x1ba7986543210) rfl rfl,λan Y h=>ix an Y h⟩
theorem Wd {s:aR}{R:cD->aR->Prop}{X:kW}{f:eK}{ba:B eK}(gI:3<=bj)(aS:eb w (some (hk F.G::aC)) bj A none b)(px:X.ba=f::ba)(aV:mJ S (f::ba))(a9:eg X.r)(he:X.r.map (·.1)=aC)(L:(S.aa f.i).length=f.pos)(o:bz b aB s (jS w.params z S F X dO))
  (ac:∀ an ft cz,iw F.G X.br X.r ft cz->bz b aB an (jS w.params z S F ⟨ft,cz,X.i,X.am,X.a5+1,X.bt+1,X.cd+1,ba,X.aq⟩ dO)->codeAny (model aL w) A (mX F.G) R an) :codeAny (model aL w) A (mX F.G) R s:=by
 obtain ⟨Lo,Lp⟩:=aV.names;have aF:=aV.fK f (cY ..);have hlen:=aV.len;rw [ed] at hlen;have oH:(f6 (f::ba)).length<1000:=by refine H (xL ..) (H (ed ..) ?_);omega
 have eC:(gJ (f::ba)).length<1000:=by refine H (D3 ..) (H (ed ..) ?_);omega
 have oI:(gi (f::ba)).length<1000000:=by refine H (B8 ..) (H (ed ..) ?_);omega
 have qD:(ef (gi (f::ba)) (ay f.i)).isSome=true:=by refine H (K3 aF Lo Lp ..) ?_;rfl
 obtain ⟨af,cI,ix⟩:=Jc px aF o;obtain ⟨v,eH,jh⟩ :∃ v eH,f6 (f::ba)=v::eH:=by induction h:f6 (f::ba) with | nil=>rw [Au] at h;exact absurd (vl.mp h).2 (λh=>(by injection h)) | cons v eH=>exact ⟨v,eH,rfl⟩
 obtain ⟨u,ms,tu⟩ :∃ v eH,gJ (f::ba)=v::eH:=by induction h:gJ (f::ba) with | nil=>rw [wu] at h;exact absurd (vl.mp h).2 (λh=>(by injection h)) | cons v eH=>exact ⟨v,eH,rfl⟩
 have gz:=Au f ba;have pr:=wu f ba;have I0:=VF aF Lo Lp;rw [jh] at cI oH gz;rw [tu] at cI eC pr;generalize gi (f::ba)=nE at cI oI qD I0;refine afa (VN F.G) (cZ:=λeX aA=>∃ bH cA,eX= .ok (.ret (.ref bH))/\bz b aB aA ([(bH,mW "StopIteration" (.ref cA) .none sC)]::[(F.G,fW w.params z F X.br X.i X.am)]::bP X.r::[(F.U,I (v::eH) X.a5)]::[(F.cH,I (u::ms) X.bt)]::[(F.ce,bT w.params nE X.cd)]::jk z ba::[(F.cG,eY X.aq)]::dO::[(z.bl f.i,ip (S.aa f.i) (S.K f.i))]::af::[])) ?_ ?_
 ·exact cI.fL (aY 0x1065432) (af:=[]) (R:=[af,[(F.ce,bT w.params nE X.cd)],bP X.r,jk z ba,[(F.cG,eY X.aq)],dO]) ⟨rfl,by kernel_rfl,by kernel_rfl⟩ (aS.eW gI λ_ h=>by injection h) (Wc w F.G F.bq z.aw F.U F.cH F.cG F.ce F.M F.ab F.ae F.ak F.aD F.a0 F.b7 X.a5 X.bt (z.bl f.i) (S.K f.i) f.gc f.J f.pos X.i X.am X.br v u eH ms (gJ ba) (S.aa f.i) (fh oH (by decide)) (fh eC (by decide)) pr (by refine H (de ..) ?_;exact L)) (f:=λ_ _ Y=>.ret (.ref (Y 2 2)))
   (cv:=λn t Y=>[[(F.G,fW w.params z F X.br X.i X.am)],[(F.U,I (v::eH) X.a5)],[(F.cH,I (u::ms) X.bt)],[(f.gc,mu f.J),(f.J,ee "list_iterator" f.pos)],[(z.bl f.i,ip (S.aa f.i) (S.K f.i))],[(Y 2 2,mW "StopIteration" (.ref (Y 2 3)) .none sC)],[(Y 2 3,{cls:=.type "tuple",data:=.seq ⟨[]⟩ 0})]]) (by intro n t X;kernel_rfl)
   λn t Y aA cy=>⟨Y 2 2,Y 2 3,rfl,cy.eQ (aY 0x174cba821905) rfl rfl⟩
 ·rintro r aA ⟨bH,cA,rfl,cy⟩
  refine ⟨_,rfl,?_⟩;have R9:eg ((hk F.G,F.G,fW w.params z F X.br X.i X.am)::X.r):=by
   intro c aX;rcases dx.mp aX with rfl | aX
   ·exact ⟨⟨rfl,by kernel_rfl,by kernel_rfl⟩,rfl⟩
   ·exact a9 c aX
  have nK:A.frames=some (hk F.G::X.r.map (·.1)):=by refine H he ?_;exact aS.frames _ rfl
  refine cy.Lu (C:=.type "StopIteration") (a:=.ref cA) (vs:=sC) [1,2,0] (R:=[[(F.U,I (v::eH) X.a5)],[(F.cH,I (u::ms) X.bt)],[(F.ce,bT w.params nE X.cd)],jk z ba,[(F.cG,eY X.aq)],dO,[(z.bl f.i,ip (S.aa f.i) (S.K f.i))],af]) ⟨rfl,by kernel_rfl,by kernel_rfl⟩ (cy.at aS).size nK R9 ?_;intro ct da e3 bh gl dz;obtain ⟨ft,cz,ia,Vu⟩:=acT (P:=w.params) (z:=z) (F:=F) (br:=X.br) (i:=X.i) (am:=X.am) (da:=da) (r:=X.r);rw [Vu] at dz;refine df (VM ..) ?_;have kH:=dz.cast (dc:=[(bH,mW "StopIteration" (.ref cA) (.ref bh) sC)]::[(bh,fv .none F.G .none e3)]::[(F.G,fW w.params z F ft X.i X.am)]::bP cz::[[(F.U,I (v::eH) X.a5)],[(F.cH,I (u::ms) X.bt)],[(F.ce,bT w.params nE X.cd)],jk z ba,[(F.cG,eY X.aq)],dO,[(z.bl f.i,ip (S.aa f.i) (S.K f.i))],af]) rfl;have bd:∀ {bi:aR} {cI cy:aM×ao},bz b aB bi ([[(F.G,fW w.params z F ft X.i X.am)],[(F.U,I (f6 ba) (X.a5+1))],[(F.cH,I (gJ ba) (X.bt+1))],[(F.ce,bT w.params (mV nE (ay f.i)) (X.cd+1))],[cI,cy]]++[bP cz,jk z ba,[(F.cG,eY X.aq)],dO,[(z.bl f.i,ip (S.aa f.i) (S.K f.i))],af])->(Except.ok Flow.next:cD)= .ok .next/\codeAny (model aL w) A (mX F.G) R bi:=λmv=>⟨rfl,ac _ ft cz ia ((ix _ _ (mv.eQ (aY 0x187653210a9) rfl rfl)).eQ (aY 0x1870654321) rfl (by unfold jS;refine df I0 ?_;rfl))⟩
  have wj:(v::eH).length<1000000:=fh oH (by decide);have Ds:(u::ms).length<1000000:=fh eC (by decide);rcases gl with rfl | ⟨az,aJ,bg,cS,as,aQ,bc,rfl⟩
  ·exact kH.fL (aY 0x1106542) (af:=[]) (R:=[bP cz,jk z ba,[(F.cG,eY X.aq)],dO,[(z.bl f.i,ip (S.aa f.i) (S.K f.i))],af]) ⟨rfl,by kernel_rfl,by kernel_rfl⟩ (aS.eW gI λ_ h=>by injection h) (V4 w F.G F.bq z.aw F.U F.cH F.cG F.ce F.M F.ab F.ae F.ak F.aD F.a0 F.b7 X.a5 X.bt X.cd X.i X.am f.i f.t bH bh cA ft (v::eH) (f6 ba) (u::ms) (gJ ba) f.gc nE wj gz Ds pr oI qD) (f:=λ_ _ _=>.next)
    (cv:=λn t Y=>[[(F.G,fW w.params z F ft X.i X.am)],[(F.U,I (f6 ba) (X.a5+1))],[(F.cH,I (gJ ba) (X.bt+1))],[(F.ce,bT w.params (mV nE (ay f.i)) (X.cd+1))],[(bH,mW "StopIteration" (.ref cA) (.ref bh) sC),(bh,fv .none F.G .none [.none,.none,.none,.none,.none,.none])]]) (by intro n t X;kernel_rfl) λn t Y bi mv=>bd mv
  ·rcases bc with rfl | ⟨c3,rfl⟩
   ·exact kH.fL (aY 0x1106542) (af:=[]) (R:=[bP cz,jk z ba,[(F.cG,eY X.aq)],dO,[(z.bl f.i,ip (S.aa f.i) (S.K f.i))],af]) ⟨rfl,by kernel_rfl,by kernel_rfl⟩ (aS.eW gI λ_ h=>by injection h) (V6 w F.G F.bq z.aw F.U F.cH F.cG F.ce F.M F.ab F.ae F.ak F.aD F.a0 F.b7 X.a5 X.bt X.cd X.i X.am f.i f.t bH bh cA az aJ bg cS aQ ft (v::eH) (f6 ba) (u::ms) (gJ ba) f.gc nE wj gz Ds pr oI qD) (f:=λ_ _ _=>.next)
     (cv:=λn t Y=>[[(F.G,fW w.params z F ft X.i X.am)],[(F.U,I (f6 ba) (X.a5+1))],[(F.cH,I (gJ ba) (X.bt+1))],[(F.ce,bT w.params (mV nE (ay f.i)) (X.cd+1))],[(bH,mW "StopIteration" (.ref cA) (.ref bh) sC),(bh,fv .none F.G .none [.int az 0,.int aJ 0,.int bg 0,.int cS 0,.none,.bool aQ])]]) (by intro n t X;kernel_rfl) λn t Y bi mv=>bd mv
   ·exact kH.fL (aY 0x1106542) (af:=[]) (R:=[bP cz,jk z ba,[(F.cG,eY X.aq)],dO,[(z.bl f.i,ip (S.aa f.i) (S.K f.i))],af]) ⟨rfl,by kernel_rfl,by kernel_rfl⟩ (aS.eW gI λ_ h=>by injection h) (V8 w F.G F.bq z.aw F.U F.cH F.cG F.ce F.M F.ab F.ae F.ak F.aD F.a0 F.b7 X.a5 X.bt X.cd X.i X.am f.i f.t bH bh cA az aJ bg cS aQ c3 ft (v::eH) (f6 ba) (u::ms) (gJ ba) f.gc nE wj gz Ds pr oI qD) (f:=λ_ _ _=>.next)
     (cv:=λn t Y=>[[(F.G,fW w.params z F ft X.i X.am)],[(F.U,I (f6 ba) (X.a5+1))],[(F.cH,I (gJ ba) (X.bt+1))],[(F.ce,bT w.params (mV nE (ay f.i)) (X.cd+1))],[(bH,mW "StopIteration" (.ref cA) (.ref bh) sC),(bh,fv .none F.G .none [.int az 0,.int aJ 0,.int bg 0,.int cS 0,.str c3 0,.bool aQ])]]) (by intro n t X;kernel_rfl) λn t Y bi mv=>bd mv
end
end
section
variable {w:aG}
section
variable {b:aR}{aB:B aM}{z:cs}{S:cU}{F:ly}{dO:bN}{A:c9}{bj:y}{aC:B cE}{e9:cp (aK ag)}{dQ:dl}
theorem Kx {R:cD->aR->Prop}(gI:3<=bj)(aS:eb w (some (hk F.G::aC)) bj A none b)(kC:eg dQ)(lO:dQ.map (·.1)=aC) :∀ (ba:B eK) {X:kW} {s:aR},X.ba=ba->iw F.G e9 dQ X.br X.r->mJ S ba->bz b aB s (jS w.params z S F X dO)->
  (∀ an ft cz a5 bt cd p ji l2,lp S.aa ba=some (p,ji,l2)->iw F.G e9 dQ ft cz->mJ S (ji::l2)->bz b aB an (jS w.params z S F ⟨ft,cz,p.1,p.2,a5,bt,cd,ji::l2,X.aq⟩ dO)->R (.ok .next) an)->
  (∀ an ft cz a5 bt cd,lp S.aa ba=none->iw F.G e9 dQ ft cz->bz b aB an (jS w.params z S F ⟨ft,cz,X.i,X.am,a5,bt,cd,[],X.aq⟩ dO)->R (.ok .brk) an)->
  codeAny (model aL w) A (mX F.G) R s
 | [],⟨br,r,i,am,a5,bt,cd,ba,aq⟩,s,px,ia,aV,o,bK,aQ=>by
  subst px;refine o.code [0,1] (af:=[]) (R:=[[(F.cH,I (gJ []) bt)],[(F.ce,bT w.params (gi []) cd)],bP r,jk z [],bX w.params z S,[(F.cG,eY aq)],dO]) ⟨rfl,by kernel_rfl,by kernel_rfl⟩ (aS.eW gI λ_ h=>by injection h) (V2 w F.G F.bq z.aw F.U F.cH F.cG F.ce F.M F.ab F.ae F.ak F.aD F.a0 F.b7 a5 i am br) (dw:=λ_ _ _=>.ret (.ok .brk))
   (cv:=λn t Y=>[[(F.G,fW w.params z F br i am)],[(F.U,I (f6 []) a5)]]) (by intro n t X;kernel_rfl) λn t Y aA cy=>aQ aA br r a5 bt cd rfl ia cy
 | f::ba,⟨br,r,i,am,a5,bt,cd,ac,aq⟩,s,px,ia,aV,o,bK,aQ=>by
  subst px
  induction L:(S.aa f.i)[f.pos]? with
  | none=>
   have nM:(S.aa f.i).length=f.pos:=Nat.le_antisymm (Qe.mp L) (aV.pos f (cY ..));have Yh:lp S.aa (f::ba)=lp S.aa ba:=by rw [lp,L]
   rw [Yh] at bK aQ;exact Wd gI aS rfl aV (ia.ok kC) (ia.env.trans lO) nM o λan ft cz Yt o'=>Kx gI aS kC lO ba (X:=⟨ft,cz,i,am,a5+1,bt+1,cd+1,ba,aq⟩) rfl (ia.trans Yt) aV.tail o' bK aQ
  | some p=>
   have hlen:=aV.len;have aF:=aV.fK f (cY ..);rw [ed] at hlen;have oH:(f6 (f::ba)).length<1000000:=by refine H (xL ..) (H (ed ..) ?_);omega
   have eC:(gJ (f::ba)).length<1000000:=by refine H (D3 ..) (H (ed ..) ?_);omega
   obtain ⟨af,cI,ix⟩:=Jc rfl aF o;obtain ⟨v,eH,jh⟩ :∃ v eH,f6 (f::ba)=v::eH:=by induction h:f6 (f::ba) with | nil=>rw [Au] at h;exact absurd (vl.mp h).2 (λh=>(by injection h)) | cons v eH=>exact ⟨v,eH,rfl⟩
   obtain ⟨u,ms,tu⟩ :∃ v eH,gJ (f::ba)=v::eH:=by induction h:gJ (f::ba) with | nil=>rw [wu] at h;exact absurd (vl.mp h).2 (λh=>(by injection h)) | cons v eH=>exact ⟨v,eH,rfl⟩
   have pr:=wu f ba;rw [jh] at cI oH;rw [tu] at cI eC pr;refine cI.code (aY 0x1065432) (af:=[]) (R:=[af,[(F.ce,bT w.params (gi (f::ba)) cd)],bP r,jk z ba,[(F.cG,eY aq)],dO]) ⟨rfl,by kernel_rfl,by kernel_rfl⟩ (aS.eW gI λ_ h=>by injection h) (Wa w F.G F.bq z.aw F.U F.cH F.cG F.ce F.M F.ab F.ae F.ak F.aD F.a0 F.b7 a5 bt (z.bl f.i) (S.K f.i) f.gc f.J f.pos i am p.1 p.2 br v u eH ms (gJ ba) (S.aa f.i) oH eC pr (by refine H (mL ..) (H L ?_);rfl)) (dw:=λ_ _ _=>.ret (.ok .next))
    (cv:=λn t Y=>[[(F.G,fW w.params z F br p.1 p.2)],[(F.U,I (v::eH) a5)],[(F.cH,I (u::ms) bt)],[(f.gc,mu f.J),(f.J,b4 "list_iterator" (z.bl f.i) (f.pos+1))],[(z.bl f.i,ip (S.aa f.i) (S.K f.i))]]) (by intro n t X;kernel_rfl)
    λn t Y aA cy=>bK aA br r a5 bt cd p {f with pos:=f.pos+1} ba (by rw [lp,L]) ia (aV.next (vm.mp L).1) ?_
   have dz:=(ix _ _ (cy.eQ (aY 0x1a9876321054) rfl rfl)).eQ (dc:=[[(F.G,fW w.params z F br p.1 p.2)],[(F.U,I (v::eH) a5)],[(F.cH,I (u::ms) bt)],[(F.ce,bT w.params (gi (f::ba)) cd)],bP r,[(f.gc,mu f.J),(f.J,b4 "list_iterator" (z.bl f.i) (f.pos+1))],jk z ba,bX w.params z S,[(F.cG,eY aq)],dO]) (aY 0x19807465321) rfl rfl;rw [<- jh,<- tu] at dz;exact dz.cast (by kernel_rfl)
end
end
section
variable {w:aG}
theorem Ng {dd:Type} :∀ {l af:B dd},l.Nodup->(∀ x∈l,x∈af)->∃ R,af.Perm (l++R)
 | [],af,_,_=>⟨af,.refl _⟩
 | x::l,af,bK,aU=>by
  obtain ⟨iV,ce⟩:=gy.mp bK;obtain ⟨u,v,rfl⟩:=GP (aU x (cY ..));obtain ⟨R,bJ⟩:=Ng (l:=l) (af:=u++v) ce λas c3=>by
   rcases dU.mp (aU as (dG _ c3)) with h | h
   ·exact eS _ h
   ·rcases dx.mp h with rfl | h
    ·exact absurd c3 iV
    ·exact eJ _ h
  exact ⟨R,vn.trans (bJ.cons x)⟩
theorem ED {V:B y}{i:y}(aF:i<12)(eN:∀ j∈V,j<12) :ay i∈V.map ay↔i∈V:=by
 constructor
 ·intro h
  obtain ⟨j,dB,e⟩:=fC.mp h;refine df (Lr (eN j dB) aF e ..) ?_;exact dB
 ·exact λh=>ep h
theorem Ht (ba:B eK) :(kx ba).map (·.1)=ba.map (·.i):=by unfold kx;refine H (mM ..) ?_;rfl
theorem aex (P:bp)(z:cs)(S:cU){i:y}(aF:i<12) :∃ R,(bX P z S).Perm ([(z.aw,bT P (cQ z) 12),(z.bn i,fP (ay i) (z.cb i) (S.Z i) (S.aE i) (z.er i) (z.bl i)),(z.bl i,ip (S.aa i) (S.K i))]++R):=by
 have d:∀ {a c:aM} {x as:ao},x.cls≠as.cls->(a,x)≠(c,as):=λh e=>h (fV (·.2.cls) e);refine Ng (gy.mpr ⟨λh=>?_,gy.mpr ⟨λh=>?_,gy.mpr ⟨c4,.nil⟩⟩⟩) λx bu=>?_
 ·rcases dx.mp h with h | h
  ·exact d (λe=>by injection e) h
  ·exact d (λe=>by injection e with e;revert e;decide) (dN.mp h)
 ·exact d (λe=>by injection e) (dN.mp h)
 ·rcases dx.mp bu with rfl | bu
  ·exact eS _ (.tail _ (.tail _ (.head _)))
  ·rcases dx.mp bu with rfl | bu
   ·exact eJ _ (eS _ (ep (f:=kl z S) (zM aF)))
   ·refine H (dN.mp bu ..) ?_
    exact La P z S aF
structure yg (w:aG)(S:cU)(G:aM)(e9:cp (aK ag))(dQ:dl)(X:kW)(V:B y)(n:y) :Prop where
 rel:iw G e9 dQ X.br X.r
 Gs:jy w X.aq (V.map ay)
 Jr:mJ S X.ba
 i:X.i<12
 lt:∀ j∈V,j<12
 Qy:V.length+n<900
 fT:X.ba.length+n<700
 GL:∀ f∈X.ba,f.i∈V
section
variable {b:aR}{aB:B aM}{z:cs}{S:cU}{F:ly}{dO:bN}{A:c9}{bj:y}{aC:B cE}{e9:cp (aK ag)}{dQ:dl}{R:cD->aR->Prop}{bB:bW×B y}
theorem OT (gI:3<=bj)(aS:eb w (some (hk F.G::aC)) bj A none b)(kC:eg dQ)(lO:dQ.map (·.1)=aC)(cm:∀ i<12,∀ p∈S.aa i,p.1<12){n:y}{X:kW}{V:B y}{s:aR}(h:yg w S F.G e9 dQ X V n)
  (hw:(match kN S.aa (kx X.ba) with | none=>some (false,V) | some (p,e0)=>kr S.aa n e0 V p.1)=some bB)(o:bz b aB s (jS w.params z S F X dO))
  (bO:∀ (dS:kW) an,yg w S F.G e9 dQ dS V n->kr S.aa n (kx dS.ba) V dS.i=some bB->bz b aB an (jS w.params z S F dS dO)->codeAny (model aL w) A (rP F.G) R an)
  (dP:bB=(false,V)->∀ an (dS:kW),iw F.G e9 dQ dS.br dS.r->dS.ba=[]->jy w dS.aq (V.map ay)->bz b aB an (jS w.params z S F dS dO)->R (.ok .next) an) :
  codeAny (model aL w) A (mX F.G) (λq bi=>(q= .ok .next/\codeAny (model aL w) A (rP F.G) R bi)∨(q= .ok .brk/\R (.ok .next) bi)) s:=by
 refine Kx gI aS kC lO X.ba rfl h.rel h.Jr o (λan ft cz a5 bt cd p ji l2 L ia aV o'=>.inl ⟨rfl,bO _ an ?_ ?_ o'⟩) λan ft cz a5 bt cd L ia o'=>?_
 ·obtain ⟨f,ei,e,rfl,io⟩:=N1 L
  obtain ⟨⟨aI,b3,XS⟩,_⟩:=N2 L;have al:=h.fT;rw [e,ea,ed] at al;refine ⟨ia,h.Gs,aV,cm aI.i (h.Jr.fK aI b3) p XS,h.lt,h.Qy,by refine H (ed ..) ?_;lia,λx bu=>?_⟩;rcases dx.mp bu with rfl | bu
  ·exact h.GL f (e▸eJ _ (cY ..))
  ·exact h.GL x (e▸eJ _ (dG _ bu))
 ·rw [N4 L] at hw
  exact hw
 ·rw [N3 L] at hw
  (injection hw with d8;subst d8)
  exact .inr ⟨rfl,dP rfl an ⟨ft,cz,X.i,X.am,a5,bt,cd,[],X.aq⟩ ia rfl h.Gs o'⟩
theorem Ge (gI:3<=bj)(aS:eb w (some (hk F.G::aC)) bj A none b)(kC:eg dQ)(lO:dQ.map (·.1)=aC)(cm:∀ i<12,∀ p∈S.aa i,p.1<12)
  (cM:∀ cJ,bB=(true,cJ)->∀ an (dS:kW) a (v:y×y) (l:B (y×y)),iw F.G e9 dQ dS.br dS.r->l.length<1000->bz b aB an [[(a,I ((v::l).map ad) 0)],[(F.G,fW w.params z F dS.br dS.i dS.am)],bP dS.r,bX w.params z S,dO]->R (.ok (.ret (.ref a))) an)
  (dP:∀ cJ,bB=(false,cJ)->∀ an (dS:kW),(∀ j∈cJ,j<12)->iw F.G e9 dQ dS.br dS.r->dS.ba=[]->jy w dS.aq (cJ.map ay)->bz b aB an (jS w.params z S F dS dO)->R (.ok .next) an) :
  ∀ (n:y) (X:kW) (V:B y) (s:aR),yg w S F.G e9 dQ X V n->kr S.aa n (kx X.ba) V X.i=some bB->bz b aB s (jS w.params z S F X dO)->codeAny (model aL w) A (rP F.G) R s
 | 0,_,_,_,_,hw,_=>(by injection hw)
 | n+1,⟨br,r,i,am,a5,bt,cd,ba,aq⟩,V,s,h,hw,o=>by
  have ⟨ia,hz,aV,aF,v8,J1,C5,C4⟩:=h;have tH:(V.map ay).length<1000:=by refine H (de ..) ?_;lia
  have bO:=Ge gI aS kC lO cm cM dP n;have eE:ba.length<700:=iK (jx ..) C5;by_cases eN:i∈V
  ·have dY:decide (ay i∈V.map ay)=true:=k5 ((ED aF v8).mpr eN)
   by_cases cq:i∈ba.map (·.i)
   ·
    have Yu:bB=(true,V):=by
     unfold kr at hw;rw [d1 ⟨eN,by refine H (Ht ..) ?_;exact cq⟩] at hw
     (injection hw with d8;subst d8)
     rfl
    obtain ⟨q,iI,a4⟩:=K4 aF aV.fK aV.wI cq;obtain ⟨v,l,e,wj⟩ :∃ (v:y×y) (l:B (y×y)),qe q (f6 ba)++[ad (i,am)]=(v::l).map ad/\l.length<1000:=by
     have g3:qe q (f6 ba)++[ad (i,am)]=(qe q (ba.map λf=>(f.i,f.t)).reverse++[(i,am)]).map ad:=by refine H (c0 ..) (H (List.map_drop ..) (H (List.map_reverse ..) (H (mM ..) ?_)));rfl
     have a5:(qe q (ba.map λf=>(f.i,f.t)).reverse).length<=ba.length:=by refine H (GY ..) (H (List.length_reverse ..) (H (de ..) ?_));exact Nat.sub_le ..
     cases h:qe q (ba.map λf=>(f.i,f.t)).reverse with
     | nil=>exact ⟨(i,am),[],by refine H g3 (H h ?_);rfl,by decide⟩
     | cons v l=>exact ⟨v,l++[(i,am)],by refine H g3 (H h ?_);rfl,by rw [h,ed] at a5;refine H (ea ..) (H (ig ..) ?_);lia⟩
    refine DW (CJ F.G) (cZ:=λeX aA=>∃ v,eX= .ok (.ret v)/\R (.ok (.ret v)) aA) ?_ λeX aA h=>.inl h;exact o.fL [0,1,7,3] (af:=[]) (R:=[[(F.cH,I (gJ ba) bt)],bP r,jk z ba,bX w.params z S,dO]) ⟨rfl,by kernel_rfl,by kernel_rfl⟩ (aS.eW gI λ_ h=>by injection h) (WF w F.G F.bq z.aw F.U F.cH F.cG F.ce F.M F.ab F.ae F.ak F.aD F.a0 F.b7 a5 cd i am q iI br aq (V.map ay) (gi ba) (f6 ba) hz tH dY a4 (by refine H a4 ?_;rfl) (by refine H (xL ..) ?_;lia)) (f:=λ_ _ Y=>.ret (.ref (Y 4 2)))
     (cv:=λn t Y=>[[(F.G,fW w.params z F br i am)],[(F.U,I (f6 ba) a5),(F.cG,eY aq),(F.ce,bT w.params (gi ba) cd)],[(Y 4 2,I (qe q (f6 ba)++[ad (i,am)]) 0)]]) (by intro n t X;kernel_rfl)
     λn t Y aA cy=>⟨_,rfl,cM V Yu aA ⟨br,r,i,am,0,0,0,[],aq⟩ _ v l ia wj (by refine df e ?_;exact cy.eQ [2,0,4,6,7] rfl rfl)⟩
   ·
    have zh:(match kN S.aa (kx ba) with | none=>some (false,V) | some (p,e0)=>kr S.aa n e0 V p.1)=some bB:=by unfold kr at hw;rw [dt (by refine H (Ht ..) ?_;exact λh=>cq h.2)] at hw;simp only [eN,if_true] at hw;exact hw
    refine DW (CJ F.G) (cZ:=λeX aA=>eX= .ok .next/\bz b aB aA (jS w.params z S F ⟨br,r,i,am,a5,bt,cd,ba,aq⟩ dO)) ?_ ?_
    ·exact o.fL [0,7,3] (af:=[]) (R:=[[(F.U,I (f6 ba) a5)],[(F.cH,I (gJ ba) bt)],bP r,jk z ba,bX w.params z S,dO]) ⟨rfl,by kernel_rfl,by kernel_rfl⟩ (aS.eW gI λ_ h=>by injection h) (WH w F.G F.bq z.aw F.U F.cH F.cG F.ce F.M F.ab F.ae F.ak F.aD F.a0 F.b7 cd i am br aq (V.map ay) (gi ba) hz tH dY (by refine H (K5 aF aV.fK cq ..) ?_;rfl)) (f:=λ_ _ _=>.next)
      (cv:=λn t Y=>[[(F.G,fW w.params z F br i am)],[(F.cG,eY aq)],[(F.ce,bT w.params (gi ba) cd)]]) (by intro n t X;kernel_rfl) λn t Y aA cy=>⟨rfl,cy.eQ (aY 0x1817652430) rfl rfl⟩
    ·rintro eX aA ⟨rJ,cy⟩
     refine .inr ⟨rJ,?_⟩;exact OT gI aS kC lO cm ⟨ia,hz,aV,aF,v8,fh (pd _) J1,fh (pd _) C5,C4⟩ zh cy (λdS an ct hw o=>bO dS V an ct hw o) λe an dS=>dP V e an dS v8
  ·
   have dY:decide (ay i∈V.map ay)=false:=md (λh=>eN ((ED aF v8).mp h));have cq:i ∉ ba.map (·.i):=λh=>by obtain ⟨f,a7,e⟩:=fC.mp h;exact eN (e▸C4 f a7)
   have zh:(match kN S.aa ((i,0)::kx ba) with | none=>some (false,V++[i]) | some (p,e0)=>kr S.aa n e0 (V++[i]) p.1)=some bB:=by unfold kr at hw;rw [dt (λh=>eN h.1)] at hw;simp only [eN,qJ] at hw;exact hw
   have J0:∀ j∈V++[i],j<12:=λj dB=>by
    rcases dU.mp dB with dB | dB
    ·exact v8 j dB
    ·rw [dN] at dB;refine H dB ?_;exact aF
   obtain ⟨af,bM⟩:=aex w.params z S aF;have cI:=((o.eQ (aY 0x1854372106) rfl rfl).uX (S:=[bX w.params z S]) (T:=[[(z.aw,bT w.params (cQ z) 12),(z.bn i,fP (ay i) (z.cb i) (S.Z i) (S.aE i) (z.er i) (z.bl i)),(z.bl i,ip (S.aa i) (S.K i))],af]) (Y:=[[(F.G,fW w.params z F br i am)],[(F.U,I (f6 ba) a5)],[(F.cH,I (gJ ba) bt)],[(F.cG,eY aq)],[(F.ce,bT w.params (gi ba) cd)],bP r,jk z ba,dO]) (by refine H (fz ..) (H (fz ..) (H (fz ..) (H (h2 ..) (H (d9 ..) (H (d9 ..) ?_)))));exact bM));refine DW (CJ F.G) (cZ:=λeX aA=>eX= .ok .next/\∃ dS,yg w S F.G e9 dQ dS (V++[i]) n/\kx dS.ba=(i,0)::kx ba/\bz b aB aA (jS w.params z S F dS dO)) ?_ ?_
   ·refine cI.fL (aY 0x1065432) (af:=[]) (R:=[af,bP r,jk z ba,dO]) ⟨rfl,by kernel_rfl,by kernel_rfl⟩ (aS.eW gI λ_ h=>by injection h) (WJ w F.G F.bq z.aw F.U F.cH F.cG F.ce F.M F.ab F.ae F.ak F.aD F.a0 F.b7 a5 bt cd (S.K i) i am (z.cb i) (S.aE i) (z.bn i) (z.er i) (z.bl i) (S.Z i) br aq (V.map ay) (gi ba) (cQ z) (f6 ba) (gJ ba) (S.aa i) hz tH dY (K5 aF aV.fK cq) (qP z aF) (by refine H (xL ..) ?_;lia) (by refine H (D3 ..) ?_;lia) (by refine H (B8 ..) ?_;lia)) (f:=λ_ _ _=>.next)
     (cv:=λn t Y=>[[(F.G,fW w.params z F br i am)],[(F.U,I (f6 ba++[ad (i,am)]) (a5+1))],[(F.cH,I (gJ ba++[.ref (Y 2 0+1)]) (bt+1))],[(F.cG,eY (p6 w.params aq (ay i) am))],[(F.ce,bT w.params (gi ba++[(ay i,am,.int ((f6 ba).length:ai) (Y 4 2))]) (cd+1))],[(z.aw,bT w.params (cQ z) 12),(z.bn i,fP (ay i) (z.cb i) (S.Z i) (S.aE i) (z.er i) (z.bl i)),(z.bl i,ip (S.aa i) (S.K i))],[(Y 2 0,b4 "list_iterator" (z.bl i) 0)],[(Y 2 0+1,mu (Y 2 0))]]) (by intro n t X;kernel_rfl)
     λkG t Y aA cy=>⟨rfl,⟨br,r,i,am,a5+1,bt+1,cd+1,⟨i,am,Y 2 0+1,Y 2 0,0,Y 4 2⟩::ba,p6 w.params aq (ay i) am⟩,⟨ia,?_,⟨λaI b3=>?_,gy.mpr ⟨cq,aV.wI⟩,λaI b3=>?_,?_⟩,aF,J0,?_,?_,λaI b3=>?_⟩,rfl,?_⟩
    ·refine H (c0 ..) ?_
     exact af1 hz
    ·rcases dx.mp b3 with rfl | b3
     ·exact aF
     ·exact aV.fK aI b3
    ·rcases dx.mp b3 with rfl | b3
     ·exact k1 _
     ·exact aV.pos aI b3
    ·refine H (ed ..) ?_;lia
    ·refine H (ea ..) (H (ig ..) ?_);lia
    ·show (_::ba).length+n<700
     have:ba.length+(n+1)<700:=C5;refine H (ed ..) ?_;lia
    ·rcases dx.mp b3 with rfl | b3
     ·exact eJ _ (dN.mpr rfl)
     ·exact eS _ (C4 aI b3)
    ·have dz:=(cy.eQ (aY 0x1b3a679421085) rfl rfl).uX (S:=[[(z.aw,bT w.params (cQ z) 12),(z.bn i,fP (ay i) (z.cb i) (S.Z i) (S.aE i) (z.er i) (z.bl i)),(z.bl i,ip (S.aa i) (S.K i))],af]) (T:=[bX w.params z S]) (Y:=[[(F.G,fW w.params z F br i am)],[(F.U,I (f6 ba++[ad (i,am)]) (a5+1))],[(F.cH,I (gJ ba++[.ref (Y 2 0+1)]) (bt+1))],[(F.ce,bT w.params (gi ba++[(ay i,am,.int ((f6 ba).length:ai) (Y 4 2))]) (cd+1))],bP r,[(Y 2 0+1,mu (Y 2 0))],[(Y 2 0,b4 "list_iterator" (z.bl i) 0)],jk z ba,[(F.cG,eY (p6 w.params aq (ay i) am))],dO]) (by refine H (fz ..) (H (fz ..) (H (fz ..) (H (h2 ..) (H (d9 ..) (H (d9 ..) ?_)))));exact bM.symm)
     have kH:=dz.eQ (dc:=[[(F.G,fW w.params z F br i am)],[(F.U,I (f6 ba++[ad (i,am)]) (a5+1))],[(F.cH,I (gJ ba++[.ref (Y 2 0+1)]) (bt+1))],[(F.ce,bT w.params (gi ba++[(ay i,am,.int ((f6 ba).length:ai) (Y 4 2))]) (cd+1))],bP r,[(Y 2 0+1,mu (Y 2 0))],[(Y 2 0,b4 "list_iterator" (z.bl i) 0)],jk z ba,bX w.params z S,[(F.cG,eY (p6 w.params aq (ay i) am))],dO]) (aY 0x1a9087654321) rfl rfl;rw [xL,<- Au ⟨i,am,Y 2 0+1,Y 2 0,0,Y 4 2⟩,<- wu ⟨i,am,Y 2 0+1,Y 2 0,0,Y 4 2⟩] at kH;exact kH.cast (by kernel_rfl)
   ·rintro eX aA ⟨rJ,dS,Xz,bY,cy⟩
    refine .inr ⟨rJ,?_⟩;rw [<- bY] at zh;exact OT gI aS kC lO cm Xz zh cy (λBI an ct hw o=>bO BI (V++[i]) an ct hw o) λe an BI=>dP (V++[i]) e an BI J0
end
end
section
variable {w:aG}
noncomputable def g5 (aI:y->B (y×y))(n:y) :B y->B y->aK (bW×B y)
 | V,[]=>some (false,V)
 | V,i::Kz=>if i∈V then g5 aI n V Kz else match kr aI n [] V i with
  | none=>none
  | some (true,cJ)=>some (true,cJ)
  | some (false,cJ)=>g5 aI n cJ Kz
theorem Gd {aI:y->B (y×y)}{b:bW}{cJ:B y} :∀ {n:y} {ac:B (y×y)} {V:B y} {i:y},kr aI n ac V i=some (b,cJ)->cJ.length<=V.length+n
 | 0,_,_,_,h=>by injection h
 | n+1,ac,V,i,h=>by
  have al:(if i∈V then V else V++[i]).length<=V.length+1:=by split <;> simp
  unfold kr at h;split at h
  ·(injection h with d8;injection d8 with d8 xT;subst d8 xT);lia
  ·split at h
   ·(injection h with d8;injection d8 with d8 xT;subst d8 xT);lia
   ·have:=Gd h;lia
section
variable {b:aR}{aB:B aM}{z:cs}{S:cU}{A:c9}{bj:y}{aC:B cE}{e9:cp (aK ag)}{dQ:dl}{R:cD->aR->Prop}{bB:bW×B y}{G M:y}
structure AT (w:aG)(b:aR)(aB:B aM)(z:cs)(S:cU)(G M:y)(e9:cp (aK ag))(dQ:dl)(R:cD->aR->Prop)(bB:bW×B y)(e:cD) :Prop where
 e2:∀ cJ,bB=(true,cJ)->∀ (F:ly) an (dS:kW) a (v:y×y) (l:B (y×y)),F.G=G->F.bq=z.s->F.M=M->iw G e9 dQ dS.br dS.r->l.length<1000->bz b aB an [[(a,I ((v::l).map ad) 0)],[(G,fW w.params z F dS.br dS.i dS.am)],bP dS.r,bX w.params z S]->R (.ok (.ret (.ref a))) an
 a7:∀ cJ,bB=(false,cJ)->∀ (F:ly) an (dS:kW),F.G=G->F.bq=z.s->F.M=M->iw G e9 dQ dS.br dS.r->bz b aB an [[(G,fW w.params z F dS.br dS.i dS.am)],bP dS.r,bX w.params z S]->R e an
noncomputable def q4 (P:bp)(z:cs)(S:cU) :bN:=[(z.s,el z.bs),(z.bs,en P z.M z.ab z.ae z.ak z.aw S.dD S.aP S.ar S.aO S.au)]
noncomputable def pQ (z:cs)(S:cU) :bN:=mn.map (kl z S)++mn.map (kj z S)
noncomputable def tz (P:bp)(z:cs)(S:cU)(F:ly)(eM:ao)(a5 bt cd:y)(r:dl)(aq:i1)(J p:y) :B bN:=[[(F.G,eM)],[(F.U,I [] a5),(F.cH,I [] bt),(F.ce,bT P [] cd)],bP r,q4 P z S,[(z.aw,bT P (cQ z) 12)],pQ z S,[(F.cG,eY aq)],[(J,es "dict_keyiterator" z.aw p)]]
structure PX (w:aG)(S:cU)(G:aM)(e9:cp (aK ag))(dQ:dl)(X:kW)(V:B y) :Prop where
 rel:iw G e9 dQ X.br X.r
 Gs:jy w X.aq (V.map ay)
 lt:∀ j∈V,j<12
 nil:X.ba=[]
theorem Js (gI:3<=bj){F:ly}(aS:eb w (some (hk F.G::aC)) bj A none b)(kC:eg dQ)(lO:dQ.map (·.1)=aC)(cm:∀ i<12,∀ p∈S.aa i,p.1<12){n:y}(bK:n<700){J:y}(gA:F.bq=z.s)(oA:F.M=M)(O:AT w b aB z S F.G M e9 dQ R bB (.ok .next)) :
  ∀ (q p:y) (V:B y) (X:kW) (s:aR),p+q=12->g5 S.aa n V (fH p q)=some bB->PX w S F.G e9 dQ X V->V.length+n * q<800->bz b aB s (jS w.params z S F X [(J,es "dict_keyiterator" z.aw p)])->codeAny (model aL w) A (qt F.G J) R s
 | 0,p,V,⟨br,r,i,am,a5,bt,cd,ba,aq⟩,s,Kj,a7,h,_,o=>by
  obtain rfl:p=12:=Kj
  (injection a7 with d8;subst d8)
  have ⟨ia,hz,eN,cq⟩:=h;subst cq;refine yT (yO F.G J) (cZ:=λeX aA=>eX= .ok .brk/\R (.ok .next) aA) ?_ λeX aA h=>.inl h;exact (o.cast (dc:=tz w.params z S F (fW w.params z F br i am) a5 bt cd r aq J 12) (by kernel_rfl)).fL [7,4,0] (af:=[]) (R:=[[(F.U,I [] a5),(F.cH,I [] bt),(F.ce,bT w.params [] cd)],bP r,q4 w.params z S,pQ z S,[(F.cG,eY aq)]]) ⟨rfl,by kernel_rfl,by kernel_rfl⟩ (aS.eW gI λ_ h=>by injection h) (VY w z J F.G F.bq F.U F.cH F.cG F.ce F.M F.ab F.ae F.ak F.aD F.a0 F.b7 i am br) (f:=λ_ _ _=>.brk)
   (cv:=λn t Y=>[[(J,{cls:=.type "dict_keyiterator",data:=.fields ⟨[.none,.int 12 0,.int 12 0,.int 12 0]⟩})],[(z.aw,bT w.params (cQ z) 12)],[(F.G,fW w.params z F br i am)]]) (by intro n t X;kernel_rfl)
   λn t Y aA cy=>⟨rfl,O.a7 V rfl F aA ⟨br,r,i,am,0,0,0,[],aq⟩ rfl gA oA ia ((cy.eQ (dc:=[[(F.G,fW w.params z F br i am)],bP r,q4 w.params z S,[(z.aw,bT w.params (cQ z) 12)],pQ z S]) [2,4,5,1,6] rfl rfl).cast (by kernel_rfl))⟩
 | q+1,p,V,⟨br,r,i,am,a5,bt,cd,ba,aq⟩,s,Kj,a7,h,J1,o=>by
  have L:p<12:=by lia
  have agy:n * (q+1)=n * q+n:=Nat.mul_succ n q;have ⟨ia,hz,eN,cq⟩:=h;subst cq;have tH:(V.map ay).length<1000:=by refine H (de ..) ?_;lia
  have bO:=Js gI aS kC lO cm bK gA oA O (J:=J) q (p+1);rw [List.range'_succ] at a7;unfold g5 at a7;have cI:=o.cast (dc:=tz w.params z S F (fW w.params z F br i am) a5 bt cd r aq J p) (by kernel_rfl);have bd:∀ {aA:aR},bz b aB aA ([[(J,es "dict_keyiterator" z.aw (p+1))],[(z.aw,bT w.params (cQ z) 12)],[(F.G,fW w.params z F br p (z.cb p))],[(F.cG,eY aq)]]++[[(F.U,I [] a5),(F.cH,I [] bt),(F.ce,bT w.params [] cd)],bP r,q4 w.params z S,pQ z S])->bz b aB aA (jS w.params z S F ⟨br,r,p,z.cb p,a5,bt,cd,[],aq⟩ [(J,es "dict_keyiterator" z.aw (p+1))]):=λcy=>(cy.eQ (dc:=tz w.params z S F (fW w.params z F br p (z.cb p)) a5 bt cd r aq J (p+1)) (aY 0x103716542) rfl rfl).cast (by kernel_rfl);by_cases ze:p∈V
  ·rw [d1 ze] at a7
   refine yT (yO F.G J) (cZ:=λeX aA=>eX= .ok .cont/\codeAny (model aL w) A (qt F.G J) R aA) ?_ λeX aA h=>.inr (.inl h);exact cI.fL [7,4,0,6] (af:=[]) (R:=[[(F.U,I [] a5),(F.cH,I [] bt),(F.ce,bT w.params [] cd)],bP r,q4 w.params z S,pQ z S]) ⟨rfl,by kernel_rfl,by kernel_rfl⟩ (aS.eW gI λ_ h=>by injection h) (V0 w z p L J F.G F.bq F.U F.cH F.cG F.ce F.M F.ab F.ae F.ak F.aD F.a0 F.b7 i am br aq (V.map ay) hz tH (k5 (ep ze))) (f:=λ_ _ _=>.cont)
    (cv:=λn t Y=>[[(J,es "dict_keyiterator" z.aw (p+1))],[(z.aw,bT w.params (cQ z) 12)],[(F.G,fW w.params z F br p (z.cb p))],[(F.cG,eY aq)]]) (by intro n t X;kernel_rfl)
    λn t Y aA cy=>⟨rfl,bO V ⟨br,r,p,z.cb p,a5,bt,cd,[],aq⟩ aA (by lia) a7 ⟨ia,hz,eN,rfl⟩ (by lia) (bd cy)⟩
  ·rw [dt ze] at a7
   induction pD:kr S.aa n [] V p with
   | none=>rw [pD] at a7;injection a7
   | some FA=>
    rw [pD] at a7;refine yT (yO F.G J) (cZ:=λeX aA=>eX= .ok .next/\bz b aB aA (jS w.params z S F ⟨br,r,p,z.cb p,a5,bt,cd,[],aq⟩ [(J,es "dict_keyiterator" z.aw (p+1))])) ?_ ?_
    ·exact cI.fL [7,4,0,6] (af:=[]) (R:=[[(F.U,I [] a5),(F.cH,I [] bt),(F.ce,bT w.params [] cd)],bP r,q4 w.params z S,pQ z S]) ⟨rfl,by kernel_rfl,by kernel_rfl⟩ (aS.eW gI λ_ h=>by injection h) (VW w z p L J F.G F.bq F.U F.cH F.cG F.ce F.M F.ab F.ae F.ak F.aD F.a0 F.b7 i am br aq (V.map ay) hz tH (md (λh=>ze ((ED L eN).mp h)))) (f:=λ_ _ _=>.next)
      (cv:=λn t Y=>[[(J,es "dict_keyiterator" z.aw (p+1))],[(z.aw,bT w.params (cQ z) 12)],[(F.G,fW w.params z F br p (z.cb p))],[(F.cG,eY aq)]]) (by intro n t X;kernel_rfl)
      λn t Y aA cy=>⟨rfl,bd cy⟩
    ·rintro eX aA ⟨rJ,cy⟩
     refine .inr (.inr ⟨rJ,?_⟩);refine Ge (bB:=FA) gI aS kC lO cm ?_ ?_ n ⟨br,r,p,z.cb p,a5,bt,cd,[],aq⟩ V aA ⟨ia,hz,⟨λ_ h=>((c4 h).elim),.nil,λ_ h=>((c4 h).elim),(by decide:0<800)⟩,L,eN,by lia,by show 0+n<700;lia,λ_ h=>((c4 h).elim)⟩ pD cy
     ·rintro cJ rfl an dS a v l az aJ dz
      (injection a7 with d8;subst d8)
      exact .inr ⟨_,rfl,O.e2 cJ rfl F an dS a v l rfl gA oA az aJ (dz.eQ [0,1,2,3] rfl rfl)⟩
     ·rintro cJ rfl an dS bG az aJ bg dz
      have al:=Gd pD;refine .inl ⟨rfl,?_⟩;exact bO cJ dS an (by lia) a7 ⟨az,bg,bG,aJ⟩ (by lia) dz
theorem Wp (gI:3<=bj){F:ly}(aS:eb w (some (hk F.G::aC)) bj A none b)(kC:eg dQ)(lO:dQ.map (·.1)=aC)(cm:∀ i<12,∀ p∈S.aa i,p.1<12){n:y}(bK:n<=60){J:y}(gA:F.bq=z.s)(oA:F.M=M)(O:AT w b aB z S F.G M e9 dQ R bB (.ok .next))
  {aq:i1}{s:aR}(a7:g5 S.aa n [] (fH 0 12)=some bB)(hz:jy w aq [])(o:bz b aB s (tz w.params z S F (yP w.params e9 F.bq z.aw F.U F.cH F.cG F.ce F.M F.ab F.ae F.ak F.aD F.a0) 0 0 0 dQ aq J 0)) :codeAny (model aL w) A (qt F.G J) R s:=by
 rw [show fH 0 12=0::fH 1 11 from rfl] at a7;unfold g5 at a7;rw [dt c4] at a7
 induction pD:kr S.aa n [] [] 0 with
 | none=>rw [pD] at a7;injection a7
 | some FA=>
  rw [pD] at a7;refine yT (yO F.G J) (cZ:=λeX aA=>eX= .ok .next/\∃ k,bz b aB aA (jS w.params z S {F with b7:=k} ⟨e9,dQ,0,z.cb 0,0,0,0,[],aq⟩ [(J,es "dict_keyiterator" z.aw 1)])) ?_ ?_
  ·exact o.fL [7,4,0,6] (af:=[]) (R:=[[(F.U,I [] 0),(F.cH,I [] 0),(F.ce,bT w.params [] 0)],bP dQ,q4 w.params z S,pQ z S]) ⟨rfl,by kernel_rfl,by kernel_rfl⟩ (aS.eW gI λ_ h=>by injection h) (VU w z 0 (by decide) J F.G F.bq F.U F.cH F.cG F.ce F.M F.ab F.ae F.ak F.aD F.a0 e9 aq [] hz (by decide) rfl) (f:=λ_ _ _=>.next)
    (cv:=λn t Y=>[[(J,es "dict_keyiterator" z.aw 1)],[(z.aw,bT w.params (cQ z) 12)],[(F.G,fW w.params z {F with b7:=Y 0 1} e9 0 (z.cb 0))],[(F.cG,eY aq)]]) (by intro n t X;kernel_rfl)
    λn t Y aA cy=>⟨rfl,Y 0 1,(cy.eQ (dc:=tz w.params z S F (fW w.params z {F with b7:=Y 0 1} e9 0 (z.cb 0)) 0 0 0 dQ aq J 1) (aY 0x103716542) rfl rfl).cast (by kernel_rfl)⟩
  ·rintro eX aA ⟨rJ,k,cy⟩
   refine .inr (.inr ⟨rJ,?_⟩);refine Ge (F:={F with b7:=k}) (bB:=FA) gI aS kC lO cm ?_ ?_ n ⟨e9,dQ,0,z.cb 0,0,0,0,[],aq⟩ [] aA ⟨.refl,hz,⟨λ_ h=>((c4 h).elim),.nil,λ_ h=>((c4 h).elim),(by decide:0<800)⟩,(by decide:0<12),λ_ h=>((c4 h).elim),by show 0+n<900;lia,by show 0+n<700;lia,λ_ h=>((c4 h).elim)⟩ pD cy
   ·rintro cJ rfl an dS a v l az aJ dz
    (injection a7 with d8;subst d8)
    exact .inr ⟨_,rfl,O.e2 cJ rfl {F with b7:=k} an dS a v l rfl gA oA az aJ (dz.eQ [0,1,2,3] rfl rfl)⟩
   ·rintro cJ rfl an dS bG az aJ bg dz
    have al:=Gd pD;rw [nt] at al;refine .inl ⟨rfl,?_⟩;exact Js (F:={F with b7:=k}) gI aS kC lO cm (by lia) gA oA O 11 1 cJ dS an rfl a7 ⟨az,bg,bG,aJ⟩ (by lia) dz
theorem Jh (kC:eg dQ)(cm:∀ i<12,∀ p∈S.aa i,p.1<12)(aS:eb w (some (dQ.map (·.1))) 4 A none b){s:aR}(a7:g5 S.aa 60 [] (fH 0 12)=some bB)(O:AT w b aB z S G M e9 dQ R bB (.ok (.ret .none)))(o:bz b aB s [[(G,qu w.params e9 z.s M)],bX w.params z S,bP dQ]) :codeAny (model aL w) A (vZ G) R s:=by
 refine WA VL (cZ:=λeX aA=>∃ (F:ly) (J:y) (wy:bW),eX= .ok (.ret (.ref J))/\F.G=G/\F.bq=z.s/\F.M=M/\bz b aB aA (tz w.params z S F (yP w.params e9 F.bq z.aw F.U F.cH F.cG F.ce F.M F.ab F.ae F.ak F.aD F.a0) 0 0 0 dQ ⟨[],0,.fresh 0 0 wy⟩ J 0)) ?_ ?_
 ·exact (o.cast (dc:=[[(G,qu w.params e9 z.s M)],[(z.s,el z.bs)],[(z.bs,en w.params z.M z.ab z.ae z.ak z.aw S.dD S.aP S.ar S.aO S.au)],[(z.aw,bT w.params (cQ z) 12)],pQ z S,bP dQ]) (by kernel_rfl)).fL [0,1,2,3] (af:=[]) (R:=[pQ z S,bP dQ]) ⟨rfl,by kernel_rfl,by kernel_rfl⟩ (aS.eW (fk _) λ_ h=>by injection h) (Wu w z G M S.ar S.au S.dD S.aP S.aO e9) (f:=λ_ _ Y=>.ret (.ref (Y 0 2)))
   (cv:=λn t Y=>[[(G,yP w.params e9 z.s z.aw n (n+1) (n+2) (n+3) M (t+1) (t+2) (t+3) (t+4) (t+5))],q4 w.params z S,[(z.aw,bT w.params (cQ z) 12)],[(n,I [] 0),(n+1,I [] 0)],[(n+2,eY ⟨[],0,.fresh 0 0 (!w.params.followText "set-order")⟩)],[(n+3,bT w.params [] 0)],[(Y 0 2,es "dict_keyiterator" z.aw 0)]]) (by intro n t X;kernel_rfl)
   λn t Y aA cy=>⟨⟨G,z.s,z.aw,n,n+1,n+2,n+3,M,t+1,t+2,t+3,t+4,t+5,0⟩,Y 0 2,!w.params.followText "set-order",rfl,rfl,rfl,rfl,(cy.kn (aY 0x1647218530) rfl).cast (by kernel_rfl)⟩
 ·rintro r aA ⟨F,J,wy,rfl,rfl,gA,oA,cy⟩
  refine ⟨_,rfl,?_⟩;exact Wp (A:=A.under (vZ F.G)) (F:=F) (fk 3) (aS.under (fk _)) kC rfl cm (fk _) gA oA ⟨λcJ e AU an dS a v l az aJ bg cS dI dz=>.inr ⟨_,rfl,O.e2 cJ e AU an dS a v l az aJ bg cS dI dz⟩,λcJ e AU an dS az aJ bg cS dz=>.inl ⟨rfl,VQ ⟨_,rfl,O.a7 cJ e AU an dS az aJ bg cS dz⟩⟩⟩ a7 (af3 wy) cy
end
end
section
variable {w:aG}
noncomputable def ts (l:B (y×y)) :B y:=l.flatMap λp=>[p.1,p.2]
noncomputable def tj (f:y->y) :y->B (y×y)
 | 0=>[]
 | n+1=>(f 0,f 1)::tj (λk=>f (k+2)) n
theorem Ip:∀ (l:B (y×y)) (f:y->y),(∀ k,f k=(ts l).getD k 0)->tj f l.length=l
 | [],_,_=>rfl
 | p::l,f,h=>by show (f 0,f 1)::tj (λk=>f (k+2)) l.length=p::l;refine H (Ip l (λk=>f (k+2)) λk=>h (k+2) ..) (H (h 0 ..) (H (h 1 ..) ?_));rfl
theorem Iq:∀ (n:y) (f:y->y),(tj f n).length=n
 | 0,_=>rfl
 | n+1,f=>by show (tj _ n).length+1=n+1;exact H (Iq n ..) rfl
noncomputable def pN (x:y->y) :B (y×y):=tj (λk=>x (19+k)) (min (x 18) 999)
theorem acg (x:y->y) :(pN x).length<1000:=by unfold pN;refine H (Iq ..) ?_;omega
noncomputable def OE (G:aM)(br:cp (aK ag))(r:dl) :y->cp (aK ag)
 | 0=>br
 | k+1=>xA (hk G) (l6 k r) br
noncomputable def gC (r:dl) :y->dl
 | 0=>r
 | k+1=>eR k r
noncomputable def CE (P:bp)(z:cs)(G M:y)(br:cp (aK ag))(r:dl)(x:y->y) :ao:=
 hU P (OE G br r (x 2)) z.s z.aw (x 3) (x 4) (x 5) (x 6) M (x 7) (x 8) (x 9) (x 10) (x 11) (x 12) (ay (x 13)) (x 14)
theorem Oo {G:aM}{br ft:cp (aK ag)}{r cz:dl}(h:iw G br r ft cz) :∃ c,ft=OE G br r c/\cz=gC r c:=by
 rcases h with ⟨rfl,rfl⟩ | ⟨_,_,da,rfl,rfl⟩
 ·exact ⟨0,rfl,rfl⟩
 ·exact ⟨da+1,rfl,rfl⟩
section
variable {z:cs}{S:cU}{G M:y}{br:cp (aK ag)}{r:dl}{cJ:B y}
theorem Wg (a7:g5 S.aa 60 [] (fH 0 12)=some (false,cJ))(cm:∀ i<12,∀ p∈S.aa i,p.1<12)(a9:eg r) :
  ec w (some (r.map (·.1))) 4 (vZ G) none ((G,qu w.params br z.s M)::bX w.params z S) [bP r] (λ_=>.ok (.ret .none)) (λx=>CE w.params z G M br r x::(bX w.params z S).map (·.2)) (λ_=>[]) (λx=>[bP (gC r (x 2))]) (λ_=>bZ):=λA s aS has bU=>by
 refine Jh (bB:=(false,cJ)) a9 cm aS a7 ⟨λ_ e=>(nomatch e),λV e F an X jj gA CB ia o=>?_⟩ (bz.pj (S:=[[(G,qu w.params br z.s M)],bX w.params z S,bP r]) (by kernel_rfl) has bU);refine fp λfx dk=>?_;obtain ⟨ft,cz,i,am,a5,bt,cd,ba,aq⟩:=X;obtain ⟨Ju,bq,aw,U,cH,cG,ce,D6,ab,ae,ak,aD,a0,b7⟩:=F;obtain ⟨c,rfl,rfl⟩:=Oo ia;refine dk ?_;subst gA;subst CB;exact ⟨ca an.heap.objs.size an.toks [c,U,cH,cG,ce,ab,ae,ak,aD,a0,b7,i,am],rfl,trivial,rfl,rfl,bz.ny (o.eQ [0,2,1] rfl rfl) rfl (by kernel_rfl)⟩
theorem Wh (a7:g5 S.aa 60 [] (fH 0 12)=some (true,cJ))(cm:∀ i<12,∀ p∈S.aa i,p.1<12)(a9:eg r) :
  ec w (some (r.map (·.1))) 4 (vZ G) none ((G,qu w.params br z.s M)::bX w.params z S) [bP r] (λx=>.ok (.ret (.ref (x 15)))) (λx=>CE w.params z G M br r x::(bX w.params z S).map (·.2)) (λx=>[(x 15,I (ad (x 16,x 17)::(pN x).map ad) 0)]) (λx=>[bP (gC r (x 2))]) (λ_=>bZ):=λA s aS has bU=>by
 refine Jh (bB:=(true,cJ)) a9 cm aS a7 ⟨λV e F an X a v l jj gA CB ia al o=>?_,λ_ e=>(nomatch e)⟩ (bz.pj (S:=[[(G,qu w.params br z.s M)],bX w.params z S,bP r]) (by kernel_rfl) has bU);refine fp λfx dk=>?_;obtain ⟨ft,cz,i,am,a5,bt,cd,ba,aq⟩:=X;obtain ⟨Ju,bq,aw,U,cH,cG,ce,D6,ab,ae,ak,aD,a0,b7⟩:=F;obtain ⟨c,rfl,rfl⟩:=Oo ia;refine dk ?_;subst gA;subst CB;have Yo:pN (ca an.heap.objs.size an.toks ([c,U,cH,cG,ce,ab,ae,ak,aD,a0,b7,i,am,a,v.1,v.2,l.length]++ts l))=l:=by unfold pN;have a5:min ((ca an.heap.objs.size an.toks ([c,U,cH,cG,ce,ab,ae,ak,aD,a0,b7,i,am,a,v.1,v.2,l.length]++ts l)) 18) 999=l.length:=Nat.min_eq_left (Nat.le_of_lt_succ al);refine H a5 ?_;refine Ip l _ λk=>?_;refine H (lB ..) ?_;rfl
 have cy:bz s (((G,qu w.params br z.s D6)::bX w.params z S).map (·.1)++([bP r] :B bN).flatten.map (·.1)) an [[(G,CE w.params z G D6 br r (ca an.heap.objs.size an.toks ([c,U,cH,cG,ce,ab,ae,ak,aD,a0,b7,i,am,a,v.1,v.2,l.length]++ts l)))],bX w.params z S,[(a,I (ad (v.1,v.2)::(pN (ca an.heap.objs.size an.toks ([c,U,cH,cG,ce,ab,ae,ak,aD,a0,b7,i,am,a,v.1,v.2,l.length]++ts l))).map ad) 0)],bP (gC r c)]:=by refine H Yo ?_;exact o.eQ [1,3,0,2] rfl rfl
 exact ⟨ca an.heap.objs.size an.toks ([c,U,cH,cG,ce,ab,ae,ak,aD,a0,b7,i,am,a,v.1,v.2,l.length]++ts l),rfl,trivial,rfl,rfl,bz.ny cy rfl (by kernel_rfl)⟩
end
end
section
section
variable (w:aG)(z:cs)(i:y)(aF:i<12)(J k aw v:y)
noncomputable def Vf (n t:y) :bb w:=
  .bd [1,2,2] [0] 1 (.ret (.ok (.ret (.ref n)))) [(0,{cls:=(.type "dict_values"),data:=(.fields ⟨[.ref (aw+935)]⟩)}),(1,bT w.params (cQ z) 12),(2,{cls:=(.type "dict_valueiterator"),data:=(.fields ⟨[.ref (aw+935),.int 0 0,.int 12 0,.int 12 0]⟩)})]
theorem Vg:b2 w 0 none ([(v,{cls:=.type "dict_values",data:=.fields ⟨[.ref (aw+935)]⟩}),(aw+935,bT w.params (cQ z) 12)]) (.builtin "dict_values.__iter__" ⟨[.ref v],[]⟩) (Vf w z aw):=c6
noncomputable def Vd (n t:y) :bb w:=
  .bd [1,2,2] [0] 1 (.ret (.ok (.ret (.ref n)))) [(0,{cls:=(.type "dict_values"),data:=(.fields ⟨[.ref 894]⟩)}),(1,bT w.params (cQ z) 12),(2,{cls:=(.type "dict_valueiterator"),data:=(.fields ⟨[.ref 894,.int 0 0,.int 12 0,.int 12 0]⟩)})]
theorem Ve:b2 w 0 none ([(v,{cls:=.type "dict_values",data:=.fields ⟨[.ref 894]⟩}),(894,bT w.params (cQ z) 12)]) (.builtin "dict_values.__iter__" ⟨[.ref v],[]⟩) (Vd w z):=c6
section
include k
noncomputable def Vk (n t:y) :bb w:=
  .bd [1] [0] 1 (.ret (.ok (.ret (.ref n)))) [(0,bT w.params (cQ z) 12),(1,{cls:=(.type "dict_values"),data:=(.fields ⟨[.ref 894]⟩)})]
theorem Vl:b2 w 0 none ([(894,bT w.params (cQ z) 12)]) (.builtin "dict.values" ⟨[.ref 894],[]⟩) (Vk w z):=c6
end
section
include aF
noncomputable def Vh (n t:y) :bb w:=
  .bd (aY 0x11111112211) [0] 0 (.ret (.ok (.ret (.ref (z.bn i))))) (d4 [0,1] ([es "dict_valueiterator" z.aw (i+1),bT w.params (cQ z) 12]))
theorem Vi:b2 w 0 none ([(J,es "dict_valueiterator" z.aw i),(z.aw,bT w.params (cQ z) 12)]) (.builtin "dict_valueiterator.__next__" ⟨[.ref J],[]⟩) (Vh w z i):=by rcases tY aF with rfl | rfl | rfl | rfl | rfl | rfl | rfl | rfl | rfl | rfl | rfl | rfl <;> (intro F n t;kernel_rfl)
end
noncomputable def Va (n t:y) :bb w:=
  .bd (aY 0x11112211) [0] 2 (.ret (.error (.ref (n+1)))) [(0,{cls:=(.type "dict_valueiterator"),data:=(.fields ⟨[.none,.int 12 0,.int 12 0,.int 12 0]⟩)}),(1,bT w.params (cQ z) 12),(3,{cls:=(.type "StopIteration"),data:=(.fields ⟨[.ref n,.none,.none,.none,.bool false,.none]⟩)}),(2,{cls:=(.type "tuple"),data:=(.seq ⟨[]⟩ 0)})]
theorem Vb:b2 w 0 none ([(J,es "dict_valueiterator" z.aw 12),(z.aw,bT w.params (cQ z) 12)]) (.builtin "dict_valueiterator.__next__" ⟨[.ref J],[]⟩) (Va w z):=c6
end
variable {w:aG}
noncomputable abbrev rH (aw:y) :ao:={cls:=.type "dict_values",data:=.fields ⟨[.ref aw]⟩}
theorem Vo {z:cs}{aw:y} :b0 w 0 (.builtin "dict.values" ⟨[.ref aw],[]⟩) none [(aw,bT w.params (cQ z) 12)] (λx=>.ok (.ret (.ref (x 2)))) (λ_=>[bT w.params (cQ z) 12]) (λx=>[(x 2,rH aw)]) (λ_=>bZ):=λA s aS has bU=>by
 rcases CW (bU.free aw (by simp)) with ⟨k,rfl⟩ | rfl
 ·exact dy (bB:=λx=>.ok (.ret (.ref (x 2)))) (cB:=λ_=>[bT w.params (cQ z) 12]) (bV:=λx=>[(x 2,rH (k+935))]) (cond:=λ_=>bZ) (Vn w z k) (λn t X c d=>ca c d [n]) (λn t X c d=>⟨by kernel_rfl,rfl,trivial⟩) A s aS has bU
 ·exact dy (bB:=λx=>.ok (.ret (.ref (x 2)))) (cB:=λ_=>[bT w.params (cQ z) 12]) (bV:=λx=>[(x 2,rH 894)]) (cond:=λ_=>bZ) (Vl w z 0) (λn t X c d=>ca c d [n]) (λn t X c d=>⟨by kernel_rfl,rfl,trivial⟩) A s aS has bU
theorem Vp {z:cs}{aw v:y} :b0 w 0 (.builtin "dict_values.__iter__" ⟨[.ref v],[]⟩) none [(v,rH aw),(aw,bT w.params (cQ z) 12)] (λx=>.ok (.ret (.ref (x 2)))) (λ_=>[rH aw,bT w.params (cQ z) 12]) (λx=>[(x 2,es "dict_valueiterator" aw 0)]) (λ_=>bZ):=λA s aS has bU=>by
 rcases CW (bU.free aw (by simp)) with ⟨k,rfl⟩ | rfl
 ·exact dy (bB:=λx=>.ok (.ret (.ref (x 2)))) (cB:=λ_=>[rH (k+935),bT w.params (cQ z) 12]) (bV:=λx=>[(x 2,es "dict_valueiterator" (k+935) 0)]) (cond:=λ_=>bZ) (Vg w z k v) (λn t X c d=>ca c d [n]) (λn t X c d=>⟨by kernel_rfl,rfl,trivial⟩) A s aS has bU
 ·exact dy (bB:=λx=>.ok (.ret (.ref (x 2)))) (cB:=λ_=>[rH 894,bT w.params (cQ z) 12]) (bV:=λx=>[(x 2,es "dict_valueiterator" 894 0)]) (cond:=λ_=>bZ) (Ve w z v) (λn t X c d=>ca c d [n]) (λn t X c d=>⟨by kernel_rfl,rfl,trivial⟩) A s aS has bU
theorem Vj {z:cs}{i J:y}(aF:i<12) :b0 w 0 (.builtin "dict_valueiterator.__next__" ⟨[.ref J],[]⟩) none [(J,es "dict_valueiterator" z.aw i),(z.aw,bT w.params (cQ z) 12)] (λ_=>.ok (.ret (.ref (z.bn i)))) (λ_=>[es "dict_valueiterator" z.aw (i+1),bT w.params (cQ z) 12]) (λ_=>[]) (λ_=>bZ):=
 dy (Vi w z i aF J) (λn t X c d=>ca c d []) λn t X c d=>⟨by kernel_rfl,rfl,trivial⟩
theorem Vc {z:cs}{J:y} :b0 w 0 (.builtin "dict_valueiterator.__next__" ⟨[.ref J],[]⟩) none [(J,es "dict_valueiterator" z.aw 12),(z.aw,bT w.params (cQ z) 12)] (λx=>.error (.ref (x 2))) (λ_=>[{cls:=.type "dict_valueiterator",data:=.fields ⟨[.none,.int 12 0,.int 12 0,.int 12 0]⟩},bT w.params (cQ z) 12])
  (λx=>[(x 2,{cls:=.type "StopIteration",data:=.fields ⟨[.ref (x 3),.none,.none,.none,.bool false,.none]⟩}),(x 3,{cls:=.type "tuple",data:=.seq ⟨[]⟩ 0})]) (λ_=>bZ):=
 dy (Vb w z J) (λn t X c d=>ca c d [n+1,n]) λn t X c d=>⟨by kernel_rfl,rfl,trivial⟩
noncomputable def HT (w:aG)(z:cs)(aw:y) :cV w:=⟨0,_,none,_,_,_,_,_,Vo (w:=w) (z:=z) (aw:=aw)⟩
noncomputable def HU (w:aG)(z:cs)(aw v:y) :cV w:=⟨0,_,none,_,_,_,_,_,Vp (w:=w) (z:=z) (aw:=aw) (v:=v)⟩
noncomputable def yp (w:aG)(z:cs)(i J:y)(aF:i<12) :cV w:=⟨0,_,none,_,_,_,_,_,Vj (w:=w) (z:=z) (J:=J) aF⟩
noncomputable def Rp (w:aG)(z:cs)(J:y) :cV w:=⟨0,_,none,_,_,_,_,_,Vc (w:=w) (z:=z) (J:=J)⟩
end
noncomputable def Sv (o:aK c5) :cT:=kP o 0
noncomputable def uR (e:cT) :l4:=Og e
noncomputable def Fr:PySem.Expr:=Sv (e7 13 3).2.1[1]?
noncomputable abbrev N7:a6:=U E7
noncomputable abbrev lV (G:aM) :cE:=mT (e7 13 3) N7 143 142 G
noncomputable def N6 (G bf:aM) :cE:={scope:=uR Fr,locals:=bf,globals:=3,cells:=[],qual:=N7++".<locals>.",func:=none,code:=.ref 142,frame:=some G,builtins:=0}
noncomputable abbrev jP (G J a3 bf:aM) :cn:=.compLoop Fr 0 (.ref J) (.ref a3) (N6 G bf)
noncomputable abbrev Id (G J a3 bf:aM) :cn:=.compStart Fr 0 (.ref J) (.ref a3) (N6 G bf)
noncomputable abbrev iT:ao:={cls:=.type "dict",data:=.dict ⟨[]⟩ 0}
noncomputable abbrev mr (P:bp)(k:y)(v:ag) :ao:={cls:=.type "dict",data:=.dict ⟨[aj P [105] k v]⟩ 1}
section
section
variable (w:aG)(z:cs)(S:cU)(i:y)(aF:i<12)(G J a3 bf e k:y)(v:ag)(l:B ag)(al:l.length<1000000)(eU:(S.Z i==0)=true)
noncomputable def Sf (n t:y) :bb w:=
  .ax [1,1] [0,0,2] 0 (yp w z i J aF) [0,5] λah=>.ax Ad f1 0 (ov w (S.Z i) 0 (S.aE i) (ah 1+2) true none eU) [] λaN=>.ax NE f1 0 (hS w a3 e l (l++[PySem.Value.str (ay i) (z.cb i)]) (.str (ay i) (z.cb i)) none al rfl) [2] λbx=>.bd [] [3] 0 (.dr (jP G J a3 bf)) [(0,es "dict_valueiterator" z.aw (i+1)),(1,{cls:=(.type "dict"),data:=(.dict ⟨[aj w.params [105] (ah 1) (.ref (z.bn i))]⟩ 1)}),(2,I (l++[PySem.Value.str (ay i) (z.cb i)]) (e+1)),(3,el z.bs),(4,en w.params z.M z.ab z.ae z.ak z.aw S.dD S.aP S.ar S.aO S.au),(5,bT w.params (cQ z) 12),(6,fP (ay i) (z.cb i) (S.Z i) (S.aE i) (z.er i) (z.bl i))]
theorem Sg:b2 w 3 none ([(J,es "dict_valueiterator" z.aw i),(bf,iT),(a3,I l e)]++dZ w.params z S [i] []) (jP G J a3 bf) (Sf w z S i aF G J a3 bf e l al eU):=by revert w;exact cX
noncomputable def Sm (n t:y) :bb w:=
  .ax [1,1] [0,0,2] 0 (yp w z i J aF) [0,5] λah=>.ax Ad f1 0 (ov w (S.Z i) 0 (S.aE i) (ah 1+2) true none eU) [] λaN=>.ax NE f1 0 (hS w a3 e l (l++[PySem.Value.str (ay i) (z.cb i)]) (.str (ay i) (z.cb i)) none al rfl) [2] λbx=>.bd [] [3] 0 (.dr (jP G J a3 bf)) [(0,es "dict_valueiterator" z.aw (i+1)),(1,{cls:=(.type "dict"),data:=(.dict ⟨[aj w.params [105] k (.ref (z.bn i))]⟩ 1)}),(2,I (l++[PySem.Value.str (ay i) (z.cb i)]) (e+1)),(3,el z.bs),(4,en w.params z.M z.ab z.ae z.ak z.aw S.dD S.aP S.ar S.aO S.au),(5,bT w.params (cQ z) 12),(6,fP (ay i) (z.cb i) (S.Z i) (S.aE i) (z.er i) (z.bl i))]
theorem Sn:b2 w 3 none ([(J,es "dict_valueiterator" z.aw i),(bf,mr w.params k v),(a3,I l e)]++dZ w.params z S [i] []) (jP G J a3 bf) (Sm w z S i aF G J a3 bf e k l al eU):=by revert w;exact cX
section
variable (eU:(S.Z i==0)=false)
noncomputable def Sd (n t:y) :bb w:=
  .ax [1,1] [0,0,2] 0 (yp w z i J aF) [0,5] λah=>.ax Ad f1 0 (ov w (S.Z i) 0 (S.aE i) (ah 1+2) false none eU) [] λaN=>.bd [] [3] 0 (.dr (jP G J a3 bf)) [(0,es "dict_valueiterator" z.aw (i+1)),(1,{cls:=(.type "dict"),data:=(.dict ⟨[aj w.params [105] (ah 1) (.ref (z.bn i))]⟩ 1)}),(2,I l e),(3,el z.bs),(4,en w.params z.M z.ab z.ae z.ak z.aw S.dD S.aP S.ar S.aO S.au),(5,bT w.params (cQ z) 12),(6,fP (ay i) (z.cb i) (S.Z i) (S.aE i) (z.er i) (z.bl i))]
theorem Se:b2 w 3 none ([(J,es "dict_valueiterator" z.aw i),(bf,iT),(a3,I l e)]++dZ w.params z S [i] []) (jP G J a3 bf) (Sd w z S i aF G J a3 bf e l eU):=by revert w;exact cX
end
section
variable (eU:(S.Z i==0)=false)
noncomputable def Sk (n t:y) :bb w:=
  .ax [1,1] [0,0,2] 0 (yp w z i J aF) [0,5] λah=>.ax Ad f1 0 (ov w (S.Z i) 0 (S.aE i) (ah 1+2) false none eU) [] λaN=>.bd [] [3] 0 (.dr (jP G J a3 bf)) [(0,es "dict_valueiterator" z.aw (i+1)),(1,{cls:=(.type "dict"),data:=(.dict ⟨[aj w.params [105] k (.ref (z.bn i))]⟩ 1)}),(2,I l e),(3,el z.bs),(4,en w.params z.M z.ab z.ae z.ak z.aw S.dD S.aP S.ar S.aO S.au),(5,bT w.params (cQ z) 12),(6,fP (ay i) (z.cb i) (S.Z i) (S.aE i) (z.er i) (z.bl i))]
theorem Sl:b2 w 3 none ([(J,es "dict_valueiterator" z.aw i),(bf,mr w.params k v),(a3,I l e)]++dZ w.params z S [i] []) (jP G J a3 bf) (Sk w z S i aF G J a3 bf e k l eU):=by revert w;exact cX
end
noncomputable def Si (n t:y) :bb w:=
  .ax [1,1] [0,0,2] 0 (Rp w z J) [0,5] λah=>.bd [7] [] 0 (.ret (.ok .next)) [(0,{cls:=(.type "dict_valueiterator"),data:=(.fields ⟨[.none,.int 12 0,.int 12 0,.int 12 0]⟩)}),(1,mr w.params k v),(2,I l e),(3,el z.bs),(4,en w.params z.M z.ab z.ae z.ak z.aw S.dD S.aP S.ar S.aO S.au),(5,bT w.params (cQ z) 12)]
theorem Sj:b2 w 3 none ([(J,es "dict_valueiterator" z.aw 12),(bf,mr w.params k v),(a3,I l e)]++dZ w.params z S [] []) (jP G J a3 bf) (Si w z S J e k v l):=c6
end
theorem Sy (w:aG)(z:cs)(S:cU)(G J a3 bf e:y)(l:B ag) :b2 w 3 none ([(J,es "dict_valueiterator" z.aw 0),(bf,iT),(a3,I l e)]++dZ w.params z S [] []) (Id G J a3 bf) λn t=>match w.params.followText "comprehension-iter-twice" with
  | true=>.bd [] [0,3] 0 (.dr (jP G J a3 bf)) [(0,es "dict_valueiterator" z.aw 0),(1,iT),(2,I l e),(3,el z.bs),(4,en w.params z.M z.ab z.ae z.ak z.aw S.dD S.aP S.ar S.aO S.au),(5,bT w.params (cQ z) 12)]
  | false=>.bd [1,1,1,1] [0,0,0,3] 0 (.dr (jP G J a3 bf)) [(0,es "dict_valueiterator" z.aw 0),(1,iT),(2,I l e),(3,el z.bs),(4,en w.params z.M z.ab z.ae z.ak z.aw S.dD S.aP S.ar S.aO S.au),(5,bT w.params (cQ z) 12)]:=by
 revert w;refine nk λw fe fI hE hF=>?_;rcases fe with _ | _ <;> rcases fI with _ | _ <;> (intro F n t;kernel_rfl)
noncomputable abbrev yH:ao:={cls:=.type "dict_valueiterator",data:=.fields ⟨[.none,.int 12 0,.int 12 0,.int 12 0]⟩}
noncomputable def eI (cb:y->y)(Z:y->ai)(p q:y) :B (y×y):=((fH p q).filter λi=>Z i==0).map λi=>(i,cb i)
theorem Ok (cb:y->y)(Z:y->ai)(p q:y) :eI cb Z p (q+1)=(if (Z p==0)=true then [(p,cb p)] else [])++eI cb Z (p+1) q:=by unfold eI;refine H (List.range'_succ ..) (H (sS ..) ?_);split <;> rfl
theorem Ol {cb:y->y}{Z:y->ai}{p q:y}(h:(Z p==0)=true) :eI cb Z p (q+1)=(p,cb p)::eI cb Z (p+1) q:=by refine H (Ok ..) (H (d1 h ..) ?_);rfl
theorem Oj {cb:y->y}{Z:y->ai}{p q:y}(h:(Z p==0)=false) :eI cb Z p (q+1)=eI cb Z (p+1) q:=by refine H (Ok ..) (H h ?_);rfl
section
variable {w:aG}{z:cs}{S:cU}{G J a3 bf:y}
theorem yz:∀ (q p e k kq:y) (l:B ag),p+q=12->l.length<=p->
  b0 w 3 (jP G J a3 bf) none ([(J,es "dict_valueiterator" z.aw p),(bf,mr w.params k (.ref kq)),(a3,I l e)]++bX w.params z S) (λ_=>.ok .next)
   (λx=>[yH,mr w.params (x 3) (.ref (x 4)),I (l++(eI z.cb S.Z p q).map ad) (x 2)]++(bX w.params z S).map (·.2)) (λ_=>[]) (λ_=>bZ)
 | 0,p,e,k,kq,l,h,_=>by obtain rfl:p=12:=h;refine H (show l++(eI z.cb S.Z 12 0).map ad=l from d9 l) ?_;exact u6 [] [] .nil .nil kk kk (jR:=λx=>[yH,mr w.params (x 3) (.ref (x 4)),I l (x 2)]) (dc:=λ_=>S) (dy (Sj w z S G J a3 bf e k (.ref kq) l) (λ_ _ _ c d=>ca c d [e,k,kq]) λ_ _ _ _ _=>⟨by kernel_rfl,rfl,trivial⟩) (λ_=>rfl) λ_=>FJ
 | q+1,p,e,k,kq,l,h,al=>by
  have ct:p+1+q=12:=(sX p q).trans h;have L:p<12:=h▸Nat.lt_add_of_pos_right (Bn q)
  induction eU:(S.Z p==0) with
  | true=>rw [Ol eU,hd,List.append_cons];exact n5 [p] [] gW .nil (ic L) kk (Sn w z S p L G J a3 bf e k (.ref kq) l (iK al (fh L (by decide))) eU) (c:=λ_ _ _=>jP G J a3 bf) (dc:=λ_ _ _=>S) (lJ:=λ_ _ _=>[(J,es "dict_valueiterator" z.aw (p+1)),(bf,mr w.params k (.ref (z.bn p))),(a3,I (l++[ad (p,z.cb p)]) (e+1))]) (by intro n t X;kernel_rfl) (λ_ _ _=>rfl) (λ_ _ _=>uQ) λ_ _ _=>yz q (p+1) (e+1) k (z.bn p) (l++[ad (p,z.cb p)]) ct (by refine H (ea ..) ?_;exact Nat.succ_le_succ al)
  | false=>refine H (Oj eU ..) ?_;exact n5 [p] [] gW .nil (ic L) kk (Sl w z S p L G J a3 bf e k (.ref kq) l eU) (c:=λ_ _ _=>jP G J a3 bf) (dc:=λ_ _ _=>S) (lJ:=λ_ _ _=>[(J,es "dict_valueiterator" z.aw (p+1)),(bf,mr w.params k (.ref (z.bn p))),(a3,I l e)]) (by intro n t X;kernel_rfl) (λ_ _ _=>rfl) (λ_ _ _=>uQ) λ_ _ _=>yz q (p+1) e k (z.bn p) l ct (Nat.le_succ_of_le al)
theorem Sh {e:y} :
  b0 w 3 (jP G J a3 bf) none ([(J,es "dict_valueiterator" z.aw 0),(bf,iT),(a3,I [] e)]++bX w.params z S) (λ_=>.ok .next)
   (λx=>[yH,mr w.params (x 3) (.ref (x 4)),I ((eI z.cb S.Z 0 12).map ad) (x 2)]++(bX w.params z S).map (·.2)) (λ_=>[]) (λ_=>bZ):=by
 refine H (show (12:y)=11+1 from rfl) ?_
 induction eU:(S.Z 0==0) with
 | true=>refine H (Ol eU ..) ?_;exact n5 [0] [] gW .nil (ic (by decide)) kk (Sg w z S 0 (by decide) G J a3 bf e [] (by decide) eU) (c:=λ_ _ _=>jP G J a3 bf) (dc:=λ_ _ _=>S) (lJ:=λ_ _ X=>[(J,es "dict_valueiterator" z.aw 1),(bf,mr w.params (X 0 1) (.ref (z.bn 0))),(a3,I [ad (0,z.cb 0)] (e+1))]) (by intro n t X;kernel_rfl) (λ_ _ _=>rfl) (λ_ _ _=>uQ) λ_ _ X=>yz 11 1 (e+1) (X 0 1) (z.bn 0) [ad (0,z.cb 0)] rfl (fk _)
 | false=>refine H (Oj eU ..) ?_;exact n5 [0] [] gW .nil (ic (by decide)) kk (Se w z S 0 (by decide) G J a3 bf e [] eU) (c:=λ_ _ _=>jP G J a3 bf) (dc:=λ_ _ _=>S) (lJ:=λ_ _ X=>[(J,es "dict_valueiterator" z.aw 1),(bf,mr w.params (X 0 1) (.ref (z.bn 0))),(a3,I [] e)]) (by intro n t X;kernel_rfl) (λ_ _ _=>rfl) (λ_ _ _=>uQ) λ_ _ X=>yz 11 1 e (X 0 1) (z.bn 0) [] rfl (k1 _)
theorem Sz {e:y} :
  b0 w 3 (Id G J a3 bf) none ([(J,es "dict_valueiterator" z.aw 0),(bf,iT),(a3,I [] e)]++bX w.params z S) (λ_=>.ok .next)
   (λx=>[yH,mr w.params (x 3) (.ref (x 4)),I ((eI z.cb S.Z 0 12).map ad) (x 2)]++(bX w.params z S).map (·.2)) (λ_=>[]) (λ_=>bZ):=by
 refine n5 [] [] .nil .nil kk kk (Sy w z S G J a3 bf e []) (c:=λ_ _ _=>jP G J a3 bf) (dc:=λ_ _ _=>S) (lJ:=λ_ _ _=>[(J,es "dict_valueiterator" z.aw 0),(bf,iT),(a3,I [] e)]) (λn t X=>?_) (λ_ _ _=>rfl) (λ_ _ _=>uQ) λ_ _ _=>Sh;rcases (w.params.followText "comprehension-iter-twice") with _ | _ <;> kernel_rfl
end
noncomputable def HO (w:aG)(z:cs)(S:cU)(G J a3 bf e:y) :cV w:=⟨3,_,none,_,_,_,_,_,Sz (w:=w) (z:=z) (S:=S) (G:=G) (J:=J) (a3:=a3) (bf:=bf) (e:=e)⟩
end
section
variable {w:aG}
theorem jI.sB {s an:aR}{aB fm:B aM}{d7:B ao}{ns:B (aM×ao)}{a:aM}{o:ao}{e:cE}{t:dl}(h:jI s an aB (a::fm) d7 ns [bP ((e,a,o)::t)]) :jI s an (aB++[a]) fm (d7++[o]) ns [bP t]:=by
 obtain ⟨al,eT,bK,a7,aV⟩:=h;simp only [fz,h2,d9,hd] at eT bK a7;have hz:(aB++[a]).zip (d7++[o])=aB.zip d7++[(a,o)]:=by refine H (Bh al.symm ..) ?_;rfl
 have L:(aB.zip d7++(ns++(a,o)::bP t)).Perm ((aB++[a]).zip (d7++[o])++(ns++bP t)):=by refine H hz (H (f9 ..) ?_);refine GO _ ?_;exact vn
 refine ⟨by simp [al],?_,?_,?_,?_⟩
 ·simp only [fz,h2,d9]
  exact λp aU=>eT p (L.mem_iff.mpr aU)
 ·simp only [fz,h2,d9]
  exact (A4 (L.map _)).mp bK
 ·simp only [fz,h2,d9]
  intro p aU;rcases a7 p (by rcases dU.mp aU with h | h <;> simp [h]) with h | h
  ·rcases dx.mp h with h | h
   ·have ce:=(A4 (L.map (·.1))).mp bK
    rw [hz,f9,c0,fA] at ce;have iF:=ce.2.1;rw [Qi,hd,gy] at iF;exact absurd (fC.mpr ⟨p,aU,h⟩) iF.1
   ·exact .inl h
  ·exact .inr h
 ·exact aV.sH λb aQ=>by simp at aQ ⊢;grind
theorem ec.sB {dg:aK (B cE)}{bj:y}{code:cn}{ap:aK ag}{pre:B (aM×ao)}{e:cE}{a:aM}{o:ao}{dQ:dl}{bB:(y->y)->cD}{cB:(y->y)->B ao}{bV:(y->y)->B (aM×ao)}{gr:(y->y)->B bN}{cond:(y->y)->Prop}{o':(y->y)->ao}{t:(y->y)->dl}
  (h:ec w dg bj code ap pre [bP ((e,a,o)::dQ)] bB cB bV gr cond)(aQ:∀ x,gr x=[bP ((e,a,o' x)::t x)]) :
  ec w dg bj code ap (pre++[(a,o)]) [bP dQ] bB (λx=>cB x++[o' x]) bV (λx=>[bP (t x)]) cond:=λA s aS has bU=>by
 have g3:(pre++[(a,o)])++[bP dQ].flatten=pre++[bP ((e,a,o)::dQ)].flatten:=by simp
 rw [g3] at has bU;refine gR (h A s aS has bU) ?_;rintro r an ⟨x,az,aJ,bg,cS,dI⟩;refine ⟨x,az,aJ,bg,cS,?_⟩;rw [aQ x] at dI;have a5:([bP ((e,a,o)::dQ)].flatten).map (·.1)=a::([bP dQ].flatten).map (·.1):=by simp
 rw [a5] at dI;have:=dI.sB;simpa using this
noncomputable def ec.mk {dg:aK (B cE)}{bj:y}{code:cn}{ap:aK ag}{pre:B (aM×ao)}{fN:B bN}{bB:(y->y)->cD}{cB:(y->y)->B ao}{bV:(y->y)->B (aM×ao)}{gr:(y->y)->B bN}{cond:(y->y)->Prop}(h:ec w dg bj code ap pre fN bB cB bV gr cond) :hy w:=⟨dg,bj,code,ap,pre,fN,bB,cB,bV,gr,cond,h⟩
noncomputable def lX (e:cE)(dQ:dl)(o:ao) :y->cp (aK ag)
 | 0=>o.slots
 | k+1=>bif mm o then o.slots else xA e (l6 k dQ) o.slots
noncomputable def mC (dQ:dl)(o:ao) :y->dl
 | 0=>dQ
 | k+1=>bif mm o then dQ else eR k dQ
theorem xI (e:cE)(a:aM)(o:ao)(dQ:dl)(c:y) :gC ((e,a,o)::dQ) c=(e,a,{o with slots:=lX e dQ o c})::mC dQ o c:=by
 induction c with
 | zero=>rfl
 | succ k=>show eR k ((e,a,o)::dQ)=_;unfold eR lX mC;simp only;rcases (mm o) with _ | _ <;> rfl
section
variable {z:cs}{S:cU}{G M jj:y}{br:cp (aK ag)}{a5:cE}{cI:ao}{r:dl}{cJ:B y}
noncomputable def Rr (w:aG)(z:cs)(S:cU)(G M:y)(br:cp (aK ag))(a5:cE)(jj:y)(cI:ao)(r:dl)(cJ:B y)(a7:g5 S.aa 60 [] (fH 0 12)=some (false,cJ))(cm:∀ i<12,∀ p∈S.aa i,p.1<12)(a9:eg ((a5,jj,cI)::r)) :hy w:=
 ec.mk ((Wg (w:=w) (z:=z) (S:=S) (G:=G) (M:=M) (br:=br) (r:=(a5,jj,cI)::r) a7 cm a9).sB (o':=λx=>{cI with slots:=lX a5 r cI (x 2)}) (t:=λx=>mC r cI (x 2)) λx=>by exact H (xI ..) rfl)
noncomputable def Rs (w:aG)(z:cs)(S:cU)(G M:y)(br:cp (aK ag))(a5:cE)(jj:y)(cI:ao)(r:dl)(cJ:B y)(a7:g5 S.aa 60 [] (fH 0 12)=some (true,cJ))(cm:∀ i<12,∀ p∈S.aa i,p.1<12)(a9:eg ((a5,jj,cI)::r)) :hy w:=
 ec.mk ((Wh (w:=w) (z:=z) (S:=S) (G:=G) (M:=M) (br:=br) (r:=(a5,jj,cI)::r) a7 cm a9).sB (o':=λx=>{cI with slots:=lX a5 r cI (x 2)}) (t:=λx=>mC r cI (x 2)) λx=>by exact H (xI ..) rfl)
theorem H7 {aC:B f8}{K:y}{G:aM}{r:dl}(a9:eg r) :eg ((lV G,G,eM aC K)::r):=by
 intro c aX;rcases dx.mp aX with rfl | aX
 ·exact ⟨⟨rfl,by kernel_rfl,by kernel_rfl⟩,rfl⟩
 ·exact a9 c aX
end
end
section
section
variable (w:aG)(z:cs)(ar au:y)(Z:y->ai)(aE:y->y)(aa:y->B (y×y))(K:y->y)(r:dl)(cJ:B y)(a7:g5 aa 60 [] (fH 0 12)=some (false,cJ))(cm:∀ i<12,∀ p∈aa i,p.1<12)(a9:eg r)
noncomputable def ab9 (n t:y) :bb w:=
  .ax (lF 0x103030303030200010100000001000000011c0200010100000001000000011c1c1c00) [1,0,0,0,2] 1 (HT w z z.aw) [2] λah=>.ax [29,29,29] [0,2] 0 (HU w z z.aw (ah 2)) [28,2] λaN=>.ax [30] [2] 2 (HO w z ⟨.none,0,ar,0,au,Z,aE,aa,K⟩ n (aN 2) (aN 0) (aN 0+1) 0) (lF 0x11a191817161514131211100f0e0d0c0b0a090807060504030201001e1f1d) λbx=>.fF [32,32,32,28,1,0,0,0,1,0,1,0,1,0,0,0,1,0,2,2,2,28,1,0,0,0,1,0,0,0,1,0,0,0,0,1,2,0,0,33,33] [0,0,4] 1 (Rr w z ({dD:=PySem.Value.ref (aN 0),aP:=0,ar:=ar,aO:=0,au:=au,Z:=Z,aE:=aE,aa:=aa,K:=K}) (bx 0) (bx 1+2) (#[]) (lV n) n (eM [aj w.params gv t (PySem.Value.ref z.s)] 1) r cJ a7 cm (H7 a9)) [32,0,1,2,3,4,5,6,7,8,9,10,11,12,13,14,15,16,17,18,19,20,21,22,23,24,25,26,27] [true] λcj=>.bd [28,28,28] [] 0 (.ret (.ok (.ret .none))) (d4 (dW 0 27++[30]) ((bX w.params z ⟨.ref (aN 0),0,ar,0,au,Z,aE,aa,K⟩).map (·.2)++[I ((eI z.cb Z 0 12).map ad) (bx 2)]))
theorem aca:j8 w (some (r.map (·.1))) 8 none (bX w.params z ⟨.none,0,ar,0,au,Z,aE,aa,K⟩) ([bP r]) (.call (.ref 143) ⟨[.ref z.s],[]⟩) (ab9 w z ar au Z aE aa K r cJ a7 cm a9):=by revert w;exact cX
end
variable {w:aG}
theorem Ap {r:dl}{aC:B f8}{K:y} :∀ c,mC r (eM aC K) c=gC r c
 | 0=>rfl
 | _ +1=>rfl
theorem ace {z:cs}{ar au:y}{Z:y->ai}{aE:y->y}{aa:y->B (y×y)}{K:y->y}{r:dl}{cJ:B y}(a7:g5 aa 60 [] (fH 0 12)=some (false,cJ))(cm:∀ i<12,∀ p∈aa i,p.1<12)(a9:eg r) :
  ec w (some (r.map (·.1))) 8 (.call (.ref 143) ⟨[.ref z.s],[]⟩) none (bX w.params z ⟨.none,0,ar,0,au,Z,aE,aa,K⟩) [bP r] (λ_=>.ok (.ret .none)) (λx=>(bX w.params z ⟨.ref (x 2),0,ar,0,au,Z,aE,aa,K⟩).map (·.2)) (λx=>[(x 2,I ((eI z.cb Z 0 12).map ad) (x 3))]) (λx=>[bP (gC r (x 4))]) (λ_=>bZ):=by
 refine yL (aca w z ar au Z aE aa K r cJ a7 cm a9) (λn t X c d=>ca c d [X 1 0,X 2 2,X 3 2]) λn t X c d=>⟨?_,rfl,trivial⟩;refine df (Ap (aC:=[aj w.params gv n (.ref z.s)]) (K:=1) ..) ?_;kernel_rfl
end
noncomputable def vU (body:B c5)(env:cE) :e5 h3:=point.bind λ_=>(execs body env).attempt.bind λr=>match r with
 | .error e=>.pure (.done (.ret e))
 | .ok _=>.pure (.done .cont)
noncomputable def uW (c:cn) :e5 h3->e5 h3
 | .stack k=>k [(c,default)]
 | t=>t
noncomputable abbrev o5 (m:a6)(t a:y) :cn:=.builtin "ValueError.__new__" ⟨[.ref 106,.str m t,.ref a],[]⟩
section
section
variable (w:aG)(m:a6)(be a:y)
noncomputable def afl (n t:y) :bb w:=
  .bd z7 [] 2 (.ret (.ok (.ret (.ref (n+1))))) [(1,{cls:=(.ref 106),data:=(.fields ⟨[.ref n,.none,.none,.none,.bool false,.none]⟩)}),(0,{cls:=(.type "tuple"),data:=(.seq ⟨[.str m be,.ref a]⟩ 0)})]
theorem afm:eu w none 0 none ([]) ([]) (o5 m be a) (uW (o5 m be a) (iy (o5 m be a))) (afl w m be a):=c6
end
variable {w:aG}
noncomputable def uV:e5 h3->B (cn×c2)->e5 h3
 | .stack k=>k
 | t=>λ_=>t
theorem afp (m:a6)(t a:y) :iy (o5 m t a)= .stack (uV (iy (o5 m t a))):=by kernel_rfl
theorem afn (m:a6)(t a:y)(p:c2)(aW:B (cn×c2)) :uV (iy (o5 m t a)) ((o5 m t a,p)::aW)=uW (o5 m t a) (iy (o5 m t a)):=by kernel_rfl
noncomputable abbrev kb (fw:y)(bh:ag) :ao:={cls:=.ref 106,data:=.fields ⟨[.ref fw,bh,.none,.none,.bool false,.none]⟩}
theorem afo {m:a6}{be a:y} :b0 w 0 (o5 m be a) none [] (λx=>.ok (.ret (.ref (x 2)))) (λ_=>[]) (λx=>[(x 2,kb (x 3) .none),(x 3,{cls:=.type "tuple",data:=.seq ⟨[.str m be,.ref a]⟩ 0})]) (λ_=>bZ):=λA s aS has bU=>by
 refine wF (co:=.nil) ?_;have O:=xF (w:=w) (A:=A) (s:=s) (R:=λr an=>∃ x:y->y,r=(λx:y->y=>(Except.ok (Flow.ret (.ref (x 2))) :cD)) x/\bZ/\an.heap.objs.size=x 0/\an.toks=x 1/\oe s an [] [] [(x 2,kb (x 3) .none),(x 3,{cls:=.type "tuple",data:=.seq ⟨[.str m be,.ref a]⟩ 0})]) (afm w m be a) aS has bU (F:=λdw du=>∃ e t,dw= .ret (.ok (.ret (.ref e)))/\du=[(e,kb t .none),(t,{cls:=.type "tuple",data:=.seq ⟨[.str m be,.ref a]⟩ 0})]) (λn t=>⟨n+1,n,rfl,rfl⟩) ?_
 ·intro b6 p aX ds
  have h:=O b6 p aX ds;refine H (afp ..) (H (Hm ..) (H aX (H (afn ..) ?_)));exact h
 ·rintro dw du an ⟨e,t,rfl,rfl⟩ b1 aV
  refine ⟨ca an.heap.objs.size an.toks [e,t],rfl,trivial,rfl,rfl,⟨rfl,λ_ h=>((c4 h).elim),b1.has,b1.e8,λp L=>?_,aV⟩⟩;rcases b1.fresh p L with h | h
  ·exact (c4 h).elim
  ·exact h
theorem ach (x:y->y) :(ad (x 16,x 17)::(pN x).map ad).length<1000000:=by have:=acg x;simp;omega
noncomputable def RZ (w:aG)(m:a6)(be a:y) :cV w:=⟨0,_,none,_,_,_,_,_,afo (w:=w) (m:=m) (be:=be) (a:=a)⟩
section
variable {body:B c5}{env:cE}{A:c9}{s:aR}{R cZ:cD->aR->Prop}
theorem JC (az:wpOwn (model aL w) A (.func body env) (vU body env) (postC aL w A cZ) (postE cZ) s)
  (bK:∀ aA,(∀ e,¬ cZ (.error e) aA)/\¬ cZ (.ok .cont) aA)
  (bg:∀ e aA,cZ (.ok (.ret e)) aA->wpAny (model aL w) (A.under (.func body env)) (oT e env) (λ_ bi=>wpAny (model aL w) (A.under (.func body env)) (pR e none)
   (λ_ dp=>R (.error e) dp) (λ_ _=>dm) bi) (λ_ _=>dm) aA) :
  codeAny (model aL w) A (.func body env) R s:=by
 refine rC ?_;show wpOwn _ A _ (point >>= λ_=>((execs body env).onRaise (tU env)) >>= _) _ _ s;intro b6 p aX ds;refine H (qg ..) ?_;have O:=az b6 p aX ds;unfold vU at O;rw [hf] at O;refine ot _ b6 _ (λ_ jF hr bG=>?_) (λe dV aA he=>absurd he ((bK aA).1 e)) p s O;rw [hf,Sem.wp_attempt] at bG;refine H (qg ..) (H (vw ..) ?_);have dY:b6.In (A.under (.func body env)):=by have h:=ds.in;rw [aX] at h;exact h
 refine ot _ b6 _ (λf dV aA a7=>absurd a7 (bK aA).2) (λe dV aA he=>?_) jF hr bG;have k:=bg e aA he b6 dV dY;unfold tU;refine H (qg ..) ?_;refine ot _ b6 _ (λ_ fj bi ae=>?_) (λ_ _ _ f=>f.elim) dV aA k;exact ot _ b6 _ (λ_ hN dp ak=>ak) (λ_ _ _ f=>f.elim) fj bi (ae b6 fj dY)
end
end
section
section
variable (w:aG)(z:cs)(G M ar au:y)(Z:y->ai)(aE:y->y)(aa:y->B (y×y))(K:y->y)(r:dl)(cJ:B y)(a7:g5 aa 60 [] (fH 0 12)=some (true,cJ))(cm:∀ i<12,∀ p∈aa i,p.1<12)(a9:eg r)
noncomputable def acb (n t:y) :bb w:=
  .ax (aY 0x14444430220002000213022000200021) [0,0,0,2] 0 (HT w z z.aw) [3] λah=>.ax [29,29,29] [0,2] 0 (HU w z z.aw (ah 2)) [28,3] λaN=>.ax [30] [2] 2 (HO w z ⟨.none,0,ar,0,au,Z,aE,aa,K⟩ G (aN 2) (aN 0) (aN 0+1) 0) (lF 0x11b1a191817161514131211100f0e0d0c0b0a0908070605040302011e1f1d) λbx=>.fF [32,32,32,1,2,0,0,0,2,0,2,0,2,0,0,0,2,0,3,3,3,1,2,0,0,0,2,0,0,0,2,0,0,0,0,2,3,0,0,33,33] [0,0,4] 1 (Rs w z ({dD:=PySem.Value.ref (aN 0),aP:=0,ar:=ar,aO:=0,au:=au,Z:=Z,aE:=aE,aa:=aa,K:=K}) (bx 0) (bx 1+2) (#[]) (lV G) G (eM [aj w.params gv M (PySem.Value.ref z.s)] 1) r cJ a7 cm (H7 a9)) [32,1,2,3,4,5,6,7,8,9,10,11,12,13,14,15,16,17,18,19,20,21,22,23,24,25,26,27,0] [true] λcj=>.ax [1,1,1,34,34] [2] 0 (kz w (cj 15) 0 (ad (cj 16,cj 17)::dF ad (pN cj)) ((ad (cj 16,cj 17)::dF ad (pN cj)).length) none rfl (ach cj)) [33] λcg=>.ax (aY 0x100000000000000010) [0,0,0,0,2] 0 (RZ w (U [110,111,100,101,115,32,97,114,101,32,105,110,32,97,32,99,121,99,108,101]) (cg 1) (cj 15)) [] λfc=>.bd [35,0,35,0,0,0,35,0,35,0,35,35,35,35,35,0,35,35,0,35] [0,0] 1 (.ret (.ok (.ret (.ref (fc 2))))) (d4 (dW 0 28++[30,34]) ([{cls:=.type "frame",data:=.dict ⟨[aj w.params gv M (.ref z.s),aj w.params [99,121,99,108,101] (cj 1) (.ref (cj 15))]⟩ 2,slots:=lX (lV G) r (eM [aj w.params gv M (.ref z.s)] 1) (cj 2)}]++((bX w.params z ⟨.ref (aN 0),0,ar,0,au,Z,aE,aa,K⟩).map (·.2)++[I ((eI z.cb Z 0 12).map ad) (bx 2),kb (fc 0) .none])))
theorem acc:eu w (some (r.map (·.1))) 8 none ((G,eM [aj w.params gv M (.ref z.s)] 1)::bX w.params z ⟨.none,0,ar,0,au,Z,aE,aa,K⟩) ([bP r]) (.func (e7 13 3).2.1 (lV G)) (vU (e7 13 3).2.1 (lV G)) (acb w z G M ar au Z aE aa K r cJ a7 cm a9):=by revert w;exact cX
end
end
section
variable {w:aG}
noncomputable abbrev uF (P:bp)(s M:y) :ao:=eM [aj P gv M (.ref s)] 1
noncomputable def nh (P:bp)(s M G lh k3:y)(r:dl)(c:y) :ao:={cls:=.type "frame",data:=.dict ⟨[aj P gv M (.ref s),aj P [99,121,99,108,101] lh (.ref k3)]⟩ 2,slots:=lX (lV G) r (uF P s M) c}
theorem OD (r:dl) :∀ c,(gC r c).map (·.1)=r.map (·.1)
 | 0=>rfl
 | k+1=>Fz k r
theorem eg.kn {r:dl}(h:eg r) :∀ c,eg (gC r c)
 | 0=>h
 | k+1=>h.Fy
end
noncomputable def gE (f:y->y)(k:y) :ag:=match f k with
 | 0=>.none
 | 1=>.int ((f (k+1) :ai) - (f (k+2) :ai)) 0
 | 2=>.bool (f (k+1)==1)
 | _=>.str (U ((lA (f (k+1))).map λj=>f (k+2+j))) 0
noncomputable abbrev uT (f:y->y)(b:y) :B ag:=[gE f b,gE f (b+3),gE f (b+6),gE f (b+9),gE f (b+15),gE f (b+12)]
theorem yC {f:y->y}{k:y}{a:ai}(bG:f k=1)(az:f (k+1)=a.toNat)(aJ:f (k+2)=(-a).toNat) :gE f k= .int a 0:=by unfold gE;refine H bG (H az (H aJ ?_));simp only;congr 1;lia
theorem aei (b:y){e3:B ag}(h:ph e3) :∃ l:B y,∀ f:y->y,(∀ j,f (b+j)=l.getD j 0)->uT f b=e3:=by
 rcases h with rfl | ⟨a1,a2,rq,vz,v,x,bc,rfl⟩
 ·refine ⟨[],λf a7=>?_⟩
  have e:∀ j,gE f (b+j)= .none:=λj=>by unfold gE;rw [a7 j];rfl
  have g3:=e 0;simp only [rn] at g3;show [gE f b,gE f (b+3),gE f (b+6),gE f (b+9),gE f (b+15),gE f (b+12)]=_;rw [g3,e 3,e 6,e 9,e 15,e 12]
 ·obtain ⟨bA,qH⟩ :∃ bA:B y,∀ f:y->y,(∀ j,f (b+15+j)=bA.getD j 0)->gE f (b+15)=v:=by
   rcases bc with rfl | ⟨as,rfl⟩
   ·refine ⟨[],λf a7=>?_⟩
    unfold gE;have:=a7 0;rw [rn] at this;rw [this];rfl
   ·refine ⟨3::as.cps.toList.length::as.cps.toList,λf a7=>?_⟩
    unfold gE;have bG:=a7 0;have az:=a7 1;rw [rn] at bG;rw [bG];show Value.str (U ((lA (f (b+15+1))).map λj=>f (b+15+2+j))) 0=_;rw [az];have:((lA as.cps.toList.length).map λj=>f (b+15+2+j))=as.cps.toList:=by
     apply List.ext_getElem
     ·simp
     ·intro j az aJ
      have:=a7 (2+j);rw [List.getElem_map,List.getElem_range,show b+15+2+j=b+15+(2+j) by lia,this,lB 2 j];simp only [jw];show (as.cps.toList[j]?).getD 0=_;rw [nr aJ];rfl
    show Value.str (U ((lA as.cps.toList.length).map λj=>f (b+15+2+j))) 0=_;rw [this];rfl
  refine ⟨[1,a1.toNat,(-a1).toNat,1,a2.toNat,(-a2).toNat,1,rq.toNat,(-rq).toNat,1,vz.toNat,(-vz).toNat,2,x.toNat,0]++bA,λf a7=>?_⟩;have g3:=a7 0;rw [rn] at g3;have hK:gE f b= .int a1 0:=yC g3 (a7 1) (a7 2);have kE:gE f (b+3)= .int a2 0:=yC (a7 3) (a7 4) (a7 5);have YM:gE f (b+6)= .int rq 0:=yC (a7 6) (a7 7) (a7 8);have jX:gE f (b+9)= .int vz 0:=yC (a7 9) (a7 10) (a7 11);have YN:gE f (b+12)= .bool x:=by unfold gE;rw [a7 12,show b+12+1=b+13 from rfl,a7 13];cases x <;> rfl
  have YO:=qH f λj=>by have:=a7 (15+j);rw [<- pb] at this;rw [this,lB 15 j];rfl
  show [gE f b,gE f (b+3),gE f (b+6),gE f (b+9),gE f (b+15),gE f (b+12)]=_;exact H hK (H kE (H YM (H jX (H YN (H YO rfl)))))
section
variable {w:aG}
noncomputable def ab8 (P:bp)(s M G:y)(r:dl)(x:y->y) :ao:={nh P s M G (x 9) (x 10) r (x 7) with slots:=lX (lV G) (gC r (x 7)) (nh P s M G (x 9) (x 10) r (x 7)) (x 8+1)}
theorem acf {z:cs}{G M ar au:y}{Z:y->ai}{aE:y->y}{aa:y->B (y×y)}{K:y->y}{r:dl}{cJ:B y}
  (a7:g5 aa 60 [] (fH 0 12)=some (true,cJ))(cm:∀ i<12,∀ p∈aa i,p.1<12)(a9:eg r) :
  ec w (some (r.map (·.1))) 8 (.func (e7 13 3).2.1 (lV G)) none ((G,uF w.params z.s M)::bX w.params z ⟨.none,0,ar,0,au,Z,aE,aa,K⟩) [bP r] (λx=>.error (.ref (x 2)))
   (λx=>ab8 w.params z.s M G r x::(bX w.params z ⟨.ref (x 3),0,ar,0,au,Z,aE,aa,K⟩).map (·.2))
   (λx=>[(x 3,I ((eI z.cb Z 0 12).map ad) (x 4)),(x 2,kb (x 5) (.ref (x 6))),(x 6,fv .none G .none (uT x 20))])
   (λx=>[bP (mC (gC r (x 7)) (nh w.params z.s M G (x 9) (x 10) r (x 7)) (x 8+1))]) (λ_=>bZ):=λA s aS has bU=>by
 have o:=bz.pj (S:=[[(G,uF w.params z.s M)],bX w.params z ⟨.none,0,ar,0,au,Z,aE,aa,K⟩,bP r]) (by kernel_rfl) has bU;refine JC (cZ:=λeX aA=>∃ c lh k3 mz ke fw bH,eX= .ok (.ret (.ref bH))/\bz s (((G,uF w.params z.s M)::bX w.params z ⟨.none,0,ar,0,au,Z,aE,aa,K⟩).map (·.1)++([bP r] :B bN).flatten.map (·.1)) aA [[(G,nh w.params z.s M G lh k3 r c)],bX w.params z ⟨.ref mz,0,ar,0,au,Z,aE,aa,K⟩,[(mz,I ((eI z.cb Z 0 12).map ad) ke)],[(bH,kb fw .none)],bP (gC r c)]) ?_ (λaA=>⟨(by rintro e ⟨_,_,_,_,_,_,_,h,_⟩;cases h),(by rintro ⟨_,_,_,_,_,_,_,h,_⟩;rcases h with _ | _)⟩) ?_
 ·exact o.fL [0,1,2] (l:=(G,uF w.params z.s M)::bX w.params z ⟨.none,0,ar,0,au,Z,aE,aa,K⟩) (af:=[bP r]) (R:=[]) ⟨rfl,by kernel_rfl,by kernel_rfl⟩ aS (acc w z G M ar au Z aE aa K r cJ a7 cm a9) (f:=λ_ _ Y=>.ret (.ref (Y 5 2)))
   (cv:=λn t Y=>[[(G,nh w.params z.s M G (Y 3 1) (Y 3 15) r (Y 3 2))],bX w.params z ⟨.ref (Y 1 0),0,ar,0,au,Z,aE,aa,K⟩,[(Y 1 0,I ((eI z.cb Z 0 12).map ad) (Y 2 2))],[(Y 5 2,kb (Y 5 0) .none)],bP (mC r (uF w.params z.s M) (Y 3 2))]) (by intro n t X;kernel_rfl)
   λn t Y aA cy=>⟨Y 3 2,Y 3 1,Y 3 15,Y 1 0,Y 2 2,Y 5 0,Y 5 2,rfl,by refine df (Ap (aC:=[aj w.params gv M (.ref z.s)]) (K:=1) ..) ?_;exact cy⟩
 ·rintro e aA ⟨c,lh,k3,mz,ke,fw,bH,h,cy⟩
  rcases h with _ | _;refine cy.Lu (C:=.ref 106) (a:=.ref fw) (vs:=[.none,.none,.bool false,.none]) (env:=lV G) (f:=G) (o:=nh w.params z.s M G lh k3 r c) (r:=gC r c) [0,4,3] (R:=[bX w.params z ⟨.ref mz,0,ar,0,au,Z,aE,aa,K⟩,[(mz,I ((eI z.cb Z 0 12).map ad) ke)]]) ⟨rfl,by kernel_rfl,by kernel_rfl⟩ (cy.at aS).size ?_ ?_ ?_
  ·refine H (OD ..) ?_
   show uH [lV G] A.frames=_;refine H (aS.frames _ rfl ..) ?_;rfl
  ·intro q a4
   rcases dx.mp a4 with rfl | a4
   ·exact ⟨⟨rfl,by kernel_rfl,by kernel_rfl⟩,rfl⟩
   ·exact a9.kn c q a4
  ·intro ct da e3 bh gl dz
   obtain ⟨Ec,X0⟩:=aei 20 gl;have Xl:=X0 (ca ct.objs.size aA.toks ([bH,mz,ke,fw,bh,c,da,lh,k3,0,0,0,0,0,0,0,0,0]++Ec)) λj=>by refine H (lB ..) ?_;rfl
   rw [show eR da ((lV G,G,nh w.params z.s M G lh k3 r c)::gC r c)=gC ((lV G,G,nh w.params z.s M G lh k3 r c)::gC r c) (da+1) from rfl,xI,<- Xl] at dz;exact ⟨ca ct.objs.size aA.toks ([bH,mz,ke,fw,bh,c,da,lh,k3,0,0,0,0,0,0,0,0,0]++Ec),rfl,trivial,rfl,rfl,bz.ny ((dz.cast (dc:=[[(bH,kb fw (.ref bh))],[(bh,fv .none G .none (uT (ca ct.objs.size aA.toks ([bH,mz,ke,fw,bh,c,da,lh,k3,0,0,0,0,0,0,0,0,0]++Ec)) 20))],[(G,{nh w.params z.s M G lh k3 r c with slots:=lX (lV G) (gC r c) (nh w.params z.s M G lh k3 r c) (da+1)})],bP (mC (gC r c) (nh w.params z.s M G lh k3 r c) (da+1)),bX w.params z ⟨.ref mz,0,ar,0,au,Z,aE,aa,K⟩,[(mz,I ((eI z.cb Z 0 12).map ad) ke)]]) (by kernel_rfl)).kn (aY 0x1310542) rfl) rfl (by kernel_rfl)⟩
end
section
noncomputable abbrev gd (l as:a6) :bW:=!(oh l as 0 l.length 1).isEmpty
noncomputable abbrev tt (c d:y) :bW:=(U [c]).cps.toList==(U [d]).cps.toList
noncomputable abbrev lI (c:y) :bW:=(U [c]).cps.toList==(Hf "\n").cps.toList
variable {w:aG}
theorem aen {l:B y}{t N:y}{ap:aK ag}(ex:l.length=N)(al:N<1000000) :
  b0 w 0 (.builtin "len" ⟨[.str (U l) t],[]⟩) ap [] (λx=>.ok (.ret (.int (N:ai) (x 2)))) (λ_=>[]) (λ_=>[]) (λ_=>bZ):=by
 subst ex;refine nj (v:=λbe=>.int (l.length:ai) be) λA s aS has=>?_;refine h5 entry_len λei Q E gG dh dC iB=>?_;unfold Builtin.«len»;refine bE (m:=oneArg "len" _) (wpAny_pure ?_);refine bE (m:=H4 (.str (U l) t) (s1 "__len__")) (Pw (name:=s1 "__len__") (F3 _ _ _) F.slot_str_len
  (Px F.slot_str_len (F3 _ _ _) F.entry_str_len ?_ (F.args_str_len_1 _)))
 show wpAny _ _ (do retInt (l.length:y)) _ _ s;refine bE (p4 (wpAny_pure ⟨_,rfl,?_⟩));refine bE (oa (wpAny_pure ?_));refine bE (u7 ?_);show wpAny _ _ (if ((l.length:y) :ai)<0 then _ else _) _ _ _;refine H (dt (by omega) ..) ?_;show wpAny _ _ (if ((l.length:y) :ai) >= 2 ^ 63 then _ else _) _ _ _;refine H (dt (by omega) ..) ?_;exact bE (p4 (wpAny_pure (dh _ _ ⟨_,rfl,rfl,rfl,rfl⟩)))
noncomputable def yu (w:aG)(l:B y)(t N:y)(ap:aK ag)(ex:l.length=N)(al:N<1000000) :cV w:=⟨0,_,ap,_,_,_,_,_,aen (w:=w) (l:=l) (t:=t) (ap:=ap) ex al⟩
theorem adW {l m dH:B y}{t u:y}{ap:aK ag}(he:l++m=dH)(al:dH.length<1000000) :
  b0 w 0 (.builtin "str.__add__" ⟨[.str (U l) t,.str (U m) u],[]⟩) ap [] (λx=>.ok (.ret (.str (U dH) (x 2)))) (λ_=>[]) (λ_=>[]) (λ_=>bZ):=by
 subst he;refine nj (v:=λbe=>.str (U (l++m)) be) λA s aS has=>?_;refine oS (kd (by kernel_rfl)) (by kernel_rfl) (by kernel_rfl) (S:=Made.spec _) (gives_str_add (U l) (U m) t u) ?_;show Made.post _ _ s;split
 ·rename_i h
  have:l=[]:=by simpa [U,Hp] using h
  subst this;exact ⟨u,rfl,rfl,rfl,rfl⟩
 ·split
  ·rename_i h
   have:m=[]:=by simpa [U,Hp] using h
   subst this;exact ⟨t,by exact H (d9 ..) rfl,rfl,rfl,rfl⟩
  ·refine ⟨?_,s.toks,?_,rfl,rfl,rfl⟩
   ·show (U l++U m).cps.size<=_
    refine H (jr ..) ?_;simp [U] at al ⊢;show (⟨l⟩++⟨m⟩ :cp y).size<=_;simp;omega
   ·show (Except.ok (Flow.ret (Value.str (U l++U m) s.toks)) :cD)=_
    congr 3;show (⟨⟨l⟩++⟨m⟩⟩ :a6)=⟨⟨l++m⟩⟩;simp
noncomputable def td (w:aG)(l m dH:B y)(t u:y)(ap:aK ag)(he:l++m=dH)(al:dH.length<1000000) :cV w:=⟨0,_,ap,_,_,_,_,_,adW (w:=w) (l:=l) (m:=m) (t:=t) (u:=u) (ap:=ap) he al⟩
theorem aeD {l dH:B y}{t a av iI p q:y}{wS nZ:ai}{ap:aK ag}(L:wS=(p:ai))(a4:nZ=(q:ai))(az:p<=q)(aJ:q<=l.length)(he:(l.drop p).take (q - p)=dH)(al:l.length<1000000) :
  b0 w 0 (.builtin "str.__getitem__" ⟨[.str (U l) t,.ref a],[]⟩) ap [(a,q7 (.int wS av) (.int nZ iI))] (λx=>.ok (.ret (.str (U dH) (x 2)))) (λ_=>[q7 (.int wS av) (.int nZ iI)]) (λ_=>[]) (λ_=>bZ):=by
 subst he L a4;refine nj (v:=λbe=>.str (U ((l.drop p).take (q - p))) be) (pre:=[(a,q7 (.int p av) (.int q iI))]) λA s aS has=>?_;have b1:=has (a,q7 (.int p av) (.int q iI)) (by simp);have hlen:(U l).length=l.length:=by simp [U,Hp]
 have Ye:slicePicked (U l) (some ((p:ai),av)) (some ((q:ai),iI)) none=(lA (q - p)).map (λk=>p+k):=StrLaws.strSliceIndices_plain az (by rw [hlen];exact aJ);have nM:((slicePicked (U l) (some ((p:ai),av)) (some ((q:ai),iI)) none).filterMap ((U l).cps[·]?))=(l.drop p).take (q - p):=StrLaws.sliced_plain (U l) az (by rw [hlen];exact aJ);refine oS (kd (by kernel_rfl)) (by kernel_rfl) (by kernel_rfl) (meets_str_getitem_slice (U l) t a (some ((p:ai),av)) (some ((q:ai),iI)) none rfl) ⟨⟨_,b1,rfl,rfl⟩,?_⟩;unfold sliceMade;rw [nM];split
 ·rename_i h
  have e:q - p=l.length:=by rw [Ye,hlen] at h;simpa using h
  have bt:p=0:=by omega
  refine ⟨t,?_,rfl,rfl,rfl⟩;show (Except.ok (Flow.ret (Value.str (U l) t)) :cD)=Except.ok (Flow.ret (Value.str (U ((l.drop p).take (q - p))) t));exact H bt (H (List.drop_zero ..) (H (Qj (by omega) ..) rfl))
 ·refine ⟨?_,s.toks,?_,rfl,rfl,rfl⟩
  ·show ((l.drop p).take (q - p)).toArray.size<=_
   refine H (jr ..) ?_;simp;omega
  ·rfl
noncomputable def HZ (w:aG)(l dH:B y)(t a av iI p q:y)(wS nZ:ai)(ap:aK ag)(L:wS=(p:ai))(a4:nZ=(q:ai))(az:p<=q)(aJ:q<=l.length)(he:(l.drop p).take (q - p)=dH)(al:l.length<1000000) :cV w:=⟨0,_,ap,_,_,_,_,_,aeD (w:=w) (l:=l) (t:=t) (a:=a) (av:=av) (iI:=iI) (ap:=ap) L a4 az aJ he al⟩
theorem aeh {x as:a6}{t u:y}{b:bW}{ap:aK ag}(h:(!(oh x as 0 x.length 1).isEmpty)=b) :
  b0 w 0 (.builtin "str.__contains__" ⟨[.str x t,.str as u],[]⟩) ap [] (λ_=>.ok (.ret (.bool b))) (λ_=>[]) (λ_=>[]) (λ_=>bZ):=by
 subst h;refine nj (v:=λ_=>.bool (!(oh x as 0 x.length 1).isEmpty)) λA s aS has=>?_;exact oS (kd (by kernel_rfl)) (by kernel_rfl) (by kernel_rfl) (S:=Made.spec _) (gives_str_contains x as t u) ⟨0,rfl,rfl,rfl,rfl⟩
noncomputable def fU (w:aG)(x as:a6)(t u:y)(b:bW)(ap:aK ag)(h:(!(oh x as 0 x.length 1).isEmpty)=b) :cV w:=⟨0,_,ap,_,_,_,_,_,aeh (w:=w) (x:=x) (as:=as) (t:=t) (u:=u) (ap:=ap) h⟩
theorem ae3 {a cN ar u:y}{x as aq:a6}{b:bW}{ap:aK ag}(h:([as,aq].any (·==x))=b) :
  b0 w 0 (.builtin "tuple.__contains__" ⟨[.ref a,.str x u],[]⟩) ap [(a,di [.str as cN,.str aq ar])] (λ_=>.ok (.ret (.bool b))) (λ_=>[di [.str as cN,.str aq ar]]) (λ_=>[]) (λ_=>bZ):=by
 subst h;refine nj (v:=λ_=>.bool ([as,aq].any (·==x))) (pre:=[(a,di [.str as cN,.str aq ar])]) λA s aS has=>?_;have b1:=has (a,di [.str as cN,.str aq ar]) (by simp);refine h5 PySem.F.entry_tuple_contains λei Q E gG dh dC iB=>?_;exact tuple_contains_strs (ys:=[as,aq]) ⟨_,b1,rfl,0,rfl⟩ (.cons as cN (.cons aq ar .nil)) (dh _ _ ⟨0,rfl,rfl,rfl,rfl⟩)
noncomputable def tf (w:aG)(a cN ar u:y)(x as aq:a6)(b:bW)(ap:aK ag)(h:([as,aq].any (·==x))=b) :cV w:=⟨0,_,ap,_,_,_,_,_,ae3 (w:=w) (a:=a) (cN:=cN) (ar:=ar) (u:=u) (ap:=ap) h⟩
end
noncomputable abbrev f3 (P:bp)(ck:y)(af:B y)(db:y)(p:ai)(av:y) :ao:={cls:=(.type "dict"),data:=(.dict ⟨[aj P Fe (ck+16) (.str (U [10]) 982),aj P Fl (ck+19) (.str (U af) db),aj P Fk (ck+22) (.int p av)]⟩ 3)}
noncomputable abbrev fM (d:y) :ao:={cls:=(.ref 745),data:=.plain,dict:=(some d)}
noncomputable abbrev hp (d:y) :ao:={cls:=(.ref 880),data:=.plain,dict:=(some d)}
noncomputable abbrev et:ao:={cls:=(.type "collections.deque"),data:=(.fields ⟨[.none,.int 0 0]⟩)}
noncomputable def l0:a6:=U [97,98,99,100,102,101,103,104,105,106,107,108,109,110,111,112,113,114,115,116,117,118,119,120,121,122,65,66,67,68,69,70,71,72,73,74,75,76,77,78,79,80,81,82,83,84,85,86,87,88,89,90,48,49,50,51,52,53,54,55,56,57,95,223,224,225,226,227,228,229,230,231,232,233,234,235,236,237,238,239,240,241,242,243,244,245,246,248,249,250,251,252,253,254,255,192,193,194,195,196,197,198,199,200,201,202,203,204,205,206,207,208,209,210,211,212,213,214,216,217,218,219,220,221,222]
structure gO where
 l:y
 gK:y
 br:y
 bs:y
 zY:y
 yQ:y
 ck:y
 c8:y
 db:y
 af:B y
noncomputable abbrev ho (P:bp)(X:gO)(c1 a8:ag) :ao:={cls:=(.type "dict"),data:=(.dict ⟨[aj P [105,110,115,116,114,101,97,109] (X.ck+33) (.ref X.br),aj P [105,110,102,105,108,101] (X.ck+35) .none,aj P [112,111,115,105,120] (X.ck+37) (.bool true),aj P [101,111,102] (X.ck+39) .none,aj P [99,111,109,109,101,110,116,101,114,115] (X.ck+42) (.str (U []) X.c8),aj P [119,111,114,100,99,104,97,114,115] (X.ck+45) (.str l0 (X.ck+49)),aj P [119,104,105,116,101,115,112,97,99,101] (X.ck+54) (.str (U j0) (X.ck+52)),aj P [119,104,105,116,101,115,112,97,99,101,95,115,112,108,105,116] (X.ck+56) (.bool true),aj P [113,117,111,116,101,115] (X.ck+59) (.str (U [39,34]) (X.ck+57)),aj P [101,115,99,97,112,101] (X.ck+62) (.str (U [92]) (X.ck+60)),aj P [101,115,99,97,112,101,100,113,117,111,116,101,115] (X.ck+65) (.str (U [34]) (X.ck+63)),aj P [115,116,97,116,101] (X.ck+68) c1,aj P [112,117,115,104,98,97,99,107] (X.ck+70) (.ref X.zY),aj P [108,105,110,101,110,111] (X.ck+73) (.int 1 (X.ck+71)),aj P [100,101,98,117,103] (X.ck+76) (.int 0 (X.ck+74)),aj P z4 (X.ck+79) a8,aj P [102,105,108,101,115,116,97,99,107] (X.ck+81) (.ref X.yQ),aj P [115,111,117,114,99,101] (X.ck+83) .none,aj P [95,112,117,110,99,116,117,97,116,105,111,110,95,99,104,97,114,115] (X.ck+87) (.str (U []) (X.ck+84))]⟩ 19)}
noncomputable abbrev eh (P:bp)(X:gO)(c1 a8:ag)(p:ai)(av:y) :B (aM×ao):=[(X.l,hp X.gK),(X.gK,ho P X c1 a8),(X.br,fM X.bs),(X.bs,f3 P X.ck X.af X.db p av),(X.zY,et),(X.yQ,et)]
noncomputable def ads:=sG (e7 33 6).2.1[2]?
noncomputable abbrev adl:a6:=U Ff
noncomputable abbrev gX (G:aM) :cn:=Em (e7 33 6) ads adl 848 847 G
noncomputable abbrev sx (P:bp)(l M ab ae:y)(q:bW)(aC:a6)(b5:y) :ao:=eM [aj P gv M (.ref l),aj P [113,117,111,116,101,100] ab (.bool q),aj P Nq ae (.str aC b5)] 3
noncomputable abbrev gY (P:bp)(l M ab ae ak:y)(q:bW)(aC:a6)(b5:y)(c:B y)(c8:y) :ao:=eM [aj P gv M (.ref l),aj P [113,117,111,116,101,100] ab (.bool q),aj P Nq ae (.str aC b5),aj P [110,101,120,116,99,104,97,114] ak (.str (U c) c8)] 4
section
section
variable (w:aG)(br bs ck db av cN:y)(af:B y)(p c:y)(bM:af.length<1000000)(az:decide ((p:ai) >= (af.length:ai))=false)(aJ:decide ((p:ai)+1<(af.length:ai))=true)(bg:p<=p+1)(cS:p+1<=af.length)(dI:(af.drop p).take (p+1 - p)=[c])
noncomputable def acN (n t:y) :bb w:=
  .ax ER EY 3 (yu w af db af.length none rfl bM) [] λah=>.ax [3,3,3,3] [0,2] 0 (BY w (↑p) (↑af.length) av (ah 2) false none az) [] λaN=>.ax [3,3,3] [0,0,0,2] 0 (jN w (↑p) 1 (↑p+1) av cN none rfl) [] λbx=>.ax [3] [0,2] 0 (lD w (↑p+1) (↑af.length) (bx 2) (ah 2) true none aJ) [] λcj=>.ax [3,3] [0,2] 0 (jN w (↑p) 1 (↑p+1) av cN none rfl) [] λcg=>.ax (aY 0x13320110000000100000001322201000000010101000000013333) [0,0,0,0,2] 1 (HZ w af ([c]) db (cg 0) av (cg 2) p (p+1) (↑p) (↑p+1) none rfl rfl bg cS dI bM) [5] λfc=>.bd [] [] 0 (.ret (.ok (.ret (.str (U [c]) (fc 2))))) [(0,fM bs),(1,{cls:=(.type "dict"),data:=(.dict ⟨[aj w.params Fe (ck+16) (.str (U [10]) 982),aj w.params Fl (ck+19) (.str (U af) db),aj w.params Fk (ck+22) (.int (↑p+1) (cg 2))]⟩ 3)})]
theorem acO:b2 w 1 none ([(br,fM bs),(bs,f3 w.params ck af db (p:ai) av)]) (.call (.ref 691) ⟨[.ref br,.int 1 cN],[]⟩) (acN w bs ck db av cN af p c bM az aJ bg cS dI):=by revert w;exact cX
section
variable (aJ:decide ((p:ai)+1<(af.length:ai))=false)(bg:p<=af.length)(cS:af.length<=af.length)(dI:(af.drop p).take (af.length - p)=[c])
noncomputable def acR (n t:y) :bb w:=
  .ax ER EY 3 (yu w af db af.length none rfl bM) [] λah=>.ax [3,3,3,3] [0,2] 0 (BY w (↑p) (↑af.length) av (ah 2) false none az) [] λaN=>.ax [3,3,3] [0,0,0,2] 0 (jN w (↑p) 1 (↑p+1) av cN none rfl) [] λbx=>.ax [3] [0,2] 0 (lD w (↑p+1) (↑af.length) (bx 2) (ah 2) false none aJ) [] λcj=>.ax (aY 0x133201100000001000000013222010000000101010000000133) [0,0,0,0,2] 1 (HZ w af ([c]) db (cj 0) av (ah 2) p af.length (↑p) (↑af.length) none rfl rfl bg cS dI bM) [5] λcg=>.bd [] [] 0 (.ret (.ok (.ret (.str (U [c]) (cg 2))))) [(0,fM bs),(1,{cls:=(.type "dict"),data:=(.dict ⟨[aj w.params Fe (ck+16) (.str (U [10]) 982),aj w.params Fl (ck+19) (.str (U af) db),aj w.params Fk (ck+22) (.int (↑af.length) (ah 2))]⟩ 3)})]
theorem acS:b2 w 1 none ([(br,fM bs),(bs,f3 w.params ck af db (p:ai) av)]) (.call (.ref 691) ⟨[.ref br,.int 1 cN],[]⟩) (acR w bs ck db av cN af p c bM az aJ bg cS dI):=by revert w;exact cX
end
section
variable (az:decide ((p:ai) >= (af.length:ai))=true)
noncomputable def acP (n t:y) :bb w:=
  .ax ER EY 3 (yu w af db af.length none rfl bM) [] λah=>.ax [3,3,3,3] [0,2] 0 (BY w (↑p) (↑af.length) av (ah 2) true none az) [] λaN=>.bd [] [] 0 (.ret (.ok (.ret (.str (U []) (aN 1))))) [(0,fM bs),(1,f3 w.params ck af db (↑p) av)]
theorem acQ:b2 w 1 none ([(br,fM bs),(bs,f3 w.params ck af db (p:ai) av)]) (.call (.ref 691) ⟨[.ref br,.int 1 cN],[]⟩) (acP w bs ck db av af p bM az):=by revert w;exact cX
end
end
section
variable {w:aG}
theorem acV {br bs ck db av cN p c:y}{af r:B y}(bM:af.length<1000000)(h:af.drop p=c::r) :
  b0 w 1 (.call (.ref 691) ⟨[.ref br,.int 1 cN],[]⟩) none [(br,fM bs),(bs,f3 w.params ck af db (p:ai) av)] (λx=>.ok (.ret (.str (U [c]) (x 2)))) (λx=>[fM bs,f3 w.params ck af db ((p+1:y) :ai) (x 3)]) (λ_=>[]) (λ_=>bZ):=by
 have al:af.length - p=(c::r).length:=by exact df h (H (GY ..) rfl)
 rw [ed] at al;by_cases aJ:p+1<af.length
 ·exact dy (acO w br bs ck db av cN af p c bM (md (by omega)) (k5 (by omega)) (by omega) (by omega) (by refine H h ?_;simp)) (λn t X a b=>ca a b [X 5 2,X 4 2]) λn t X a b=>⟨by kernel_rfl,rfl,trivial⟩
 ·have e:p+1=af.length:=by omega
  refine dy (acS w br bs ck db av cN af p c bM (md (by omega)) (md (by omega)) (by omega) (fk _) (by refine H h (H al (H (Qg.mp (show r.length=0 by omega) ..) ?_));rfl)) (λn t X a b=>ca a b [X 4 2,X 0 2]) λn t X a b=>⟨?_,rfl,trivial⟩;refine H e ?_;kernel_rfl
theorem acU {br bs ck db av cN p:y}{af:B y}(bM:af.length<1000000)(h:af.drop p=[]) :
  b0 w 1 (.call (.ref 691) ⟨[.ref br,.int 1 cN],[]⟩) none [(br,fM bs),(bs,f3 w.params ck af db (p:ai) av)] (λx=>.ok (.ret (.str (U []) (x 2)))) (λx=>[fM bs,f3 w.params ck af db (p:ai) av]) (λ_=>[]) (λ_=>bZ):=by
 have al:af.length<=p:=by simpa using h
 exact dy (acQ w br bs ck db av cN af p bM (k5 (by omega))) (λn t X a b=>ca a b [X 1 1]) λn t X a b=>⟨by kernel_rfl,rfl,trivial⟩
end
noncomputable def l9 (w:aG)(br bs ck db av cN p c:y)(af r:B y)(bM:af.length<1000000)(h:af.drop p=c::r) :cV w:=⟨1,_,none,_,_,_,_,_,acV (w:=w) (br:=br) (bs:=bs) (ck:=ck) (db:=db) (av:=av) (cN:=cN) bM h⟩
noncomputable def B0 (w:aG)(br bs ck db av cN p:y)(af:B y)(bM:af.length<1000000)(h:af.drop p=[]) :cV w:=⟨1,_,none,_,_,_,_,_,acU (w:=w) (br:=br) (bs:=bs) (ck:=ck) (db:=db) (av:=av) (cN:=cN) bM h⟩
end
section
section
variable (w:aG)(X:gO)(G M ab ae b5 be bL p av:y)(q:bW)(d:y)(bC:B y)(ak gD:y)(gQ:B y)(c:y)(r:B y)(bM:X.af.length<1000000)(a9:X.af.drop p=[])(hs:([U [97],U [99]].any (·==(U [97])))=true)
noncomputable def ac2 (n t:y) :bb w:=
  .ax kJ kK 1 (B0 w X.br X.bs X.ck X.db av (t+6) p X.af bM a9) [3,4] λah=>.bd (aY 0x13330200020202000211302200020002130220002000213022000200021111) (aY 0x100000000000000) 0 (.ret (.ok .next)) [(0,gY w.params X.l M ab ae (ah 1) false (U [32]) b5 ([]) (ah 2)),(1,hp X.gK),(2,ho w.params X .none (.str (U []) bL)),(3,fM X.bs),(4,f3 w.params X.ck X.af X.db (↑p) av),(5,et),(6,et)]
theorem ac3:b2 w 2 none ((G,sx w.params X.l M ab ae false (U [32]) b5)::eh w.params X (.str (U [32]) be) (.str (U []) bL) (p:ai) av) (gX G) (ac2 w X M ab ae b5 bL p av bM a9):=by revert w;exact cX
section
variable (a9:X.af.drop p=c::r)(bK:lI c=false)(az:gd (U j0) (U [c])=false)(aJ:gd (U []) (U [c])=false)(bg:gd (U [92]) (U [c])=false)(cS:gd l0 (U [c])=false)(dI:gd (U [39,34]) (U [c])=true)
noncomputable def ac6 (n t:y) :bb w:=
  .ax kJ kK 1 (l9 w X.br X.bs X.ck X.db av (t+6) p c X.af r bM a9) [3,4] λah=>.ax [1,1,1] [0,2] 0 (iO w (U [c]) (U [10]) (ah 2) (ah 1+1) false none bK) [] λaN=>.ax Fg E5 0 (fU w (U j0) (U [c]) (X.ck+52) (ah 2) false none az) [] λbx=>.ax lU [0,0,2] 0 (fU w (U []) (U [c]) X.c8 (ah 2) false none aJ) [] λcj=>.ax qW [0,0,0,2] 0 (fU w (U [92]) (U [c]) (X.ck+60) (ah 2) false none bg) [] λcg=>.ax lU [0,0,2] 0 (fU w l0 (U [c]) (X.ck+49) (ah 2) false none cS) [] λfc=>.ax Nz xc 1 (fU w (U []) (U [c]) (X.ck+84) (ah 2) false none aJ) [] λfS=>.ax lU [0,0,2] 0 (fU w (U [39,34]) (U [c]) (X.ck+57) (ah 2) true none dI) [] λjH=>.bd (aY 0x133302000202020002113022000200021) [0,0,0,3] 0 (.dr (gX G)) [(0,gY w.params X.l M ab ae (ah 1) false (U [32]) b5 ([c]) (ah 2)),(1,hp X.gK),(2,ho w.params X (.str (U [c]) (ah 2)) (.str (U []) bL)),(3,fM X.bs),(4,f3 w.params X.ck X.af X.db (↑(p+1)) (ah 3)),(5,et),(6,et)]
theorem ac7:b2 w 2 none ((G,sx w.params X.l M ab ae false (U [32]) b5)::eh w.params X (.str (U [32]) be) (.str (U []) bL) (p:ai) av) (gX G) (ac6 w X G M ab ae b5 bL p av c r bM a9 bK az aJ bg cS dI):=by revert w;exact cX
end
section
variable (a9:X.af.drop p=c::r)(bK:lI c=false)(az:gd (U j0) (U [c])=false)(aJ:gd (U []) (U [c])=false)(bg:gd (U [92]) (U [c])=false)(cS:gd l0 (U [c])=true)
noncomputable def ac8 (n t:y) :bb w:=
  .ax kJ kK 1 (l9 w X.br X.bs X.ck X.db av (t+6) p c X.af r bM a9) [3,4] λah=>.ax [1,1,1] [0,2] 0 (iO w (U [c]) (U [10]) (ah 2) (ah 1+1) false none bK) [] λaN=>.ax Fg E5 0 (fU w (U j0) (U [c]) (X.ck+52) (ah 2) false none az) [] λbx=>.ax lU [0,0,2] 0 (fU w (U []) (U [c]) X.c8 (ah 2) false none aJ) [] λcj=>.ax qW [0,0,0,2] 0 (fU w (U [92]) (U [c]) (X.ck+60) (ah 2) false none bg) [] λcg=>.ax lU [0,0,2] 0 (fU w l0 (U [c]) (X.ck+49) (ah 2) true none cS) [] λfc=>.bd (aY 0x13330200020202000213330200020202000211) [0,0,0,0,3] 0 (.dr (gX G)) [(0,gY w.params X.l M ab ae (ah 1) false (U [32]) b5 ([c]) (ah 2)),(1,hp X.gK),(2,ho w.params X (.str (U [97]) (fc 1+2)) (.str (U [c]) (ah 2))),(3,fM X.bs),(4,f3 w.params X.ck X.af X.db (↑(p+1)) (ah 3)),(5,et),(6,et)]
theorem ac9:b2 w 2 none ((G,sx w.params X.l M ab ae false (U [32]) b5)::eh w.params X (.str (U [32]) be) (.str (U []) bL) (p:ai) av) (gX G) (ac8 w X G M ab ae b5 p av c r bM a9 bK az aJ bg cS):=by revert w;exact cX
end
section
variable (a9:X.af.drop p=c::r)(bK:lI c=false)(az:gd (U j0) (U [c])=false)(aJ:gd (U []) (U [c])=false)(bg:gd (U [92]) (U [c])=false)(cS:gd l0 (U [c])=false)(dI:gd (U [39,34]) (U [c])=false)
noncomputable def ac4 (n t:y) :bb w:=
  .ax kJ kK 1 (l9 w X.br X.bs X.ck X.db av (t+6) p c X.af r bM a9) [3,4] λah=>.ax [1,1,1] [0,2] 0 (iO w (U [c]) (U [10]) (ah 2) (ah 1+1) false none bK) [] λaN=>.ax Fg E5 0 (fU w (U j0) (U [c]) (X.ck+52) (ah 2) false none az) [] λbx=>.ax lU [0,0,2] 0 (fU w (U []) (U [c]) X.c8 (ah 2) false none aJ) [] λcj=>.ax qW [0,0,0,2] 0 (fU w (U [92]) (U [c]) (X.ck+60) (ah 2) false none bg) [] λcg=>.ax lU [0,0,2] 0 (fU w l0 (U [c]) (X.ck+49) (ah 2) false none cS) [] λfc=>.ax Nz xc 1 (fU w (U []) (U [c]) (X.ck+84) (ah 2) false none aJ) [] λfS=>.ax lU [0,0,2] 0 (fU w (U [39,34]) (U [c]) (X.ck+57) (ah 2) false none dI) [] λjH=>.bd (aY 0x133302000202020002133302000202020002113022000200021) (aY 0x1300000) 0 (.dr (gX G)) [(0,gY w.params X.l M ab ae (ah 1) false (U [32]) b5 ([c]) (ah 2)),(1,hp X.gK),(2,ho w.params X (.str (U [97]) (jH 1+3)) (.str (U [c]) (ah 2))),(3,fM X.bs),(4,f3 w.params X.ck X.af X.db (↑(p+1)) (ah 3)),(5,et),(6,et)]
theorem ac5:b2 w 2 none ((G,sx w.params X.l M ab ae false (U [32]) b5)::eh w.params X (.str (U [32]) be) (.str (U []) bL) (p:ai) av) (gX G) (ac4 w X G M ab ae b5 p av c r bM a9 bK az aJ bg cS dI):=by revert w;exact cX
end
section
variable (a9:X.af.drop p=c::r)(bK:lI c=false)(az:tt c 39=true)
noncomputable def ado (n t:y) :bb w:=
  .ax kJ kK 1 (l9 w X.br X.bs X.ck X.db av (t+6) p c X.af r bM a9) [3,4] λah=>.ax [1,1,1] [0,2] 0 (iO w (U [c]) (U [10]) (ah 2) (ah 1+1) false none bK) [] λaN=>.ax xt uC 0 (iO w (U [c]) (U [39]) (ah 2) be true none az) [] λbx=>.bd NB [0,0,0,3] 0 (.dr (gX G)) [(0,gY w.params X.l M ab ae ak true (U [32]) b5 ([c]) (ah 2)),(1,hp X.gK),(2,ho w.params X (.str (U [97]) (bx 1+1)) (.str (U bC) bL)),(3,fM X.bs),(4,f3 w.params X.ck X.af X.db (↑(p+1)) (ah 3)),(5,et),(6,et)]
theorem adp:b2 w 2 none ((G,gY w.params X.l M ab ae ak q (U [32]) b5 gQ gD)::eh w.params X (.str (U [39]) be) (.str (U bC) bL) (p:ai) av) (gX G) (ado w X G M ab ae b5 be bL p av bC ak c r bM a9 bK az):=by revert w;exact cX
end
section
variable (a9:X.af.drop p=c::r)(bK:lI c=false)(az:tt c 39=false)(aJ:gd (U [92]) (U [c])=false)(cM:(bC++[c]).length<1000000)
noncomputable def adq (n t:y) :bb w:=
  .ax kJ kK 1 (l9 w X.br X.bs X.ck X.db av (t+6) p c X.af r bM a9) [3,4] λah=>.ax [1,1,1] [0,2] 0 (iO w (U [c]) (U [10]) (ah 2) (ah 1+1) false none bK) [] λaN=>.ax xt uC 0 (iO w (U [c]) (U [39]) (ah 2) be false none az) [] λbx=>.ax qW [0,0,0,2] 0 (fU w (U [92]) (U [c]) (X.ck+60) (ah 2) false none aJ) [] λcj=>.ax z5 [0,0,2] 0 (td w bC ([c]) (bC++[c]) bL (ah 2) none rfl cM) [] λcg=>.bd wV [0,0,3] 0 (.dr (gX G)) [(0,gY w.params X.l M ab ae ak true (U [32]) b5 ([c]) (ah 2)),(1,hp X.gK),(2,ho w.params X (.str (U [39]) be) (.str (U (bC++[c])) (cg 2))),(3,fM X.bs),(4,f3 w.params X.ck X.af X.db (↑(p+1)) (ah 3)),(5,et),(6,et)]
theorem adr:b2 w 2 none ((G,gY w.params X.l M ab ae ak q (U [32]) b5 gQ gD)::eh w.params X (.str (U [39]) be) (.str (U bC) bL) (p:ai) av) (gX G) (adq w X G M ab ae b5 be bL p av bC ak c r bM a9 bK az aJ cM):=by revert w;exact cX
end
section
variable (a9:X.af.drop p=c::r)(bK:lI c=false)(az:tt c 39=false)(aJ:gd (U [92]) (U [c])=true)(cM:(bC++[c]).length<1000000)
noncomputable def adm (n t:y) :bb w:=
  .ax kJ kK 1 (l9 w X.br X.bs X.ck X.db av (t+6) p c X.af r bM a9) [3,4] λah=>.ax [1,1,1] [0,2] 0 (iO w (U [c]) (U [10]) (ah 2) (ah 1+1) false none bK) [] λaN=>.ax xt uC 0 (iO w (U [c]) (U [39]) (ah 2) be false none az) [] λbx=>.ax qW [0,0,0,2] 0 (fU w (U [92]) (U [c]) (X.ck+60) (ah 2) true none aJ) [] λcj=>.ax (aY 0x11302200020002130220002000213022000200021) kL 0 (td w bC ([c]) (bC++[c]) bL (ah 2) none rfl cM) [] λcg=>.bd wV [0,0,3] 0 (.dr (gX G)) [(0,gY w.params X.l M ab ae ak true (U [32]) b5 ([c]) (ah 2)),(1,hp X.gK),(2,ho w.params X (.str (U [39]) be) (.str (U (bC++[c])) (cg 2))),(3,fM X.bs),(4,f3 w.params X.ck X.af X.db (↑(p+1)) (ah 3)),(5,et),(6,et)]
theorem adn:b2 w 2 none ((G,gY w.params X.l M ab ae ak q (U [32]) b5 gQ gD)::eh w.params X (.str (U [39]) be) (.str (U bC) bL) (p:ai) av) (gX G) (adm w X G M ab ae b5 be bL p av bC ak c r bM a9 bK az aJ cM):=by revert w;exact cX
end
section
variable (a9:X.af.drop p=c::r)(bK:lI c=false)(az:tt c 34=true)
noncomputable def ade (n t:y) :bb w:=
  .ax kJ kK 1 (l9 w X.br X.bs X.ck X.db av (t+6) p c X.af r bM a9) [3,4] λah=>.ax [1,1,1] [0,2] 0 (iO w (U [c]) (U [10]) (ah 2) (ah 1+1) false none bK) [] λaN=>.ax xt uC 0 (iO w (U [c]) (U [34]) (ah 2) be true none az) [] λbx=>.bd NB [0,0,0,3] 0 (.dr (gX G)) [(0,gY w.params X.l M ab ae ak true (U [32]) b5 ([c]) (ah 2)),(1,hp X.gK),(2,ho w.params X (.str (U [97]) (bx 1+1)) (.str (U bC) bL)),(3,fM X.bs),(4,f3 w.params X.ck X.af X.db (↑(p+1)) (ah 3)),(5,et),(6,et)]
theorem adf:b2 w 2 none ((G,gY w.params X.l M ab ae ak q (U [32]) b5 gQ gD)::eh w.params X (.str (U [34]) be) (.str (U bC) bL) (p:ai) av) (gX G) (ade w X G M ab ae b5 be bL p av bC ak c r bM a9 bK az):=by revert w;exact cX
end
section
variable (a9:X.af.drop p=c::r)(bK:lI c=false)(az:tt c 34=false)(aJ:gd (U [92]) (U [c])=false)(cM:(bC++[c]).length<1000000)
noncomputable def adg (n t:y) :bb w:=
  .ax kJ kK 1 (l9 w X.br X.bs X.ck X.db av (t+6) p c X.af r bM a9) [3,4] λah=>.ax [1,1,1] [0,2] 0 (iO w (U [c]) (U [10]) (ah 2) (ah 1+1) false none bK) [] λaN=>.ax xt uC 0 (iO w (U [c]) (U [34]) (ah 2) be false none az) [] λbx=>.ax qW [0,0,0,2] 0 (fU w (U [92]) (U [c]) (X.ck+60) (ah 2) false none aJ) [] λcj=>.ax z5 [0,0,2] 0 (td w bC ([c]) (bC++[c]) bL (ah 2) none rfl cM) [] λcg=>.bd wV [0,0,3] 0 (.dr (gX G)) [(0,gY w.params X.l M ab ae ak true (U [32]) b5 ([c]) (ah 2)),(1,hp X.gK),(2,ho w.params X (.str (U [34]) be) (.str (U (bC++[c])) (cg 2))),(3,fM X.bs),(4,f3 w.params X.ck X.af X.db (↑(p+1)) (ah 3)),(5,et),(6,et)]
theorem adh:b2 w 2 none ((G,gY w.params X.l M ab ae ak q (U [32]) b5 gQ gD)::eh w.params X (.str (U [34]) be) (.str (U bC) bL) (p:ai) av) (gX G) (adg w X G M ab ae b5 be bL p av bC ak c r bM a9 bK az aJ cM):=by revert w;exact cX
end
noncomputable def adw (n t:y) :bb w:=
  .ax kJ kK 1 (B0 w X.br X.bs X.ck X.db av (t+6) p X.af bM a9) [3,4] λah=>.ax (aY 0x199930220002000213022000200021302200020002130220002000213022000200021302200020002130220002000213022000200021111) (aY 0x120000000000000000000) 1 (tf w (ah 0) (ah 1+12) (ah 1+13) be (U [97]) (U [97]) (U [99]) true none hs) [8] λaN=>.bd (aY 0x13330200020202000211) [0,0,0,0,0] 0 (.ret (.ok .next)) [(0,gY w.params X.l M ab ae ak q (U [32]) b5 ([]) (ah 2)),(1,hp X.gK),(2,ho w.params X .none (.str (U bC) bL)),(3,fM X.bs),(4,f3 w.params X.ck X.af X.db (↑p) av),(5,et),(6,et)]
theorem adx:b2 w 2 none ((G,gY w.params X.l M ab ae ak q (U [32]) b5 gQ gD)::eh w.params X (.str (U [97]) be) (.str (U bC) bL) (p:ai) av) (gX G) (adw w X M ab ae b5 be bL p av q bC ak bM a9 hs):=by revert w;exact cX
section
variable (a9:X.af.drop p=c::r)(bK:lI c=false)(az:gd (U j0) (U [c])=true)(cM:(d::bC).length<1000000)(hs:([U [97],U [99]].any (·==(U [97])))=true)
noncomputable def adC (n t:y) :bb w:=
  .ax kJ kK 1 (l9 w X.br X.bs X.ck X.db av (t+6) p c X.af r bM a9) [3,4] λah=>.ax [1,1,1] [0,2] 0 (iO w (U [c]) (U [10]) (ah 2) (ah 1+1) false none bK) [] λaN=>.ax xj xv 1 (tf w (aN 0) (aN 1+10) (aN 1+11) be (U [97]) (U [97]) (U [99]) true none hs) [8] λbx=>.ax wZ f1 0 (fU w (U j0) (U [c]) (X.ck+52) (ah 2) true none az) [] λcj=>.ax (aY 0x130220002000213330200020202000213022000200021) kL 0 (yu w (d::bC) bL ((d::bC).length) none rfl cM) [] λcg=>.bd [] [] 0 (.ret (.ok .next)) [(0,gY w.params X.l M ab ae ak q (U [32]) b5 ([c]) (ah 2)),(1,hp X.gK),(2,ho w.params X (.str (U [32]) (cj 1+2)) (.str (U (d::bC)) bL)),(3,fM X.bs),(4,f3 w.params X.ck X.af X.db (↑(p+1)) (ah 3)),(5,et),(6,et)]
theorem adD:b2 w 2 none ((G,gY w.params X.l M ab ae ak q (U [32]) b5 gQ gD)::eh w.params X (.str (U [97]) be) (.str (U (d::bC)) bL) (p:ai) av) (gX G) (adC w X M ab ae b5 be bL p av q d bC ak c r bM a9 bK az cM hs):=by revert w;exact cX
end
section
variable (a9:X.af.drop p=c::r)(bK:lI c=false)(az:gd (U j0) (U [c])=true)(hs:([U [97],U [99]].any (·==(U [97])))=true)
noncomputable def adE (n t:y) :bb w:=
  .ax kJ kK 1 (l9 w X.br X.bs X.ck X.db av (t+6) p c X.af r bM a9) [3,4] λah=>.ax [1,1,1] [0,2] 0 (iO w (U [c]) (U [10]) (ah 2) (ah 1+1) false none bK) [] λaN=>.ax xj xv 1 (tf w (aN 0) (aN 1+10) (aN 1+11) be (U [97]) (U [97]) (U [99]) true none hs) [8] λbx=>.ax wZ f1 0 (fU w (U j0) (U [c]) (X.ck+52) (ah 2) true none az) [] λcj=>.bd (aY 0x11302200020002130220002000213330200020202000213022000200021) z7 0 (.ret (.ok .next)) [(0,gY w.params X.l M ab ae ak true (U [32]) b5 ([c]) (ah 2)),(1,hp X.gK),(2,ho w.params X (.str (U [32]) (cj 1+2)) (.str (U []) bL)),(3,fM X.bs),(4,f3 w.params X.ck X.af X.db (↑(p+1)) (ah 3)),(5,et),(6,et)]
theorem adF:b2 w 2 none ((G,gY w.params X.l M ab ae ak true (U [32]) b5 gQ gD)::eh w.params X (.str (U [97]) be) (.str (U []) bL) (p:ai) av) (gX G) (adE w X M ab ae b5 be bL p av ak c r bM a9 bK az hs):=by revert w;exact cX
end
section
variable (a9:X.af.drop p=c::r)(bK:lI c=false)(az:gd (U j0) (U [c])=false)(aJ:gd (U []) (U [c])=false)(bg:gd (U [39,34]) (U [c])=true)(hs:([U [97],U [99]].any (·==(U [97])))=true)
noncomputable def adA (n t:y) :bb w:=
  .ax kJ kK 1 (l9 w X.br X.bs X.ck X.db av (t+6) p c X.af r bM a9) [3,4] λah=>.ax [1,1,1] [0,2] 0 (iO w (U [c]) (U [10]) (ah 2) (ah 1+1) false none bK) [] λaN=>.ax xj xv 1 (tf w (aN 0) (aN 1+10) (aN 1+11) be (U [97]) (U [97]) (U [99]) true none hs) [8] λbx=>.ax wZ f1 0 (fU w (U j0) (U [c]) (X.ck+52) (ah 2) false none az) [] λcj=>.ax lU [0,0,2] 0 (fU w (U []) (U [c]) X.c8 (ah 2) false none aJ) [] λcg=>.ax Fn kL 0 (fU w (U [39,34]) (U [c]) (X.ck+57) (ah 2) true none bg) [] λfc=>.bd (aY 0x13330200020202000211) [0,0,3] 0 (.dr (gX G)) [(0,gY w.params X.l M ab ae ak q (U [32]) b5 ([c]) (ah 2)),(1,hp X.gK),(2,ho w.params X (.str (U [c]) (ah 2)) (.str (U bC) bL)),(3,fM X.bs),(4,f3 w.params X.ck X.af X.db (↑(p+1)) (ah 3)),(5,et),(6,et)]
theorem adB:b2 w 2 none ((G,gY w.params X.l M ab ae ak q (U [32]) b5 gQ gD)::eh w.params X (.str (U [97]) be) (.str (U bC) bL) (p:ai) av) (gX G) (adA w X G M ab ae b5 be bL p av q bC ak c r bM a9 bK az aJ bg hs):=by revert w;exact cX
end
section
variable (a9:X.af.drop p=c::r)(bK:lI c=false)(az:gd (U j0) (U [c])=false)(aJ:gd (U []) (U [c])=false)(bg:gd (U [39,34]) (U [c])=false)(cS:gd (U [92]) (U [c])=false)(dI:gd l0 (U [c])=true)(cM:(bC++[c]).length<1000000)(hs:([U [97],U [99]].any (·==(U [97])))=true)
noncomputable def adu (n t:y) :bb w:=
  .ax kJ kK 1 (l9 w X.br X.bs X.ck X.db av (t+6) p c X.af r bM a9) [3,4] λah=>.ax [1,1,1] [0,2] 0 (iO w (U [c]) (U [10]) (ah 2) (ah 1+1) false none bK) [] λaN=>.ax xj xv 1 (tf w (aN 0) (aN 1+10) (aN 1+11) be (U [97]) (U [97]) (U [99]) true none hs) [8] λbx=>.ax wZ f1 0 (fU w (U j0) (U [c]) (X.ck+52) (ah 2) false none az) [] λcj=>.ax lU [0,0,2] 0 (fU w (U []) (U [c]) X.c8 (ah 2) false none aJ) [] λcg=>.ax Fn kL 0 (fU w (U [39,34]) (U [c]) (X.ck+57) (ah 2) false none bg) [] λfc=>.ax qW [0,0,0,2] 0 (fU w (U [92]) (U [c]) (X.ck+60) (ah 2) false none cS) [] λfS=>.ax lU [0,0,2] 0 (fU w l0 (U [c]) (X.ck+49) (ah 2) true none dI) [] λjH=>.ax z5 [0,0,2] 0 (td w bC ([c]) (bC++[c]) bL (ah 2) none rfl cM) [] λoc=>.bd wV [0,0,3] 0 (.dr (gX G)) [(0,gY w.params X.l M ab ae ak q (U [32]) b5 ([c]) (ah 2)),(1,hp X.gK),(2,ho w.params X (.str (U [97]) be) (.str (U (bC++[c])) (oc 2))),(3,fM X.bs),(4,f3 w.params X.ck X.af X.db (↑(p+1)) (ah 3)),(5,et),(6,et)]
theorem adv:b2 w 2 none ((G,gY w.params X.l M ab ae ak q (U [32]) b5 gQ gD)::eh w.params X (.str (U [97]) be) (.str (U bC) bL) (p:ai) av) (gX G) (adu w X G M ab ae b5 be bL p av q bC ak c r bM a9 bK az aJ bg cS dI cM hs):=by revert w;exact cX
end
section
variable (a9:X.af.drop p=c::r)(bK:lI c=false)(az:gd (U j0) (U [c])=false)(aJ:gd (U []) (U [c])=false)(bg:gd (U [39,34]) (U [c])=false)(cS:gd (U [92]) (U [c])=false)(dI:gd l0 (U [c])=false)(cM:(bC++[c]).length<1000000)(hs:([U [97],U [99]].any (·==(U [97])))=true)
noncomputable def ady (n t:y) :bb w:=
  .ax kJ kK 1 (l9 w X.br X.bs X.ck X.db av (t+6) p c X.af r bM a9) [3,4] λah=>.ax [1,1,1] [0,2] 0 (iO w (U [c]) (U [10]) (ah 2) (ah 1+1) false none bK) [] λaN=>.ax xj xv 1 (tf w (aN 0) (aN 1+10) (aN 1+11) be (U [97]) (U [97]) (U [99]) true none hs) [8] λbx=>.ax wZ f1 0 (fU w (U j0) (U [c]) (X.ck+52) (ah 2) false none az) [] λcj=>.ax lU [0,0,2] 0 (fU w (U []) (U [c]) X.c8 (ah 2) false none aJ) [] λcg=>.ax Fn kL 0 (fU w (U [39,34]) (U [c]) (X.ck+57) (ah 2) false none bg) [] λfc=>.ax qW [0,0,0,2] 0 (fU w (U [92]) (U [c]) (X.ck+60) (ah 2) false none cS) [] λfS=>.ax lU [0,0,2] 0 (fU w l0 (U [c]) (X.ck+49) (ah 2) false none dI) [] λjH=>.ax lU [0,0,2] 0 (fU w (U [39,34]) (U [c]) (X.ck+57) (ah 2) false none bg) [] λoc=>.ax (aY 0x1302200020002aaa0000000000020002113022000200021) (aY 0x120010000) 1 (fU w (U []) (U [c]) (X.ck+84) (ah 2) false none aJ) [] λiu=>.ax z5 [0,0,2] 0 (td w bC ([c]) (bC++[c]) bL (ah 2) none rfl cM) [] λafY=>.bd wV [0,0,3] 0 (.dr (gX G)) [(0,gY w.params X.l M ab ae ak q (U [32]) b5 ([c]) (ah 2)),(1,hp X.gK),(2,ho w.params X (.str (U [97]) be) (.str (U (bC++[c])) (afY 2))),(3,fM X.bs),(4,f3 w.params X.ck X.af X.db (↑(p+1)) (ah 3)),(5,et),(6,et)]
theorem adz:b2 w 2 none ((G,gY w.params X.l M ab ae ak q (U [32]) b5 gQ gD)::eh w.params X (.str (U [97]) be) (.str (U bC) bL) (p:ai) av) (gX G) (ady w X G M ab ae b5 be bL p av q bC ak c r bM a9 bK az aJ bg cS dI cM hs):=by revert w;exact cX
end
end
noncomputable def lg (s:a6)(c:y) :bW:=!(oh s (U [c]) 0 s.length 1).isEmpty
noncomputable def EH (c:y) :bW:=!lI c&&!lg (U []) c
noncomputable abbrev Gl:a6:=U j0
noncomputable abbrev Fv:a6:=U [39,34]
noncomputable abbrev vT:a6:=U [92]
noncomputable def mB:B y->y->B y->bW->aK (B y×bW×bW×B y)
 | [],s,bC,q=>bif s==97 then some (bC,q,true,[]) else none
 | c::r,s,bC,q=>bif EH c then
   bif s==97 then
    bif lg Gl c then (bif !bC.isEmpty||q then some (bC,q,false,r) else none)
    else bif lg Fv c then (bif c==39||c==34 then mB r c bC q else none)
    else bif lg vT c then none
    else mB r 97 (bC++[c]) q
   else bif s==39 then (bif c==39 then mB r 97 bC true else mB r 39 (bC++[c]) true)
   else bif s==34 then (bif c==34 then mB r 97 bC true else bif lg vT c then none else mB r 34 (bC++[c]) true)
   else none
  else none
noncomputable def RC:y->B y
 | 0=>[]
 | k+1=>[k]
noncomputable def xN (e:bW)(t:y) :ag:=bif e then .none else .str (U [32]) t
noncomputable abbrev FD (P:bp)(X:gO)(M ab ae ak b5:y)(bB:B y×bW×bW×B y)(x:y->y) :B ao:=
 gY P X.l M ab ae ak bB.2.1 (U [32]) b5 (RC (x 2)) (x 3)::(eh P X (xN bB.2.2.1 (x 4)) (.str (U bB.1) (x 5)) ((X.af.length - bB.2.2.2.length:y) :ai) (x 6)).map (·.2)
section
variable {w:aG}
theorem IE {af:B y}{p c:y}{r:B y}(h:af.drop p=c::r) :af.drop (p+1)=r:=by refine df (om ..) (H h ?_);rfl
theorem T7 {af:B y}{p c:y}{r:B y}(h:af.drop p=c::r) :p+1=af.length - r.length:=by have e:=fV rk h;rw [GY,ed] at e;exact H (Nat.eq_add_of_sub_eq (Ha (Nat.lt_of_sub_pos (e▸Bn _))) e ..) (H (G8 ..) (H (lB ..) (H (pb ..) (H (Qm ..) (H (lB ..) rfl)))))
set_option maxHeartbeats 0 in
theorem l8 {dd:Type}{P:dd->Prop}{b:bW}{x as:dd}(bu:b=true->P x)(c3:b=false->P as) :P (bif b then x else as):=by
 rcases b with _ | _
 ·exact c3 rfl
 ·exact bu rfl
def BB (w:aG)(X:gO)(G M ab ae ak b5:y)(s:y)(bC:B y)(q:bW)(p be bL av gD:y)(gQ:B y)(o:aK (B y×bW×bW×B y)) :Prop:=∀ bB,o=some bB->
  b0 w 2 (gX G) none ((G,gY w.params X.l M ab ae ak q (U [32]) b5 gQ gD)::eh w.params X (.str (U [s]) be) (.str (U bC) bL) (p:ai) av) (λ_=>.ok .next) (FD w.params X M ab ae ak b5 bB) (λ_=>[]) (λ_=>bZ)
theorem BB.sb {X:gO}{G M ab ae ak b5 s p be bL av gD:y}{bC gQ:B y}{q:bW} :BB w X G M ab ae ak b5 s bC q p be bL av gD gQ none:=λ_ h=>(by injection h)
theorem t2 {c d:y}(h:(c==d)=false) :tt c d=false:=by show ([c]==[d])=false;simpa using h
theorem FC {X:gO}{G M ab ae ak b5:y}(bM:X.af.length<1000000)(r:B y) :∀ (s:y) (bC:B y) (q:bW) (p be bL av gD:y) (gQ:B y),X.af.drop p=r->p+r.length=X.af.length->bC.length+r.length<1000000->BB w X G M ab ae ak b5 s bC q p be bL av gD gQ (mB r s bC q):=by
 induction r with
 | nil=>
  refine λs bC q p be bL av gD gQ a9 L al=>l8 (λhs=>?_) λ_=>.sb;intro bB h
  (injection h with d8;subst d8)
  refine H (eq_of_beq hs ..) ?_;obtain rfl:p=X.af.length:=L;exact dy (adx w X G M ab ae b5 be bL X.af.length av q bC ak gD gQ bM a9 (by kernel_rfl)) (λn t Y a b=>ca a b [0,Y 0 2,0,bL,av]) λn t Y a b=>⟨by kernel_rfl,rfl,trivial⟩
 | cons c r bO=>
  intro s bC q p be bL av gD gQ a9 L al;have kg:bC.length+r.length+1<1000000:=al;have tG:(bC++[c]).length+r.length<1000000:=by refine H (ea ..) (H (G8 ..) ?_);exact kg
  have cM:(bC++[c]).length<1000000:=iK (jx ..) tG;have eC:=vq kg;have vP:=IE a9;have e:=T7 a9;have bO:=λs bC q be bL av gD al=>bO s bC q (p+1) be bL av gD [c] vP (by refine H (pb ..) (H (lB 1 ..) ?_);exact L) al;refine l8 (λb1=>?_) λ_=>.sb;obtain ⟨cI,cy⟩:=l1.mp b1;rw [rh] at cI cy;refine l8 (λhs=>?_) λ_=>l8 (λXk=>?_) λ_=>l8 (λXj=>?_) λ_=>.sb
  ·obtain rfl:=eq_of_beq hs
   refine l8 (λhw=>l8 (λe2=>?_) λ_=>.sb) λhw=>l8 (λa4=>l8 (λaX=>?_) λ_=>.sb) λa4=>l8 (λ_=>.sb) λbu=>?_
   ·intro bB h
    (injection h with d8;subst d8)
    unfold FD;refine H (show X.af.length - (bC,q,false,r).2.2.2.length=p+1 from e.symm) ?_
    induction bC with
    | nil=>obtain rfl:q=true:=e2;exact dy (adF w X G M ab ae b5 be bL p av ak gD gQ c r bM a9 cI hw (by kernel_rfl)) (λn t Y a b=>ca a b [c+1,Y 0 2,Y 3 1+2,bL,Y 0 3]) λn t Y a b=>⟨by kernel_rfl,rfl,trivial⟩
    | cons d bC=>exact dy (adD w X G M ab ae b5 be bL p av q d bC ak gD gQ c r bM a9 cI hw (iK (jx ..) (vq al)) (by kernel_rfl)) (λn t Y a b=>ca a b [c+1,Y 0 2,Y 3 1+2,bL,Y 0 3]) λn t Y a b=>⟨by kernel_rfl,rfl,trivial⟩
   ·exact λbB h=>i7 (adB w X G M ab ae b5 be bL p av q bC ak gD gQ c r bM a9 cI hw cy a4 (by kernel_rfl)) (by intro n t X;kernel_rfl) λn t X=>bO c bC q (X 0 2) bL (X 0 3) (X 0 2) eC bB h
   ·induction bc:lg l0 c with
    | true=>exact λbB h=>i7 (adv w X G M ab ae b5 be bL p av q bC ak gD gQ c r bM a9 cI hw cy a4 bu bc cM (by kernel_rfl)) (by intro n t X;kernel_rfl) λn t X=>bO 97 (bC++[c]) q be (X 8 2) (X 0 3) (X 0 2) tG bB h
    | false=>exact λbB h=>i7 (adz w X G M ab ae b5 be bL p av q bC ak gD gQ c r bM a9 cI hw cy a4 bu bc cM (by kernel_rfl)) (by intro n t X;kernel_rfl) λn t X=>bO 97 (bC++[c]) q be (X 10 2) (X 0 3) (X 0 2) tG bB h
  ·obtain rfl:=eq_of_beq Xk
   refine l8 (λaX=>?_) λaX=>?_
   ·obtain rfl:=eq_of_beq aX
    exact λbB h=>i7 (adp w X G M ab ae b5 be bL p av q bC ak gD gQ 39 r bM a9 cI (by kernel_rfl)) (by intro n t X;kernel_rfl) λn t X=>bO 97 bC true (X 2 1+1) bL (X 0 3) (X 0 2) eC bB h
   ·induction bu:lg vT c with
    | true=>exact λbB h=>i7 (adn w X G M ab ae b5 be bL p av q bC ak gD gQ c r bM a9 cI (t2 aX) bu cM) (by intro n t X;kernel_rfl) λn t X=>bO 39 (bC++[c]) true be (X 4 2) (X 0 3) (X 0 2) tG bB h
    | false=>exact λbB h=>i7 (adr w X G M ab ae b5 be bL p av q bC ak gD gQ c r bM a9 cI (t2 aX) bu cM) (by intro n t X;kernel_rfl) λn t X=>bO 39 (bC++[c]) true be (X 4 2) (X 0 3) (X 0 2) tG bB h
  ·obtain rfl:=eq_of_beq Xj
   refine l8 (λaX=>?_) λaX=>l8 (λ_=>.sb) λbu=>?_
   ·obtain rfl:=eq_of_beq aX
    exact λbB h=>i7 (adf w X G M ab ae b5 be bL p av q bC ak gD gQ 34 r bM a9 cI (by kernel_rfl)) (by intro n t X;kernel_rfl) λn t X=>bO 97 bC true (X 2 1+1) bL (X 0 3) (X 0 2) eC bB h
   ·exact λbB h=>i7 (adh w X G M ab ae b5 be bL p av q bC ak gD gQ c r bM a9 cI (t2 aX) bu cM) (by intro n t X;kernel_rfl) λn t X=>bO 34 (bC++[c]) true be (X 4 2) (X 0 3) (X 0 2) tG bB h
end
end
section
section
variable (w:aG)(X:gO)(G M ab ae b5 be bL p av:y)(bM:X.af.length<1000000)(a9:X.af.drop p=[])
section
include be
noncomputable def ada (n t:y) :bb w:=
  .ax kJ kK 1 (B0 w X.br X.bs X.ck X.db av (t+6) p X.af bM a9) [3,4] λah=>.bd (aY 0x133302000202020002130220002000213022000200021111) (aY 0x100000000) 0 (.ret (.ok .next)) [(0,gY w.params X.l M ab ae (ah 1) false (U [32]) b5 ([]) (ah 2)),(1,hp X.gK),(2,ho w.params X .none (.str (U []) (ah 1+5))),(3,fM X.bs),(4,f3 w.params X.ck X.af X.db (↑p) av),(5,et),(6,et)]
theorem adb:b2 w 2 none ((G,sx w.params X.l M ab ae false (U [32]) b5)::eh w.params X .none (.str (U []) bL) (p:ai) av) (gX G) (ada w X M ab ae b5 p av bM a9):=by revert w;exact cX
end
end
section
variable {w:aG}
noncomputable def ir:B y->aK (B y×bW×bW×B y)
 | []=>some ([],false,true,[])
 | c::r=>bif EH c then bif lg Gl c||lg vT c then none else bif lg l0 c then mB r 97 [c] false else bif lg Fv c then (bif c==39||c==34 then mB r c [] false else none) else mB r 97 [c] false else none
theorem adc {X:gO}{G M ab ae b5 p be bL av:y}{r:B y}{bB:B y×bW×bW×B y}(bM:X.af.length<1000000)(h:ir r=some bB)(a9:X.af.drop p=r)(L:p+r.length=X.af.length) :
  b0 w 2 (gX G) none ((G,sx w.params X.l M ab ae false (U [32]) b5)::eh w.params X (.str (U [32]) be) (.str (U []) bL) (p:ai) av) (λ_=>.ok .next) (λx=>FD w.params X M ab ae (x 7) b5 bB x) (λ_=>[]) (λ_=>bZ):=by
 induction r with
 | nil=>
  (injection h with d8;subst d8)
  obtain rfl:p=X.af.length:=L;exact dy (ac3 w X G M ab ae b5 be bL X.af.length av bM a9) (λn t Y a b=>ca a b [0,Y 0 2,0,bL,av,Y 0 1]) λn t Y a b=>⟨by kernel_rfl,rfl,trivial⟩
 | cons c r=>
  have fu:p+1+r.length=X.af.length:=by rw [ed] at L;omega
  have vP:=IE a9;unfold ir at h;simp only at h
  induction b1:EH c with
  | false=>rw [b1] at h;injection h
  | true=>
   rw [b1] at h;obtain ⟨cI,cy⟩:=l1.mp b1;rw [rh] at cI cy;simp only [cond_true] at h;cases hw:lg Gl c||lg vT c with
   | true=>rw [hw] at h;injection h
   | false=>
    rw [hw] at h;rw [PJ] at hw;obtain ⟨hw,bu⟩:=hw;simp only [cond_false] at h
    induction bc:lg l0 c with
    | true=>rw [bc] at h;exact i7 (ac9 w X G M ab ae b5 be bL p av c r bM a9 cI hw cy bu bc) (by intro n t X;kernel_rfl) λn t X=>(FC (ak:=X 0 1) bM r 97 [c] false (p+1) (X 5 1+2) (X 0 2) (X 0 3) (X 0 2) [c] vP fu (by simp;omega) bB h).sw (λu=>[u 2,u 3,u 4,u 5,u 6,X 0 1]) (λu=>rfl) λ_ _=>trivial
    | false=>
     rw [bc] at h;simp only [cond_false] at h
     induction a4:lg Fv c with
     | true=>
      rw [a4] at h;simp only [cond_true] at h;cases aX:c==39||c==34 with
      | false=>rw [aX] at h;injection h
      | true=>rw [aX] at h;exact i7 (ac7 w X G M ab ae b5 be bL p av c r bM a9 cI hw cy bu bc a4) (by intro n t X;kernel_rfl) λn t X=>(FC (ak:=X 0 1) bM r c [] false (p+1) (X 0 2) bL (X 0 3) (X 0 2) [c] vP fu (by simp;omega) bB h).sw (λu=>[u 2,u 3,u 4,u 5,u 6,X 0 1]) (λu=>rfl) λ_ _=>trivial
     | false=>rw [a4] at h;exact i7 (ac5 w X G M ab ae b5 be bL p av c r bM a9 cI hw cy bu bc a4) (by intro n t X;kernel_rfl) λn t X=>(FC (ak:=X 0 1) bM r 97 [c] false (p+1) (X 7 1+3) (X 0 2) (X 0 3) (X 0 2) [c] vP fu (by simp;omega) bB h).sw (λu=>[u 2,u 3,u 4,u 5,u 6,X 0 1]) (λu=>rfl) λ_ _=>trivial
theorem adt {X:gO}{G M ab ae b5 p bL av:y}(bM:X.af.length<1000000)(a9:X.af.drop p=[]) :
  b0 w 2 (gX G) none ((G,sx w.params X.l M ab ae false (U [32]) b5)::eh w.params X .none (.str (U []) bL) (p:ai) av) (λ_=>.ok .next) (λx=>gY w.params X.l M ab ae (x 2) false (U [32]) b5 [] (x 3)::(eh w.params X .none (.str (U []) (x 4)) (p:ai) av).map (·.2)) (λ_=>[]) (λ_=>bZ):=by
 exact dy (adb w X G M ab ae b5 0 bL p av bM a9) (λn t X a b=>ca a b [X 0 1,X 0 2,X 0 1+5]) λn t X a b=>⟨by kernel_rfl,rfl,trivial⟩
end
noncomputable def RL (w:aG)(X:gO)(G M ab ae b5 p bL av:y)(bM:X.af.length<1000000)(a9:X.af.drop p=[]) :cV w:=⟨2,_,none,_,_,_,_,_,adt (w:=w) (G:=G) (M:=M) (ab:=ab) (ae:=ae) (b5:=b5) (bL:=bL) (av:=av) bM a9⟩
noncomputable def yt (w:aG)(X:gO)(G M ab ae b5 p be bL av:y)(r:B y)(bB:B y×bW×bW×B y)(bM:X.af.length<1000000)(h:ir r=some bB)(a9:X.af.drop p=r)(L:p+r.length=X.af.length) :cV w:=⟨2,_,none,_,_,_,_,_,adc (w:=w) (G:=G) (M:=M) (ab:=ab) (ae:=ae) (b5:=b5) (be:=be) (bL:=bL) (av:=av) bM h a9 L⟩
end
section
section
variable (w:aG)(X:gO)(p be bL av d:y)(r bC cz:B y)(bM:X.af.length<1000000)(h:ir r=some (bC,true,true,cz))(a9:X.af.drop p=r)(L:p+r.length=X.af.length)
noncomputable def adI (n t:y) :bb w:=
  .ax xd [1,2] 1 (yt w X n t (t+1) (t+3) (t+2) p be bL av r ((bC,Bool.true,Bool.true,cz)) bM h a9 L) uj λah=>.bd NS (aY 0x10000000) 0 (.ret (.ok (.ret (.str (U bC) (ah 5))))) [(0,hp X.gK),(1,ho w.params X .none (.str (U []) (ah 1+2))),(2,fM X.bs),(3,f3 w.params X.ck X.af X.db (↑(X.af.length - cz.length)) (ah 6)),(4,et),(5,et)]
theorem adJ:b2 w 3 none (eh w.params X (.str (U [32]) be) (.str (U []) bL) (p:ai) av) (.call (.ref 848) ⟨[.ref X.l],[]⟩) (adI w X p be bL av r bC cz bM h a9 L):=by revert w;exact cX
section
variable (h:ir r=some (bC,true,false,cz))(a9:X.af.drop p=r)(L:p+r.length=X.af.length)
noncomputable def adG (n t:y) :bb w:=
  .ax xd [1,2] 1 (yt w X n t (t+1) (t+3) (t+2) p be bL av r ((bC,Bool.true,Bool.false,cz)) bM h a9 L) uj λah=>.bd NS (aY 0x10000000) 0 (.ret (.ok (.ret (.str (U bC) (ah 5))))) [(0,hp X.gK),(1,ho w.params X (.str (U [32]) (ah 4)) (.str (U []) (ah 1+2))),(2,fM X.bs),(3,f3 w.params X.ck X.af X.db (↑(X.af.length - cz.length)) (ah 6)),(4,et),(5,et)]
theorem adH:b2 w 3 none (eh w.params X (.str (U [32]) be) (.str (U []) bL) (p:ai) av) (.call (.ref 848) ⟨[.ref X.l],[]⟩) (adG w X p be bL av r bC cz bM h a9 L):=by revert w;exact cX
end
section
variable (h:ir r=some (d::bC,false,true,cz))(a9:X.af.drop p=r)(L:p+r.length=X.af.length)(bK:((U (d::bC)).cps.toList==(Hf "").cps.toList)=false)
noncomputable def adM (n t:y) :bb w:=
  .ax xd [1,2] 1 (yt w X n t (t+1) (t+3) (t+2) p be bL av r ((d::bC,Bool.false,Bool.true,cz)) bM h a9 L) uj λah=>.ax Nk f1 0 (iO w (U (d::bC)) (U []) (ah 5) (ah 1+6) false none bK) [] λaN=>.bd (aY 0x172011000100017) [0,0,0] 0 (.ret (.ok (.ret (.str (U (d::bC)) (ah 5))))) [(0,hp X.gK),(1,ho w.params X .none (.str (U []) (ah 1+2))),(2,fM X.bs),(3,f3 w.params X.ck X.af X.db (↑(X.af.length - cz.length)) (ah 6)),(4,et),(5,et)]
theorem adN:b2 w 3 none (eh w.params X (.str (U [32]) be) (.str (U []) bL) (p:ai) av) (.call (.ref 848) ⟨[.ref X.l],[]⟩) (adM w X p be bL av d r bC cz bM h a9 L bK):=by revert w;exact cX
end
section
variable (h:ir r=some (d::bC,false,false,cz))(a9:X.af.drop p=r)(L:p+r.length=X.af.length)(bK:((U (d::bC)).cps.toList==(Hf "").cps.toList)=false)
noncomputable def adK (n t:y) :bb w:=
  .ax xd [1,2] 1 (yt w X n t (t+1) (t+3) (t+2) p be bL av r ((d::bC,Bool.false,Bool.false,cz)) bM h a9 L) uj λah=>.ax Nk f1 0 (iO w (U (d::bC)) (U []) (ah 5) (ah 1+6) false none bK) [] λaN=>.bd (aY 0x172011000100017) [0,0,0] 0 (.ret (.ok (.ret (.str (U (d::bC)) (ah 5))))) [(0,hp X.gK),(1,ho w.params X (.str (U [32]) (ah 4)) (.str (U []) (ah 1+2))),(2,fM X.bs),(3,f3 w.params X.ck X.af X.db (↑(X.af.length - cz.length)) (ah 6)),(4,et),(5,et)]
theorem adL:b2 w 3 none (eh w.params X (.str (U [32]) be) (.str (U []) bL) (p:ai) av) (.call (.ref 848) ⟨[.ref X.l],[]⟩) (adK w X p be bL av d r bC cz bM h a9 L bK):=by revert w;exact cX
end
section
variable (a9:X.af.drop p=[])
noncomputable def adO (n t:y) :bb w:=
  .ax xd [1,2] 1 (RL w X n t (t+1) (t+3) (t+2) p bL av bM a9) uj λah=>.bd (aY 0x17201100010001777772011000100017222010001010100017772011000100017) (aY 0x1000000000) 0 (.ret (.ok (.ret .none))) [(0,hp X.gK),(1,ho w.params X .none (.str (U []) (ah 1+2))),(2,fM X.bs),(3,f3 w.params X.ck X.af X.db (↑p) av),(4,et),(5,et)]
theorem adP:b2 w 3 none (eh w.params X .none (.str (U []) bL) (p:ai) av) (.call (.ref 848) ⟨[.ref X.l],[]⟩) (adO w X p bL av bM a9):=by revert w;exact cX
end
end
section
variable {w:aG}
theorem ae6 {X:gO}{p be bL av:y}{r bC cz:B y}{q gT:bW}(bM:X.af.length<1000000)(h:ir r=some (bC,q,gT,cz))(a9:X.af.drop p=r)(L:p+r.length=X.af.length)(a4:(!bC.isEmpty||q)=true) :
  b0 w 3 (.call (.ref 848) ⟨[.ref X.l],[]⟩) none (eh w.params X (.str (U [32]) be) (.str (U []) bL) (p:ai) av) (λx=>.ok (.ret (.str (U bC) (x 2)))) (λx=>(eh w.params X (xN gT (x 3)) (.str (U []) (x 4)) ((X.af.length - cz.length:y) :ai) (x 5)).map (·.2)) (λ_=>[]) (λ_=>bZ):=by
 induction q with
 | true=>
  induction gT with
  | true=>exact dy (adJ w X p be bL av r bC cz bM h a9 L) (λn t X a b=>ca a b [X 0 5,0,X 0 1+2,X 0 6]) λn t X a b=>⟨by kernel_rfl,rfl,trivial⟩
  | false=>exact dy (adH w X p be bL av r bC cz bM h a9 L) (λn t X a b=>ca a b [X 0 5,X 0 4,X 0 1+2,X 0 6]) λn t X a b=>⟨by kernel_rfl,rfl,trivial⟩
 | false=>
  induction bC with
  | nil=>injection a4
  | cons d bC=>
   induction gT with
   | true=>exact dy (adN w X p be bL av d r bC cz bM h a9 L (by kernel_rfl)) (λn t X a b=>ca a b [X 0 5,0,X 0 1+2,X 0 6]) λn t X a b=>⟨by kernel_rfl,rfl,trivial⟩
   | false=>exact dy (adL w X p be bL av d r bC cz bM h a9 L (by kernel_rfl)) (λn t X a b=>ca a b [X 0 5,X 0 4,X 0 1+2,X 0 6]) λn t X a b=>⟨by kernel_rfl,rfl,trivial⟩
theorem ae4 {X:gO}{p bL av:y}(bM:X.af.length<1000000)(a9:X.af.drop p=[]) :
  b0 w 3 (.call (.ref 848) ⟨[.ref X.l],[]⟩) none (eh w.params X .none (.str (U []) bL) (p:ai) av) (λx=>.ok (.ret .none)) (λx=>(eh w.params X .none (.str (U []) (x 2)) (p:ai) av).map (·.2)) (λ_=>[]) (λ_=>bZ):=by
 exact dy (adP w X p bL av bM a9) (λn t X a b=>ca a b [X 0 1+2]) λn t X a b=>⟨by kernel_rfl,rfl,trivial⟩
end
noncomputable def H0 (w:aG)(X:gO)(p be bL av:y)(r bC cz:B y)(q gT:bW)(bM:X.af.length<1000000)(h:ir r=some (bC,q,gT,cz))(a9:X.af.drop p=r)(L:p+r.length=X.af.length)(a4:(!bC.isEmpty||q)=true) :cV w:=⟨3,_,none,_,_,_,_,_,ae6 (w:=w) (be:=be) (bL:=bL) (av:=av) bM h a9 L a4⟩
noncomputable def RX (w:aG)(X:gO)(p bL av:y)(bM:X.af.length<1000000)(a9:X.af.drop p=[]) :cV w:=⟨3,_,none,_,_,_,_,_,ae4 (w:=w) (bL:=bL) (av:=av) bM a9⟩
noncomputable abbrev zQ (G:aM) :cE:=mT (e7 33 10) (U Fi) 877 876 G
noncomputable abbrev oy:cn:=.builtin "Exception.__new__" ⟨[.type "StopIteration"],[]⟩
section
variable (w:aG)
noncomputable def Vx (n t:y) :bb w:=
  .bd [] [] 2 (.ret (.ok (.ret (.ref (n+1))))) [(1,{cls:=(.type "StopIteration"),data:=(.fields ⟨[.ref n,.none,.none,.none,.bool false,.none]⟩)}),(0,{cls:=(.type "tuple"),data:=(.seq ⟨[]⟩ 0)})]
theorem Vy:eu w none 0 none ([]) ([]) oy (uW oy (iy oy)) (Vx w):=c6
end
theorem VB:iy oy= .stack (uV (iy oy)):=by kernel_rfl
theorem Vz (p:c2)(aW:B (cn×c2)) :uV (iy oy) ((oy,p)::aW)=uW oy (iy oy):=by kernel_rfl
noncomputable abbrev FM (fw:y)(bh:ag) :ao:={cls:=.type "StopIteration",data:=.fields ⟨[.ref fw,bh,.none,.none,.bool false,.none]⟩}
section
variable {w:aG}
theorem VA:b0 w 0 oy none [] (λx=>.ok (.ret (.ref (x 2)))) (λ_=>[]) (λx=>[(x 2,FM (x 3) .none),(x 3,di [])]) (λ_=>bZ):=λA s aS has bU=>by
 refine wF (co:=.nil) ?_;have O:=xF (w:=w) (A:=A) (s:=s) (R:=λr an=>∃ x:y->y,r=(λx:y->y=>(Except.ok (Flow.ret (.ref (x 2))) :cD)) x/\bZ/\an.heap.objs.size=x 0/\an.toks=x 1/\oe s an [] [] [(x 2,FM (x 3) .none),(x 3,di [])]) (Vy w) aS has bU (F:=λdw du=>∃ e t,dw= .ret (.ok (.ret (.ref e)))/\du=[(e,FM t .none),(t,di [])]) (λn t=>⟨n+1,n,rfl,rfl⟩) ?_
 ·intro b6 p aX ds
  have h:=O b6 p aX ds;refine H (VB ..) (H (Hm ..) (H aX (H (Vz ..) ?_)));exact h
 ·rintro dw du an ⟨e,t,rfl,rfl⟩ b1 aV
  refine ⟨ca an.heap.objs.size an.toks [e,t],rfl,trivial,rfl,rfl,⟨rfl,λ_ h=>((c4 h).elim),b1.has,b1.e8,λp L=>?_,aV⟩⟩;rcases b1.fresh p L with h | h
  ·exact (c4 h).elim
  ·exact h
end
noncomputable def Rq (w:aG) :cV w:=⟨0,_,none,_,_,_,_,_,VA (w:=w)⟩
end
section
variable {w:aG}
theorem Oi {da:y}{env:cE}{G:aM}{o:ao}{r:dl}(h:mm o=false) :eR da ((env,G,o)::r)=(env,G,kQ env (l6 da r) o)::eR da r:=by rw [eR,h];rfl
theorem R8 {r:dl}{p:aM×ao}(h:p∈bP r) :p.1∈r.map (·.2.1):=by refine df (nD ..) ?_;exact ep h
noncomputable def fc (a b c d e f:y)(l:y->y) :y->y
 | 0=>a | 1=>b | 2=>c | 3=>d | 4=>e | 5=>f | k+6=>l k
theorem VJ {bj:y}{body:B c5}{env:cE}{G:aM}{xY:ao}{P:B (aM×ao)}{bI:y->y->bb w}{C:ag}{V:B ag}{np:(y->y)->ao}{cc:(y->y)->B ao}{r:dl}
  (E:eu w none bj none ((G,xY)::P) [] (.func body env) (vU body env) bI)
  (left:∀ n t,mK (λdw du=>∃ (as:y->y) (bH fw:y),dw= .ret (.ok (.ret (.ref bH)))/\du=(G,np as)::((P.map (·.1)).zip (cc as)++[(bH,iz C (.ref fw) .none V)])/\(cc as).length=P.length) (bI n t) (G::P.map (·.1)) (P.length+1) n)
  (dP:∀ x,mm (np x)=false/\(np x).isFreed=false)(L:Hd env G)(a9:eg r) :
  ec w (some (r.map (·.1))) bj (.func body env) none ((G,xY)::P) [bP r] (λx=>.error (.ref (x 2))) (λx=>kQ env (l6 (x 5) r) (np λk=>x (k+6))::cc λk=>x (k+6)) (λx=>[(x 2,iz C (.ref (x 3)) (.ref (x 4)) V)]) (λx=>[bP (eR (x 5) r)]) (λ_=>bZ):=λA s aS has bU=>by
 rw [show [bP r].flatten=bP r from by simp] at has bU;have qy:=bU.e8;rw [c0,hd,nD] at qy;obtain ⟨fB,im,jT⟩:=fA.mp qy;have Db:dX s.heap ((G,xY)::P):=λp L=>has p (eS _ L);have wb:dX s.heap (bP r):=λp L=>has p (eJ _ L);have yX:ie (((G,xY)::P).map (·.1)):=⟨fB,λa bY=>bU.free a (by rw [c0];exact eS _ bY)⟩;refine JC (cZ:=λeX aA=>∃ (as:y->y) (bH fw:y),eX= .ok (.ret (.ref bH))/\(cc as).length=P.length/\nu s (G::P.map (·.1)) aA ((G,np as)::((P.map (·.1)).zip (cc as)++[(bH,iz C (.ref fw) .none V)]))/\fy s aA (G::P.map (·.1))) ?_ ?_ ?_
 ·refine xF E (aS.eW (fk _) λl e=>(nomatch e)) Db yX left ?_
  rintro dw du aA ⟨as,bH,fw,rfl,rfl,al⟩ b1 aV;exact ⟨as,bH,fw,rfl,al,b1,aV⟩
 ·intro aA
  refine ⟨?_,?_⟩
  ·rintro e ⟨_,_,_,h,_⟩;cases h
  ·rintro ⟨_,_,_,h,_⟩;cases h
 rintro e aA ⟨as,bH,fw,h,al,b1,aV⟩;cases h;have kg:(cc as).length=(P.map (·.1)).length:=by rw [al,de]
 have aw:=b1.e8;rw [hd,c0,pI kg] at aw;obtain ⟨r9,t0⟩:=gy.mp aw;obtain ⟨agG,agH,aa9⟩:=fA.mp t0;have Cy:bH≠G:=λe=>r9 (eJ _ (e▸cY ..));have Cz:∀ a∈P.map (·.1),a≠bH:=λa bY=>aa9 a bY bH (cY ..);have abJ:aA.heap.get? bH=some (iz C (.ref fw) .none V):=b1.has (bH,_) (dG _ (eJ _ (cY ..)));have EB:s.heap.objs.size<=bH:=by
  rcases b1.fresh (bH,iz C (.ref fw) .none V) (dG _ (eJ _ (cY ..))) with h | h
  ·rcases dx.mp h with h | h
   ·exact absurd h Cy
   ·exact absurd rfl (Cz _ h)
  ·exact h
 have Ww:G ∉ r.map (·.2.1):=λh=>jT G (cY ..) G h rfl;have aat:∀ a∈r.map (·.2.1),a<s.heap.objs.size:=λa bY=>by rw [<- nD] at bY;obtain ⟨p,L,rfl⟩:=fC.mp bY;exact hC (wb p L)
 have I2:bH ∉ r.map (·.2.1):=λh=>absurd (aat bH h) (j9.mpr EB);have Zg:dX aA.heap (bP r):=λp L=>aV.eO _ _ (wb p L) λaU=>jT p.1 aU p.1 (R8 L) rfl;refine Lx (f:=G) (r:=r) (o:=np as) (C:=C) (a:=.ref fw) (vs:=V) ?_ ?_ ?_ ?_ abJ ?_ ?_
 ·show uH [env] A.frames=_
  rw [aS.frames _ rfl];rfl
 ·intro q a4
  rcases dx.mp a4 with rfl | a4
  ·exact ⟨L,(dP as).2⟩
  ·exact a9 q a4
 ·intro p L
  rcases dx.mp L with rfl | L
  ·exact b1.has (G,np as) (cY ..)
  ·exact Zg p L
 ·exact gy.mpr ⟨Ww,im⟩
 ·exact λh=>(dx.mp h).elim Cy I2
 intro ct da e3 gl mi nJ qG rX hz;rw [Oi (dP as).1] at mi;have ab:=aV.size;refine ⟨fc ct.objs.size aA.toks bH fw aA.heap.objs.size da as,rfl,trivial,rfl,rfl,?_⟩;show jI s {aA with heap:=ct} (G::P.map (·.1)) ([bP r].flatten.map (·.1)) (kQ env (l6 da r) (np as)::cc as) [(bH,iz C (.ref fw) (.ref aA.heap.objs.size) V)] [bP (eR da r)];rw [show [bP r].flatten=bP r from by simp,nD];have Ks:(G::P.map (·.1)).zip (kQ env (l6 da r) (np as)::cc as)=(G,kQ env (l6 da r) (np as))::(P.map (·.1)).zip (cc as):=rfl;have eD:∀ p∈(P.map (·.1)).zip (cc as),ct.get? p.1=some p.2:=λp L=>by
  have bY:p.1∈P.map (·.1):=by rw [<- pI kg];exact ep L
  refine rX _ _ (Cz _ bY) (λaU=>?_) (b1.has p (dG _ (eS _ L)));rcases dx.mp aU with h | h
  ·rw [h] at bY
   exact (gy.mp fB).1 bY
  ·exact jT _ (dG _ bY) _ h rfl
 refine ⟨by exact H (ed ..) (H (ed ..) (H kg rfl)),?_,?_,?_,?_⟩
 ·refine H Ks (H (show [bP (eR da r)].flatten=bP (eR da r) from by simp) ?_)
  intro p L;rcases dU.mp L with L | L
  ·rcases dx.mp L with rfl | L
   ·exact mi (G,_) (cY ..)
   ·exact eD p L
  ·rcases dU.mp L with L | L
   ·rw [dN] at L
    subst L;exact nJ
   ·exact mi p (dG _ L)
 ·refine H Ks (H (show [bP (eR da r)].flatten=bP (eR da r) from by simp) (H (c0 ..) (H (hd ..) (H (pI kg ..) (H (c0 ..) (H (nD ..) (H (uO ..) ?_)))))))
  refine fA.mpr ⟨fB,gy.mpr ⟨I2,im⟩,λa bY b aQ e=>?_⟩;subst e;rcases dx.mp aQ with h | h
  ·rcases dx.mp bY with aJ | aJ
   ·exact Cy (h.symm.trans aJ)
   ·exact Cz a aJ h
  ·exact jT a bY a h rfl
 ·refine H (show [bP (eR da r)].flatten=bP (eR da r) from by simp) ?_
  intro p L;rcases dU.mp L with L | L
  ·rw [dN] at L
   subst L;exact .inr EB
  ·left
   refine df (uO da ..) (df (nD ..) ?_);exact ep L
 ·refine ⟨λb o' e aQ=>?_,gh ab (by show _<=ct.objs.size;refine H hz ?_;exact rp _),aV.os,aV.gens⟩
  have c7:=hC e;refine rX b o' (k0 (on c7 EB)) (λaU=>aQ ?_) (aV.eO b o' e λh=>aQ (eS _ h));rcases dx.mp aU with h | h
  ·exact eS _ (h▸cY ..)
  ·exact eJ _ h
end
section
section
variable (w:aG)(X:gO)(G M p be bL av:y)(r bC cz:B y)(q:bW)(bM:X.af.length<1000000)(h:ir r=some (bC,q,true,cz))(a9:X.af.drop p=r)(L:p+r.length=X.af.length)(a4:(!bC.isEmpty||q)=true)
noncomputable def abE (n t:y) :bb w:=
  .ax NW (aY 0x12000011) 2 (H0 w X p be bL av r bC cz q true bM h a9 L a4) qV λah=>.bd NU (aY 0x1000000000000000) 0 (.ret (.ok (.ret (.str (U bC) (ah 2))))) [(0,hp X.gK),(1,ho w.params X .none (.str (U []) (ah 4))),(2,fM X.bs),(3,f3 w.params X.ck X.af X.db (↑(X.af.length - cz.length)) (ah 5)),(4,et),(5,et)]
theorem abF:b2 w 4 none (eh w.params X (.str (U [32]) be) (.str (U []) bL) (p:ai) av) (.call (.ref 877) ⟨[.ref X.l],[]⟩) (abE w X p be bL av r bC cz q bM h a9 L a4):=by revert w;exact cX
section
variable (h:ir r=some (bC,q,false,cz))(a9:X.af.drop p=r)(L:p+r.length=X.af.length)(a4:(!bC.isEmpty||q)=true)
noncomputable def abC (n t:y) :bb w:=
  .ax NW (aY 0x12000011) 2 (H0 w X p be bL av r bC cz q false bM h a9 L a4) qV λah=>.bd NU (aY 0x1000000000000000) 0 (.ret (.ok (.ret (.str (U bC) (ah 2))))) [(0,hp X.gK),(1,ho w.params X (.str (U [32]) (ah 3)) (.str (U []) (ah 4))),(2,fM X.bs),(3,f3 w.params X.ck X.af X.db (↑(X.af.length - cz.length)) (ah 5)),(4,et),(5,et)]
theorem abD:b2 w 4 none (eh w.params X (.str (U [32]) be) (.str (U []) bL) (p:ai) av) (.call (.ref 877) ⟨[.ref X.l],[]⟩) (abC w X p be bL av r bC cz q bM h a9 L a4):=by revert w;exact cX
end
section
variable (a9:X.af.drop p=[])
noncomputable def abG (n t:y) :bb w:=
  .ax (aY 0x10320000200020002866666302200020002888003200002000200021) sk 1 (RX w X p bL av bM a9) (dW 1 6) λah=>.ax (aY 0x1003022000200021111302200020002877777302200020002830220002000288302200020002888) uC 0 (Rq w) [] λaN=>.bd (aY 0x1999999999999999) (aY 0x1000000) 1 (.ret (.ok (.ret (.ref (aN 2))))) [(0,{cls:=(.type "frame"),data:=(.dict ⟨[aj w.params gv M (.ref X.l),aj w.params z4 (ah 1+7) .none]⟩ 2)}),(1,hp X.gK),(2,ho w.params X .none (.str (U []) (ah 2))),(3,fM X.bs),(4,f3 w.params X.ck X.af X.db (↑p) av),(5,et),(6,et),(8,{cls:=(.type "StopIteration"),data:=(.fields ⟨[.ref (aN 0),.none,.none,.none,.bool false,.none]⟩)})]
theorem abH:eu w none 4 none ((G,eM [aj w.params gv M (.ref X.l)] 1)::eh w.params X .none (.str (U []) bL) (p:ai) av) ([]) (.func (e7 33 10).2.1 (zQ G)) (vU (e7 33 10).2.1 (zQ G)) (abG w X M p bL av bM a9):=by revert w;exact cX
end
end
section
variable {w:aG}
theorem abt {X:gO}{p be bL av:y}{r bC cz:B y}{q gT:bW}(bM:X.af.length<1000000)(h:ir r=some (bC,q,gT,cz))(a9:X.af.drop p=r)(L:p+r.length=X.af.length)(a4:(!bC.isEmpty||q)=true) :
  b0 w 4 (.call (.ref 877) ⟨[.ref X.l],[]⟩) none (eh w.params X (.str (U [32]) be) (.str (U []) bL) (p:ai) av) (λx=>.ok (.ret (.str (U bC) (x 2)))) (λx=>(eh w.params X (xN gT (x 3)) (.str (U []) (x 4)) ((X.af.length - cz.length:y) :ai) (x 5)).map (·.2)) (λ_=>[]) (λ_=>bZ):=by
 induction gT with
 | true=>exact dy (abF w X p be bL av r bC cz q bM h a9 L a4) (λn t X a b=>ca a b [X 0 2,0,X 0 4,X 0 5]) λn t X a b=>⟨by kernel_rfl,rfl,trivial⟩
 | false=>exact dy (abD w X p be bL av r bC cz q bM h a9 L a4) (λn t X a b=>ca a b [X 0 2,X 0 3,X 0 4,X 0 5]) λn t X a b=>⟨by kernel_rfl,rfl,trivial⟩
theorem abr {X:gO}{G M p bL av:y}{r:dl}(bM:X.af.length<1000000)(a9:X.af.drop p=[])(aX:eg r) :
  ec w (some (r.map (·.1))) 4 (.func (e7 33 10).2.1 (zQ G)) none ((G,eM [aj w.params gv M (.ref X.l)] 1)::eh w.params X .none (.str (U []) bL) (p:ai) av) [bP r] (λx=>.error (.ref (x 2)))
   (λx=>kQ (zQ G) (l6 (x 5) r) (eM [aj w.params gv M (.ref X.l),aj w.params z4 (x 6) .none] 2)::(eh w.params X .none (.str (U []) (x 7)) (p:ai) av).map (·.2)) (λx=>[(x 2,iz (.type "StopIteration") (.ref (x 3)) (.ref (x 4)) [.none,.none,.bool false,.none])]) (λx=>[bP (eR (x 5) r)]) (λ_=>bZ):=by
 refine VJ (np:=λas=>eM [aj w.params gv M (.ref X.l),aj w.params z4 (as 0) .none] 2) (cc:=λas=>(eh w.params X .none (.str (U []) (as 1)) (p:ai) av).map (·.2)) (abH w X G M p bL av bM a9) ?_ (λ_=>⟨rfl,rfl⟩) ⟨rfl,by kernel_rfl,by kernel_rfl⟩ aX;intro n t ah _ aN _;exact ⟨ca (ah 1+7) (ah 2) [],aN 2,aN 0,by kernel_rfl,by kernel_rfl,rfl⟩
end
noncomputable def RD (w:aG)(X:gO)(p be bL av:y)(r bC cz:B y)(q gT:bW)(bM:X.af.length<1000000)(h:ir r=some (bC,q,gT,cz))(a9:X.af.drop p=r)(L:p+r.length=X.af.length)(a4:(!bC.isEmpty||q)=true) :cV w:=⟨4,_,none,_,_,_,_,_,abt (w:=w) (be:=be) (bL:=bL) (av:=av) bM h a9 L a4⟩
noncomputable def RE (w:aG)(X:gO)(G M p bL av:y)(r:dl)(bM:X.af.length<1000000)(a9:X.af.drop p=[])(aX:eg r) :hy w:=⟨_,_,_,_,_,_,_,_,_,_,_,abr (w:=w) (X:=X) (G:=G) (M:=M) (bL:=bL) (av:=av) bM a9 aX⟩
noncomputable abbrev lR (a l:y)(dD:ag) :cn:=.builtin "list.extend.loop" ⟨[.ref a,.ref l,dD],[]⟩
end
section
noncomputable def Ed (l:y) :e5 h3:=(pO (.ref l)).bind λo=>match o with
 | some v=>.pure (.done (.ret v))
 | none=>.pure (.done .cont)
section
variable (w:aG)(X:gO)(p be bL av a e:y)(dD:ag)(z:B ag)(ch:dl)(r bC cz:B y)(q gT:bW)(bM:X.af.length<1000000)(h:ir r=some (bC,q,gT,cz))(a9:X.af.drop p=r)(L:p+r.length=X.af.length)(a4:(!bC.isEmpty||q)=true)
noncomputable def ZD (n t:y) :bb w:=
  .ax [1,0,0,0,0] [2] 0 (RD w X p be bL av r bC cz q gT bM h a9 L a4) qV λah=>.bd [] [] 0 (.ret (.ok (.ret (.str (U bC) (ah 2))))) [(0,hp X.gK),(1,ho w.params X (p8 (PySem.Value.str (U [32]) (ah 3)) PySem.Value.none gT) (.str (U []) (ah 4))),(2,fM X.bs),(3,f3 w.params X.ck X.af X.db (↑(X.af.length - cz.length)) (ah 5)),(4,et),(5,et)]
theorem ZE:eu w none 6 none (eh w.params X (.str (U [32]) be) (.str (U []) bL) (p:ai) av) ([]) (lR a X.l dD) (Ed X.l) (ZD w X p be bL av r bC cz q gT bM h a9 L a4):=c6
section
variable (a9:X.af.drop p=[])(aX:eg ch)
noncomputable def ZB (n t:y) :bb w:=
  .fF (aY 0x188000002) [0,4] 1 (RE w X n t p bL av ch bM a9 aX) (aY 0x16543217) [true] λah=>.bd [9] [] 0 (.ret (.ok (.ret dD))) [(0,I z e),(1,hp X.gK),(2,ho w.params X .none (.str (U []) (ah 7))),(3,fM X.bs),(4,f3 w.params X.ck X.af X.db (↑p) av),(5,et),(6,et)]
theorem ZC:j8 w (some (ch.map (·.1))) 6 none ((a,I z e)::eh w.params X .none (.str (U []) bL) (p:ai) av) ([bP ch]) (lR a X.l dD) (ZB w X p bL av e dD z ch bM a9 aX):=c6
end
end
section
variable {w:aG}
theorem HK {A:c9}{R:cD->aR->Prop}{s:aR}{id:kv}{args:mH}{b:vf}(he:rK pU id=some b)
  (h:wpOwn (model aL w) A (.builtin id args) (b args) (postC aL w A R) (postE R) s) :codeAny (model aL w) A (.builtin id args) R s:=by
 refine rC ?_;show wpOwn _ _ _ (match rK pU id with | some b=>b args | none=>unsupported ((withoutEnding? id "#data").getD id)) _ _ s;refine H he ?_;exact h
theorem ZI {a l:y}{dD:ag}{A:c9}{s:aR}{R cZ:cD->aR->Prop}
  (az:wpOwn (model aL w) A (lR a l dD) (Ed l) (postC aL w A cZ) (postE cZ) s)
  (bK:∀ aA,(∀ e,¬ cZ (.error e) aA)/\¬ cZ (.ok .cont) aA)
  (aJ:∀ v aA,cZ (.ok (.ret v)) aA->∃ z e,aA.heap.get? a=some (I z e)/\z.length<1000/\codeAny (model aL w) A (lR a l dD) R {aA with heap:=aA.heap.update a (e4 (·.push v))}) :
  codeAny (model aL w) A (lR a l dD) R s:=by
 refine HK (b:=Builtin.«list.extend.loop») (kd (by kernel_rfl)) ?_;intro b6 p aX ds;show oq _ b6 (pO (.ref l) >>= λo=>match o with | none=>PySem.ret dD | some x=>(Gz (.ref a) (·.push x) >>= λ_=>Hg (lR a l dD))) _ _ p s;refine H (qg ..) ?_;have O:=az b6 p aX ds;unfold Ed at O;rw [hf] at O;refine ot _ b6 _ (λo dV aA b1=>?_) (λe dV aA he=>absurd he ((bK aA).1 e)) p s O
 induction o with
 | none=>exact absurd b1 (bK aA).2
 | some v=>
  obtain ⟨z,e,ej,al,k⟩:=aJ v aA b1;have dY:b6.In (A.under (lR a l dD)):=by have h:=ds.in;rw [aX] at h;exact h
  have W:wpAny (model aL w) (A.under (lR a l dD)) (Gz (.ref a) (·.push v) >>= λ_=>Hg (lR a l dD)) (λbd an=>match bd with | .done f=>R (.ok f) an | .again ff=>ff.quiet=true/\codeAny (model aL w) A ff R an) (λe an=>R (.error e) an) aA:=
   bE (m:=Gz (.ref a) (·.push v)) (ob ej rfl (wpAny_pure ⟨su (by kernel_rfl),k⟩) (by refine H (jr ..) ?_;simp;omega) (by refine H (jr ..) ?_;simp;omega))
  exact W b6 dV dY
end
noncomputable def iD:y->B y->aK (B (B y))
 | 0,_=>none
 | n+1,r=>match ir r with
  | some (bC,q,gT,cz)=>bif !bC.isEmpty||q then (bif gT then (match cz with | []=>some [bC] | _=>none) else (iD n cz).map (bC::·)) else none
  | none=>none
noncomputable def kp:B (B y)->(y->y)->B ag
 | [],_=>[]
 | t::l,f=>.str (U t) (f 0)::kp l λk=>f (k+1)
noncomputable abbrev r8 (X:gO) :B aM:=[X.l,X.gK,X.br,X.bs,X.zY,X.yQ]
def jL (r:B y)(o:aK (B y×bW×bW×B y)) :Prop:=∀ bB,o=some bB->bB.2.2.2<:+r
theorem jL.none {r:B y} :jL r none:=λ_ h=>(by injection h)
theorem jL.some {r cz t:B y}{q e:bW}(h:cz<:+r) :jL r (some (t,q,e,cz)):=λ_ e=>x9 e▸h
theorem jL.bif {r:B y}{b:bW}{x as:aK (B y×bW×bW×B y)}(bu:jL r x)(c3:jL r as) :jL r (bif b then x else as):=by
 rcases b with _ | _
 ·exact c3
 ·exact bu
theorem jL.cons {r:B y}{c:y}{x:aK (B y×bW×bW×B y)}(h:jL r x) :jL (c::r) x:=λbB e=>(h bB e).trans (List.suffix_cons ..)
theorem adi {r:B y} :∀ {s:y} {bC:B y} {q:bW},jL r (mB r s bC q):=by
 induction r with
 | nil=>exact λ{s bC q}=>jL.bif (jL.some List.suffix_rfl) jL.none
 | cons c r bO=>intro s bC q;have i:∀ {s bC q},jL (c::r) (mB r s bC q):=λ{s bC q}=>bO.cons;exact .bif (.bif (.bif (.bif (.some (List.suffix_cons ..)) .none) (.bif (.bif i .none) (.bif .none i))) (.bif (.bif i i) (.bif (.bif i (.bif .none i)) .none))) .none
theorem adj {r:B y}{bC:B y}{q gT:bW}{cz:B y}(h:ir r=some (bC,q,gT,cz)) :cz<:+r:=by
 have:jL r (ir r):=by
  induction r with
  | nil=>exact .some List.suffix_rfl
  | cons c r=>
   have i:∀ {s bC q},jL (c::r) (mB r s bC q):=λ{s bC q}=>adi.cons;unfold ir
   repeat' first | exact i | exact .none | refine .bif ?_ ?_
 exact this _ h
section
variable {w:aG}
theorem ZF {X:gO}{a:y}{dD:ag}{ch:dl}{A:c9}{b s:aR}{aB:B aM}{R:cD->aR->Prop}{e ar au:y}{z:B ag}(bM:X.af.length<1000000)(aX:eg ch)(aS:eb w (some (ch.map (·.1))) 7 A none b)
  (o:bz b aB s [[(a,I z e)],eh w.params X .none (.str (U []) ar) (X.af.length:ai) au,bP ch])
  (bJ:∀ an (x:y->y),bz b aB an [[(a,I z (x 2))],eh w.params X .none (.str (U []) (x 3)) (X.af.length:ai) (x 4),bP (eR (x 5) ch)]->R (.ok (.ret dD)) an) :codeAny (model aL w) A (lR a X.l dD) R s:=by
 refine o.code (l:=(a,I z e)::eh w.params X .none (.str (U []) ar) (X.af.length:ai) au) (af:=[bP ch]) (R:=[]) [0,1,2] ⟨rfl,by kernel_rfl,by kernel_rfl⟩ (aS.eW (by decide) λl e=>e) (ZC w X X.af.length ar au a e dD z ch bM List.drop_length aX)
  (dw:=λ_ _ _=>.ret (.ok (.ret dD))) (cv:=λ_ _ Y=>[[(a,I z e)],eh w.params X .none (.str (U []) (Y 0 7)) (X.af.length:ai) au,bP (eR (Y 0 5) ch)]) ?_ ?_
 ·intro n t X
  kernel_rfl
 ·intro n t Y bi dz
  exact bJ bi (fc 0 0 e (Y 0 7) au (Y 0 5) λ_=>0) dz
theorem ZH {X:gO}{a:y}{dD:ag}{ch:dl}{A:c9}{b:aR}{aB:B aM}{R:cD->aR->Prop}(bM:X.af.length<1000000)(aX:eg ch)(aS:eb w (some (ch.map (·.1))) 7 A none b)(n:y) :∀ (r:B y) (toks:B (B y)),iD n r=some toks->∀ (p be bL av e:y) (z:B ag) (s:aR),X.af.drop p=r->p+r.length=X.af.length->z.length+n<1000->
  bz b aB s [[(a,I z e)],eh w.params X (.str (U [32]) be) (.str (U []) bL) (p:ai) av,bP ch]->
  (∀ an (x:y->y),bz b aB an [[(a,I (z++kp toks λk=>x (k+6)) (x 2))],eh w.params X .none (.str (U []) (x 3)) (X.af.length:ai) (x 4),bP (eR (x 5) ch)]->R (.ok (.ret dD)) an)->codeAny (model aL w) A (lR a X.l dD) R s:=by
 induction n with
 | zero=>exact λr toks h=>nomatch h
 | succ n bO=>
  intro r toks h p be bL av e z s a9 L al o bJ;unfold iD at h;cases b3:ir r with
  | none=>rw [b3] at h;cases h
  | some aI=>
   obtain ⟨bC,q,gT,cz⟩:=aI;rw [b3] at h;dsimp only at h;cases a4:!bC.isEmpty||q with
   | false=>rw [a4] at h;cases h
   | true=>
    rw [a4] at h;dsimp only [cond_true] at h;refine ZI (cZ:=λeX aA=>∃ u cN ar au,eX= .ok (.ret (.str (U bC) u))/\bz b aB aA [[(a,I z e)],eh w.params X (xN gT cN) (.str (U []) ar) ((X.af.length - cz.length:y) :ai) au,bP ch]) ?_ (λaA=>⟨(by rintro e ⟨_,_,_,_,h,_⟩;cases h),(by rintro ⟨_,_,_,_,h,_⟩;cases h)⟩) ?_
    ·exact o.fL [1] (af:=[]) (R:=[[(a,I z e)],bP ch]) ⟨rfl,by kernel_rfl,by kernel_rfl⟩ (aS.eW (by decide) λ_ h=>by cases h) (ZE w X p be bL av a dD r bC cz q gT bM b3 a9 L a4) (f:=λ_ _ Y=>.ret (.str (U bC) (Y 0 2))) (cv:=λ_ _ Y=>[eh w.params X (xN gT (Y 0 3)) (.str (U []) (Y 0 4)) ((X.af.length - cz.length:y) :ai) (Y 0 5)]) (by intro n t X;kernel_rfl) λn t Y aA cy=>⟨Y 0 2,Y 0 3,Y 0 4,Y 0 5,rfl,cy.eQ [1,0,2] rfl rfl⟩
    rintro v aA ⟨u,cN,ar,au,az,cI⟩;cases az;refine ⟨z,e,cI.get 0 rfl,iK (jx ..) al,?_⟩;have cy:=cI.cB (as:=I (z++[.str (U bC) u]) (e+1)) (e4 (·.push (.str (U bC) u))) ((hc _ (cI.get 0 rfl) rfl).trans (by simp [e4])) (cI.at aS).size;cases gT with
    | true=>
     cases cz with
     | cons _ _=>cases h
     | nil=>cases h;exact ZF bM aX aS cy λbi x dz=>bJ bi (fc 0 0 (x 2) (x 3) (x 4) (x 5) λ_=>u) dz
    | false=>
     induction e2:iD n cz with
     | none=>rw [e2] at h;injection h
     | some aZ=>
      rw [e2] at h
      (injection h with d8;subst d8)
      have OH:cz<:+X.af:=(adj b3).trans (a9▸List.drop_suffix _ _);refine bO cz aZ e2 (X.af.length - cz.length) cN ar au (e+1) (z++[.str (U bC) u]) _ (List.suffix_iff_eq_drop.mp OH).symm (Nat.sub_add_cancel OH.length_le) (by refine H (ea ..) (H (ig ..) (H (pb ..) (H (lB 1 ..) ?_)));exact al) cy λbi x dz=>?_;rw [f9 z] at dz;exact bJ bi (fc (x 0) (x 1) (x 2) (x 3) (x 4) (x 5) λk=>match k with | 0=>u | k+1=>x (k+6)) dz
theorem ZG {X:gO}{a:y}{dD:ag}{ch:dl}(bM:X.af.length<1000000)(aX:eg ch)(n:y)(r:B y)(toks:B (B y))(h:iD n r=some toks)(p be bL av e:y)(z:B ag)(a9:X.af.drop p=r)(L:p+r.length=X.af.length)(al:z.length+n<1000) :
  ec w (some (ch.map (·.1))) 7 (lR a X.l dD) none ((a,I z e)::eh w.params X (.str (U [32]) be) (.str (U []) bL) (p:ai) av) [bP ch] (λ_=>.ok (.ret dD))
   (λx=>I (z++kp toks λk=>x (k+6)) (x 2)::(eh w.params X .none (.str (U []) (x 3)) (X.af.length:ai) (x 4)).map (·.2)) (λ_=>[]) (λx=>[bP (eR (x 5) ch)]) (λ_=>bZ):=λA s aS has bU=>
 ZH bM aX aS n r toks h p be bL av e z s a9 L al (bz.pj (S:=[[(a,I z e)],eh w.params X (.str (U [32]) be) (.str (U []) bL) (p:ai) av,bP ch]) (by kernel_rfl) has bU) λan x o=>⟨fc an.heap.objs.size an.toks (x 2) (x 3) (x 4) (x 5) λk=>x (k+6),rfl,trivial,rfl,rfl,bz.ny o rfl (by kernel_rfl)⟩
end
end
section
noncomputable abbrev oM (l:y) :cn:=.builtin "list.__new__" ⟨[.type "list",.ref l],[]⟩
section
variable (w:aG)(l:y)
noncomputable def Z2 (n t:y) :bb w:=
  .bd [] [] 1 (.ret (.ok (.ret (.ref n)))) [(0,{cls:=(.type "list"),data:=(.seq ⟨[]⟩ 0)})]
theorem Z3:eu w none 0 none ([]) ([]) (oM l) (uW (oM l) (iy (oM l))) (Z2 w):=c6
end
theorem Z6 (l:y) :iy (oM l)= .stack (uV (iy (oM l))):=by kernel_rfl
theorem Z4 (l:y)(p:c2)(aW:B (cn×c2)) :uV (iy (oM l)) ((oM l,p)::aW)=uW (oM l) (iy (oM l)):=by kernel_rfl
section
variable {w:aG}
theorem Z5 {l:y} :b0 w 0 (oM l) none [] (λx=>.ok (.ret (.ref (x 2)))) (λ_=>[]) (λx=>[(x 2,I [] 0)]) (λ_=>bZ):=λA s aS has bU=>by
 refine wF (co:=.nil) ?_;have O:=xF (w:=w) (A:=A) (s:=s) (R:=λr an=>∃ x:y->y,r=(λx:y->y=>(Except.ok (Flow.ret (.ref (x 2))) :cD)) x/\bZ/\an.heap.objs.size=x 0/\an.toks=x 1/\oe s an [] [] [(x 2,I [] 0)]) (Z3 w l) aS has bU (F:=λdw du=>∃ e,dw= .ret (.ok (.ret (.ref e)))/\du=[(e,I [] 0)]) (λn t=>⟨n,rfl,rfl⟩) ?_
 ·intro b6 p aX ds
  have h:=O b6 p aX ds;refine H (Z6 ..) (H (Hm ..) (H aX (H (Z4 ..) ?_)));exact h
 ·rintro dw du an ⟨e,rfl,rfl⟩ b1 aV
  refine ⟨ca an.heap.objs.size an.toks [e],rfl,trivial,rfl,rfl,⟨rfl,λ_ h=>((c4 h).elim),b1.has,b1.e8,λp L=>?_,aV⟩⟩;rcases b1.fresh p L with h | h
  ·exact (c4 h).elim
  ·exact h
end
noncomputable def Rz (w:aG)(l:y) :cV w:=⟨0,_,none,_,_,_,_,_,Z5 (w:=w) (l:=l)⟩
noncomputable def Eh (l:y) :e5 h3:=(typeOf (.ref l)).bind λt=>match t==.type "list"||t==.type "tuple" with
 | true=>.pure (.done .cont)
 | false=>(q0 (.ref l)).bind λkh=>(holding [kh] (PO (.ref l))).bind λq3=>match q3 with
  | true=>.pure (.done (.ret kh))
  | false=>.pure (.done .cont)
section
variable {w:aG}
theorem ZT {a l e:y}{A:c9}{s:aR}{R cZ:cD->aR->Prop}(e6:a≠l)(ej:s.heap.get? a=some (I [] e))
  (az:∀ hr,hr={s with heap:=s.heap.update a (e4 λ_=>#[])}->wpOwn (model aL w) A (.builtin "list.__init__" ⟨[.ref a,.ref l],[]⟩) (Eh l) (postC aL w A cZ) (postE cZ) hr)
  (bK:∀ aA,(∀ e,¬ cZ (.error e) aA)/\¬ cZ (.ok .cont) aA)
  (aJ:∀ v aA,cZ (.ok (.ret v)) aA->∃ e,aA.heap.get? a=some (I [] e)/\∀ bi,bi={aA with heap:=(aA.heap.update a (e4 (·.push .none))).update a (e4 (·.pop))}->v= .ref l/\codeAny (model aL w) A (lR a l .none) R bi) :
  codeAny (model aL w) A (.builtin "list.__init__" ⟨[.ref a,.ref l],[]⟩) R s:=by
 refine HK (b:=Builtin.«list.__init__») F.entry_list_init ?_;show wpOwn _ _ _ (vg (.ref a) >>= λln=>rb a (λ_=>#[]) >>= λ_=>letGo ln.toList.reverse >>= λ_=>AN (.ref a) (.ref l) .none) _ _ s;refine xR (u9 ?_);unfold vg;refine bE (u8 ej rfl (wpAny_pure ?_));refine xR (u9 (ob ej rfl ?_));refine xR (u9 (u7 ?_));intro b6 p aX ds;have h:=az _ rfl b6 p aX ds;unfold Eh at h;rw [hf] at h;unfold AN;refine H (qg ..) ?_;refine ot _ _ _ (λt dV aA az=>?_) (λe dV aA he=>absurd he ((bK aA).1 e)) p _ h;have g3:AO (.ref a) (.ref l)=false:=by simpa [AO] using e6
 rw [g3,Bool.false_or];cases e2:(t==.type "list"||t==.type "tuple") with
 | true=>rw [e2] at az;exact absurd az (bK aA).2
 | false=>
  rw [e2] at az;simp only [rg,qJ] at az ⊢;rw [hf] at az;rw [qg];refine ot _ _ _ (λkh fj bi oC=>?_) (λe dV aA he=>absurd he ((bK aA).1 e)) dV aA az;rw [hf] at oC;refine H (qg ..) ?_;refine ot _ _ _ (λq3 hN dp bg=>?_) (λe dV aA he=>absurd he ((bK aA).1 e)) fj bi oC
  induction q3 with
  | false=>exact absurd bg (bK dp).2
  | true=>
   obtain ⟨e,b1,k⟩:=aJ kh dp bg;have dY:b6.In (A.under (.builtin "list.__init__" ⟨[.ref a,.ref l],[]⟩)):=by have h:=ds.in;rw [aX] at h;exact h
   obtain ⟨ab,ae⟩:=k _ rfl;subst ab;have W:wpAny (model aL w) (A.under (.builtin "list.__init__" ⟨[.ref a,.ref l],[]⟩)) (PySem.rule "list.extend.makes-room" >>= λ_=>PQ (.ref a) >>= λ_=>Hg (lR a l .none)) (λbd an=>match bd with | .done f=>R (.ok f) an | .again ff=>ff.quiet=true/\codeAny (model aL w) A ff R an) (λe an=>R (.error e) an) dp:=by refine bE (wpAny_rule (bE ?_));show wpAny _ _ (rb a (·.push .none) >>= λ_=>rb a (·.pop)) _ _ _;refine bE (ob b1 rfl ?_);have oD:=hc (e4 (·.push Value.none)) b1 rfl;refine ob (hz:=by refine H (jr ..) ?_;simp) oD rfl ?_ (by refine H (jr ..) ?_;simp);exact wpAny_pure ⟨su (by kernel_rfl),ae⟩
   exact W b6 hN dY
end
section
variable (w:aG)(X:gO)(a p be bL av:y)
noncomputable def ZR (n t:y) :bb w:=
  .bd (aY 0x100010001000177700000100011) [1] 1 (.ret (.ok (.ret (.ref X.l)))) [(0,hp X.gK),(1,ho w.params X (.str (U [32]) be) (.str (U []) bL)),(2,fM X.bs),(3,f3 w.params X.ck X.af X.db (↑p) av),(4,et),(5,et)]
theorem ZS:eu w none 8 none (eh w.params X (.str (U [32]) be) (.str (U []) bL) (p:ai) av) ([]) (.builtin "list.__init__" ⟨[.ref a,.ref X.l],[]⟩) (Eh X.l) (ZR w X p be bL av):=by revert w;exact cX
end
section
variable {w:aG}
theorem YT {X:gO}{a p be bL av n:y}{ch:dl}{r:B y}{toks:B (B y)}(bM:X.af.length<1000000)(aX:eg ch)(h:iD n r=some toks)(a9:X.af.drop p=r)(L:p+r.length=X.af.length)(bK:n<1000) :
  ec w (some (ch.map (·.1))) 8 (.builtin "list.__init__" ⟨[.ref a,.ref X.l],[]⟩) none ((a,I [] 0)::eh w.params X (.str (U [32]) be) (.str (U []) bL) (p:ai) av) [bP ch] (λ_=>.ok (.ret .none))
   (λx=>I (kp toks λk=>x (k+6)) (x 2)::(eh w.params X .none (.str (U []) (x 3)) (X.af.length:ai) (x 4)).map (·.2)) (λ_=>[]) (λx=>[bP (eR (x 5) ch)]) (λ_=>bZ):=λA s aS has bU=>by
 rw [show [bP ch].flatten=bP ch from by simp] at has bU;have qy:=bU.e8;rw [c0,hd] at qy;obtain ⟨fB,im,jT⟩:=fA.mp qy;obtain ⟨yV,WL⟩:=gy.mp fB;have XD:dX s.heap (eh w.params X (.str (U [32]) be) (.str (U []) bL) (p:ai) av):=λp L=>has p (eS _ (dG _ L));have WN:ie (r8 X):=⟨WL,λb aQ=>bU.free b (by rw [c0,hd];exact eS _ (dG _ aQ))⟩;have ej:s.heap.get? a=some (I [] 0):=has (a,I [] 0) (eS _ (cY ..));have ty:∀ b∈a::r8 X,935<=b∨b=894:=λb aQ=>bU.free b (by rw [c0,hd];exact eS _ aQ);have F8:=hQ s.heap a (e4 λ_=>#[]);have F5:∃ e,(s.heap.update a (e4 λ_=>#[])).get? a=some (I [] e):=⟨_,hc _ ej rfl⟩;have M:fy s {s with heap:=s.heap.update a (e4 λ_=>#[])} (a::r8 X):=⟨λb o' ev aQ=>(F8.2 b λh=>aQ (h▸cY ..)).trans ev,vp F8.1.symm,rfl,⟨[],(by simp),λ_ h=>(nomatch h)⟩⟩;have XE:dX (s.heap.update a (e4 λ_=>#[])) (eh w.params X (.str (U [32]) be) (.str (U []) bL) (p:ai) av):=λp L=>by have aU:p.1∈r8 X:=ep (f:=λp:aM×ao=>p.1) L;exact (F8.2 _ λh=>yV (by rw [h] at aU;exact aU)).trans (XD p L)
 refine ZT (cZ:=λeX aA=>eX= .ok (.ret (.ref X.l))/\dX aA.heap (eh w.params X (.str (U [32]) be) (.str (U []) bL) (p:ai) av)/\fy {s with heap:=s.heap.update a (e4 λ_=>#[])} aA (r8 X)) (λe=>yV (e▸cY ..)) ej ?_ ?_ ?_
 ·rintro hr rfl
  refine xF (ZS w X a p be bL av) (eb.moves (dg:=none) (aS.eW (fk _) λl e=>(nomatch e)) M ty) XE WN (F:=λdw du=>dw= .ret (.ok (.ret (.ref X.l)))/\du=eh w.params X (.str (U [32]) be) (.str (U []) bL) (p:ai) av) ?_ ?_
  ·intro n t
   exact ⟨rfl,by kernel_rfl⟩
  ·rintro dw du aA ⟨rfl,rfl⟩ b1 aV
   exact ⟨rfl,b1.has,aV⟩
 ·intro aA
  refine ⟨?_,?_⟩
  ·rintro e ⟨h,_⟩;cases h
  ·rintro ⟨h,_⟩;rcases h with _ | _
 rintro v aA ⟨az,px,aV⟩;rcases az with _ | _;obtain ⟨g3,F5⟩:=F5;have Ph:=aV.eO _ _ F5 yV
 refine ⟨g3,Ph,?_⟩;rintro bi rfl;refine ⟨rfl,?_⟩;have o4:=hQ aA.heap a (e4 (·.push .none));have WK:=hc (e4 (·.push Value.none)) Ph rfl;have p0:=hQ (aA.heap.update a (e4 (·.push .none))) a (e4 (·.pop));have AA:∃ e,((aA.heap.update a (e4 (·.push .none))).update a (e4 (·.pop))).get? a=some (I [] e):=⟨_,hc _ WK rfl⟩;have O5:((aA.heap.update a (e4 (·.push .none))).update a (e4 (·.pop))).objs.size=aA.heap.objs.size:=p0.1.trans o4.1;have EL:∀ b,b≠a->((aA.heap.update a (e4 (·.push .none))).update a (e4 (·.pop))).get? b=aA.heap.get? b:=λb aQ=>(p0.2 b aQ).trans (o4.2 b aQ);generalize (aA.heap.update a (e4 (·.push .none))).update a (e4 (·.pop))=aJ at AA O5 EL;obtain ⟨bt,AA⟩:=AA;have zq:fy s {aA with heap:=aJ} (a::r8 X):=by have ab:=M.trans (aV.sH λb aQ=>dG _ aQ) λb aQ=>.inl aQ;exact ⟨λb o e aQ=>(EL b λh=>aQ (h▸cY ..)).trans (ab.eO b o e aQ),by show _<=aJ.objs.size;refine H O5 ?_;exact ab.size,ab.os,ab.gens⟩
 refine gR (ZG bM aX n r toks h p be bL av bt [] a9 L (by simpa using bK) A {aA with heap:=aJ} (eb.moves (aS.eW (by omega) λl e=>e) zq ty) ?_ (by refine H (show [bP ch].flatten=bP ch from by simp) ?_;exact bU)) ?_
 ·refine H (show [bP ch].flatten=bP ch from by simp) ?_
  intro q a4;rcases dU.mp a4 with a4 | a4
  ·rcases dx.mp a4 with rfl | a4
   ·exact AA
   ·have aU:q.1∈r8 X:=ep (f:=λp:aM×ao=>p.1) a4
    exact (EL _ λh=>yV (by rw [h] at aU;exact aU)).trans (px q a4)
  ·exact zq.eO _ _ (has q (eJ _ a4)) λaU=>jT q.1 aU q.1 (ep a4) rfl
 ·rintro lq dp ⟨x,rfl,_,bG,az,a7⟩
  refine ⟨x,rfl,trivial,bG,az,⟨a7.len,a7.has,a7.e8,λp L=>(a7.fresh p L).imp id λh=>gh zq.size h,?_⟩⟩;exact (zq.sH λb aQ=>eS _ aQ).trans a7.eD λb aQ=>.inl aQ
end
noncomputable def Rx (w:aG)(X:gO)(a:y)(a5:cE)(jj:y)(cI:ao)(ch:dl)(n p be bL av:y)(r:B y)(toks:B (B y))(bM:X.af.length<1000000)(aX:eg ((a5,jj,cI)::ch))(h:iD n r=some toks)(a9:X.af.drop p=r)(L:p+r.length=X.af.length)(al:n<1000)(b1:mm cI=false) :hy w:=
 ec.mk ((YT (w:=w) (X:=X) (a:=a) (p:=p) (be:=be) (bL:=bL) (av:=av) bM aX h a9 L al).sB (o':=λx=>kQ a5 (l6 (x 5) ch) cI) (t:=λx=>eR (x 5) ch) λx=>by exact H (Oi b1 ..) rfl)
noncomputable abbrev OM (G:aM) :cE:=mT (ew 34) (U uD) 892 891 G
theorem Sa {aC:B f8}{K:y}{G:aM}{r:dl}(a9:eg r) :eg ((OM G,G,eM aC K)::r):=by
 intro c aX;rcases dx.mp aX with rfl | aX
 ·exact ⟨⟨rfl,by kernel_rfl,by kernel_rfl⟩,rfl⟩
 ·exact a9 c aX
section
variable (w:aG)(af:B y)(db m:y)(toks:B (B y))(ch:dl)(aX:eg ch)(bM:af.length<1000000)(h:iD m af=some toks)(aU:m<1000)(a9:af.drop 0=af)(L:0+af.length=af.length)
noncomputable def aeA (n t:y) :bb w:=
  .ax (aY 0x110022203000303030003112220300030303000311142220300030303000344444222030003030300034222030003030300034dddddd0222030003030300034222030003030300034222030003030300034222030003030300034cccccc0222030003030300034222030003030300034222030003030300034222030003030300034222030003030300034222030003030300034222030003030300032033000300034203300030003422203000303030003422203000303030003422203000303030003442220300030303000344222030003030300034422203000303030003444448880900000009090900000009abbbbbb80990000000900000009bbbbb00a89000090000000900000009aa8880900000009090900000009a8880900000009090900000009a8880900000009090900000009aa00a00aaaa00a00aaaaaaa0000009090000000000000000000000000000000000000700070007777777000000000000000000000000400040044444444440000003030000000000000000000000000000110111111100) (aY 0x12000000000000000000000000000000000000000000000000000000000000000000000000010000000000000010000100000000001000001) 13 (Rz w (n+2)) [] λah=>.fF [14,14,14] [0,2] 0 (Rx w ({l:=n+2,gK:=n+1,br:=n+8,bs:=n+7,zY:=n+11,yQ:=n+12,ck:=t+3,c8:=t+96,db:=db,af:=af}) (ah 2) (OM n) n (eM
 [aj w.params [115] t (PySem.Value.str (U af) db),aj w.params [99,111,109,109,101,110,116,115] (t+1) (PySem.Value.bool Bool.false),aj w.params [112,111,115,105,120] (t+2) (PySem.Value.bool Bool.true),aj w.params [108,101,120] (t+93) (PySem.Value.ref (n+2))]
 4) ch m 0 (t+69) (t+80) (t+23) af toks bM (Sa aX) h a9 L aU rfl) (aY 0x10cb7812d) [true] λaN=>.bd [] [] 0 (.ret (.ok (.ret (.ref (ah 2))))) [(13,(I (kp toks λk=>aN (k+6)) (aN 2)))]
theorem aeB:j8 w (some (ch.map (·.1))) 9 none ([]) ([bP ch]) (.call (.ref 892) ⟨[.str (U af) db],[]⟩) (aeA w af db m toks ch aX bM h aU a9 L):=by revert w;exact cX
end
section
variable {w:aG}
theorem OO {af:B y}{db m:y}{toks:B (B y)}{ch:dl}(aX:eg ch)(bM:af.length<1000000)(h:iD m af=some toks)(aU:m<1000) :
  ec w (some (ch.map (·.1))) 9 (.call (.ref 892) ⟨[.str (U af) db],[]⟩) none [] [bP ch] (λx=>.ok (.ret (.ref (x 2)))) (λ_=>[]) (λx=>[(x 2,I (kp toks λk=>x (k+6)) (x 3))]) (λx=>[bP (eR (x 4) ch)]) (λ_=>bZ):=by
 exact yL (aeB w af db m toks ch aX bM h aU rfl (jd _)) (λn t X a b=>fc a b (X 0 2) (X 1 2) (X 1 5) 0 (λk=>X 1 (k+6))) λn t X a b=>⟨by kernel_rfl,rfl,trivial⟩
end
end
section
section
variable {w:aG}
theorem acX {x as aq:a6}{dH:B y}{t u v:y}{ap:aK ag}(eG:u≠0)(bc:v≠0)(DO:u≠v)
  (DT:(as==aq)=false)(aX:((oh x as 0 x.length (x.length+1)).isEmpty||(as.length==0&&aq.length==0))=false)(al:GB (x.length+(oh x as 0 x.length (x.length+1)).length * aq.length)=false)
  (b3:GA aq (PR x (oh x as 0 x.length (x.length+1)) as.length)=U dH)(kg:dH.length<1000000) :
  b0 w 0 (.builtin "str.replace" ⟨[.str x t,.str as u,.str aq v],[]⟩) ap [] (λx=>.ok (.ret (.str (U dH) (x 2)))) (λ_=>[]) (λ_=>[]) (λ_=>bZ):=by
 refine nj (v:=λbe=>.str (U dH) be) λA s aS has=>?_;refine oS F.entry_str_replace (by kernel_rfl) (by kernel_rfl) (S:=Made.spec _) (gives_str_replace x as aq t u v λ_=>⟨by simp [eG,bc],by simp [DO],DT,al⟩) ?_;refine H aX (H b3 ?_);refine ⟨?_,s.toks,rfl,rfl,rfl,rfl⟩;show dH.toArray.size<=_;refine H (jr ..) ?_;simp;omega
end
noncomputable def RJ (w:aG)(x as aq:a6)(dH:B y)(t u v:y)(ap:aK ag)(eG:u≠0)(bc:v≠0)(DO:u≠v)(DT:(as==aq)=false)(aX:((oh x as 0 x.length (x.length+1)).isEmpty||(as.length==0&&aq.length==0))=false)(al:GB (x.length+(oh x as 0 x.length (x.length+1)).length * aq.length)=false)
  (b3:GA aq (PR x (oh x as 0 x.length (x.length+1)) as.length)=U dH)(kg:dH.length<1000000) :cV w:=⟨0,_,ap,_,_,_,_,_,acX (w:=w) (t:=t) (ap:=ap) eG bc DO DT aX al b3 kg⟩
noncomputable def RK (w:aG)(am k:y) :cV w:=RJ w (ay 2) (U [39]) (U [39,34,39,34,39]) [105,116,39,34,39,34,39,115] am (k+1) (k+2) none (Bm _) (Bm _) (k0 (pd _)) (by kernel_rfl) (by kernel_rfl) (by kernel_rfl) (by kernel_rfl) (by decide)
noncomputable def g9:y->B y
 | 0=>[39,98,32,99,39]
 | 1=>[39,39]
 | 2=>ND
 | 3=>[39,35,39]
 | 4=>[122]
 | 5=>[90]
 | 6=>[49,48]
 | 7=>[57]
 | 8=>[97,61,98]
 | 9=>[39,126,39]
 | 10=>[45]
 | _=>[39,121,92,39]
end
section
section
variable (w:aG)(am:y)
noncomputable def acn (n t:y) :bb w:=
  .bd nX z6 3 (.ret (.ok (.ret (.str (U [39,98,32,99,39]) (t+8))))) []
theorem aco:b2 w 1 none ([]) (.call (.ref 907) ⟨[.str (ay 0) am],[]⟩) (acn w):=c6
end
section
variable (w:aG)(am:y)
noncomputable def act (n t:y) :bb w:=
  .bd [0,1,1,1] [1,0,0,0] 1 (.ret (.ok (.ret (.str (U [39,39]) (t+3))))) []
theorem acu:b2 w 1 none ([]) (.call (.ref 907) ⟨[.str (ay 1) am],[]⟩) (act w):=c6
end
section
variable (w:aG)(am:y)
noncomputable def acv (n t:y) :bb w:=
  .ax nX (aY 0x120000001) 3 (RK w am (t+3)) [] λah=>.bd [] [0,0,0,0] 0 (.ret (.ok (.ret (.str (U ND) (ah 1+2))))) []
theorem acw:b2 w 1 none ([]) (.call (.ref 907) ⟨[.str (ay 2) am],[]⟩) (acv w am):=c6
end
section
variable (w:aG)(am:y)
noncomputable def acx (n t:y) :bb w:=
  .bd nX z6 3 (.ret (.ok (.ret (.str (U [39,35,39]) (t+8))))) []
theorem acy:b2 w 1 none ([]) (.call (.ref 907) ⟨[.str (ay 3) am],[]⟩) (acx w):=c6
end
section
variable (w:aG)(am:y)
noncomputable def acz (n t:y) :bb w:=
  .bd nX sl 1 (.ret (.ok (.ret (.str (ay 4) am)))) []
theorem acA:b2 w 1 none ([]) (.call (.ref 907) ⟨[.str (ay 4) am],[]⟩) (acz w am):=c6
end
section
variable (w:aG)(am:y)
noncomputable def acB (n t:y) :bb w:=
  .bd nX sl 1 (.ret (.ok (.ret (.str (ay 5) am)))) []
theorem acC:b2 w 1 none ([]) (.call (.ref 907) ⟨[.str (ay 5) am],[]⟩) (acB w am):=c6
end
section
variable (w:aG)(am:y)
noncomputable def acD (n t:y) :bb w:=
  .bd nX sl 1 (.ret (.ok (.ret (.str (ay 6) am)))) []
theorem acE:b2 w 1 none ([]) (.call (.ref 907) ⟨[.str (ay 6) am],[]⟩) (acD w am):=c6
end
section
variable (w:aG)(am:y)
noncomputable def acF (n t:y) :bb w:=
  .bd nX sl 1 (.ret (.ok (.ret (.str (ay 7) am)))) []
theorem acG:b2 w 1 none ([]) (.call (.ref 907) ⟨[.str (ay 7) am],[]⟩) (acF w am):=c6
end
section
variable (w:aG)(am:y)
noncomputable def acH (n t:y) :bb w:=
  .bd nX sl 1 (.ret (.ok (.ret (.str (ay 8) am)))) []
theorem acI:b2 w 1 none ([]) (.call (.ref 907) ⟨[.str (ay 8) am],[]⟩) (acH w am):=c6
end
section
variable (w:aG)(am:y)
noncomputable def acJ (n t:y) :bb w:=
  .bd nX z6 3 (.ret (.ok (.ret (.str (U [39,126,39]) (t+8))))) []
theorem acK:b2 w 1 none ([]) (.call (.ref 907) ⟨[.str (ay 9) am],[]⟩) (acJ w):=c6
end
section
variable (w:aG)(am:y)
noncomputable def acp (n t:y) :bb w:=
  .bd nX sl 1 (.ret (.ok (.ret (.str (ay 10) am)))) []
theorem acq:b2 w 1 none ([]) (.call (.ref 907) ⟨[.str (ay 10) am],[]⟩) (acp w am):=c6
end
section
variable (w:aG)(am:y)
noncomputable def acr (n t:y) :bb w:=
  .bd nX z6 3 (.ret (.ok (.ret (.str (U [39,121,92,39]) (t+8))))) []
theorem acs:b2 w 1 none ([]) (.call (.ref 907) ⟨[.str (ay 11) am],[]⟩) (acr w):=c6
end
section
variable {w:aG}
theorem acM {i am:y}(aF:i<12) :b0 w 1 (.call (.ref 907) ⟨[ad (i,am)],[]⟩) none [] (λx=>.ok (.ret (.str (U (g9 i)) (x 2)))) (λ_=>[]) (λ_=>[]) (λ_=>bZ):=by
 rcases tY aF with rfl | rfl | rfl | rfl | rfl | rfl | rfl | rfl | rfl | rfl | rfl | rfl
 ·exact dy (aco w am) (λn t X a b=>ca a b [t+8]) λn t X a b=>⟨by kernel_rfl,rfl,trivial⟩
 ·exact dy (acu w am) (λn t X a b=>ca a b [t+3]) λn t X a b=>⟨by kernel_rfl,rfl,trivial⟩
 ·exact dy (acw w am) (λn t X a b=>ca a b [X 0 1+2]) λn t X a b=>⟨by kernel_rfl,rfl,trivial⟩
 ·exact dy (acy w am) (λn t X a b=>ca a b [t+8]) λn t X a b=>⟨by kernel_rfl,rfl,trivial⟩
 ·exact dy (acA w am) (λn t X a b=>ca a b [am]) λn t X a b=>⟨by kernel_rfl,rfl,trivial⟩
 ·exact dy (acC w am) (λn t X a b=>ca a b [am]) λn t X a b=>⟨by kernel_rfl,rfl,trivial⟩
 ·exact dy (acE w am) (λn t X a b=>ca a b [am]) λn t X a b=>⟨by kernel_rfl,rfl,trivial⟩
 ·exact dy (acG w am) (λn t X a b=>ca a b [am]) λn t X a b=>⟨by kernel_rfl,rfl,trivial⟩
 ·exact dy (acI w am) (λn t X a b=>ca a b [am]) λn t X a b=>⟨by kernel_rfl,rfl,trivial⟩
 ·exact dy (acK w am) (λn t X a b=>ca a b [t+8]) λn t X a b=>⟨by kernel_rfl,rfl,trivial⟩
 ·exact dy (acq w am) (λn t X a b=>ca a b [am]) λn t X a b=>⟨by kernel_rfl,rfl,trivial⟩
 ·exact dy (acs w am) (λn t X a b=>ca a b [t+8]) λn t X a b=>⟨by kernel_rfl,rfl,trivial⟩
end
end
section
noncomputable def adk (l:B c5) :cT×c2:=(kP l[0]? 0,oX l[0]?)
noncomputable def So (e:cT) :cT×a6×c2×cT×c2:=(hq (hq e 0) 0,Ft (hq e 0),kO (hq e 0),hq e 1,kO e)
noncomputable def Xf (e:cT) :cT×a6×c2×cT×l4×c2:=(hq e 0,Ft ((oW e).2.2.2.2.2.2.headD default).1,kO ((oW e).2.2.2.2.2.2.headD default).1,((oW e).2.2.2.2.2.2.headD default).2,Og e,kO e)
noncomputable def wJ (e:cT) :c2:=kO e
noncomputable def Zk (e:cT) :y:=Of e
noncomputable def Wm:cT->cT
 | .Call f _ _ _=>f
 | e=>e
noncomputable def Hs:cT->cT
 | .Call _ (a::_) _ _=>a
 | e=>e
noncomputable def KD:=adk (ew 35).2.1
noncomputable def wv:=So KD.1
noncomputable def kF:=Xf wv.2.2.2.1
noncomputable abbrev KC:cT:=.Call (.Name "quote" (wJ (Wm kF.1))) [.Name "arg" (wJ (Hs kF.1))] [] (wJ kF.1)
noncomputable abbrev qL:cT:=.GeneratorExp KC [⟨.Name "arg" kF.2.2.1,.Name "split_command" (wJ kF.2.2.2.1),[],0⟩] kF.2.2.2.2.1 kF.2.2.2.2.2
theorem Y4:(ew 35).2.1=[.Return (some (.Call (.Attribute (.Constant (.str " ") (Zk wv.1) (wJ wv.1)) "join" wv.2.2.1) [qL] [] wv.2.2.2.2)) KD.2]:=by kernel_rfl
noncomputable abbrev mq (G:aM) :cE:=mT (ew 35) (U ue) 899 898 G
noncomputable abbrev mo (G C:aM)(gS:ag) :cE:=genEnv kF.2.2.2.2.1 [] C gS 0 (mq G)
noncomputable abbrev nR (G C cu:aM)(gS:ag) :cn:=.compLoop qL 0 (.ref cu) .none (mo G C gS)
structure jK (C cu:aM)(s an:aR) :Prop where
 eO:∀ b o,b≠C->b≠cu->s.heap.get? b=some o->an.heap.get? b=some o
 os:an.os=s.os
 gens:∃ l:B iJ,an.gens=s.gens++l.toArray/\∀ aI∈l,aI= .finished
section
variable {w:aG}
theorem jK.refl (C cu:aM)(s:aR) :jK C cu s s:=⟨λ_ _ _ _ e=>e,rfl,[],rfl,λ_ h=>((c4 h).elim)⟩
theorem jK.trans {C cu:aM}{s aA bi:aR}(az:jK C cu s aA)(aJ:jK C cu aA bi) :jK C cu s bi:=by refine ⟨λb o x as e=>aJ.eO b o x as (az.eO b o x as e),aJ.os.trans az.os,?_⟩;obtain ⟨eP,a5,fe⟩:=az.gens;obtain ⟨g8,bt,fI⟩:=aJ.gens;exact ⟨eP++g8,by refine H bt (H a5 ?_);simp,λaI b3=>(dU.mp b3).elim (fe aI) (fI aI)⟩
theorem jK.heap {C cu:aM}{s aA:aR}(az:jK C cu s aA){ct:gg}{be:y}(aV:∀ b o,b≠C->b≠cu->aA.heap.get? b=some o->ct.get? b=some o) :jK C cu s {aA with heap:=ct,toks:=be}:=
 ⟨λb o x as e=>aV b o x as (az.eO b o x as e),az.os,az.gens⟩
theorem Ay {h:gg}(O:KT.Holds h 1 0 (fr w.params)) :935<=h.objs.size:=hC (nS O (a:=934) (o:=EG w.params) (by kernel_rfl))
theorem Ax {h ct:gg}{C cu:aM}(iR:935<=C)(jl:935<=cu)(O:KT.Holds h 1 0 (fr w.params))(aV:∀ b o,b≠C->b≠cu->h.get? b=some o->ct.get? b=some o) :KT.Holds ct 1 0 (fr w.params):=
 n4 O λa o cR e=>aV a o (pX cR (.inl iR)) (pX cR (.inl jl)) e
noncomputable def rL:ao->cp f8
 | ⟨_,_,.dict aC _,_⟩=>aC
 | _=>#[]
noncomputable def aeH (aC:cp f8) :bW:=aC.all λe=>match e.key with | .str _ _=>true | _=>false
theorem OU {aC:cp f8}(h:aeH aC=true) :StrKeys aC:=λe he=>by
 have:=Array.all_eq_true_iff_forall_mem.mp h e he;split at this
 ·exact ⟨_,_,‹_›⟩
 ·injection this
theorem Pb {h:gg}(O:KT.Holds h 1 0 (fr w.params)) :h.Ns 3 (nsFind (rL (dz w.params))):=
 ⟨dz w.params,rL (dz w.params),_,nS O (by kernel_rfl),rfl,OU (by kernel_rfl),λ_=>rfl⟩
theorem Y7 {ei:c9}{GF:ag->aR->Prop}{s:aR}{m:a6->aK ag}{i be G C cu:y}{gS:ag}(eT:ei.handled=none)(ap:ei.depth+40<=900)(eG:ei.units+200<=9000)(aF:i<12)
  (bK:s.heap.Ns C m)(bc:m "arg" =some (ad (i,be)))(e2:KT.Holds s.heap 1 0 (fr w.params)) :
  wpAny (model aL w) ei (k7 KC (mo G C gS)) (λas an=>(∃ u,as= .str (U (g9 i)) u)/\jK C cu s an/\(∀ b o,s.heap.get? b=some o->an.heap.get? b=some o)) GF s:=by
 refine Call_ ?_;refine Name_function_global (by kernel_rfl) (by kernel_rfl) (loadGlobal_global (mg:=nsFind (rL (dz w.params))) (Pb e2) (v:=.ref 907) (by kernel_rfl) ?_);refine callWith_def (o:=EF w.params) rfl ?_;refine args_cons ?_;refine wpAny_Name (afP (by kernel_rfl) (by kernel_rfl) bK bc ?_);refine args_nil ⟨nS e2 (by kernel_rfl),wpAny_call ?_⟩;refine gR (acM (w:=w) (am:=be) aF ei s ⟨by omega,by omega,eT,e2,Ay e2,λl e=>(nomatch e)⟩ (λ_ h=>(nomatch h)) ⟨mO,λ_ h=>(nomatch h)⟩) ?_;rintro r an ⟨x,rfl,_,_,_,a7⟩;exact ⟨⟨_,rfl⟩,⟨λb o _ _ e=>a7.eD.eO b o e (by simp),a7.eD.os,a7.eD.gens⟩,λb o e=>a7.eD.eO b o e (by simp)⟩
end
end
section
variable {w:aG}
noncomputable def A1 (w:aG)(C cu a:aM)(R:B (y×y)) :Protocol:=λm ha v s Zh=>(∃ p u,R[R.length - 1 - m]? =some p/\v= .str (U (g9 p.1)) u)/\jK C cu ha s/\
 ∀ j2:aR,(∀ b∈[C,cu,a],∀ o,s.heap.get? b=some o->j2.heap.get? b=some o)->KT.Holds j2.heap 1 0 (fr w.params)->Zh (.send .none) j2
noncomputable def A0 (C cu:aM) :GenEnd:=λn ha r eo=>r= .ok .next/\n=0/\jK C cu ha eo
theorem Y8 {A:c9}{R:B (y×y)}{C cu a G:y}{gS:ag}(eT:A.handled=none)(ap:A.depth+60<=900)(eG:A.units+400<=9000)(bJ:∀ p∈R,p.1<12)
  (y4:C≠cu)(C8:a≠C)(C9:a≠cu)(iR:935<=C)(jl:935<=cu) :∀ (k j:y) (ha s:aR) (m:a6->aK ag),R.length - j=k->j<=R.length->s.heap.IsListIter cu a j->s.heap.IsList a ⟨R.map ad⟩->s.heap.Ns C m->jK C cu ha s->KT.Holds s.heap 1 0 (fr w.params)->
   Seg (model aL w) A (A0 C cu) (A1 w C cu a R) k ha (nR G C cu gS) ((model aL w).den (nR G C cu gS)) [] s:=by
 have dC:(A.over (nR G C cu gS) []).handled=none:=eT;have hw:(nR G C cu gS).weight<=1:=AD rfl;have lM:(nR G C cu gS).cUnits<=3:=F7 rfl;have De:(A.over (nR G C cu gS) []).depth+40<=900:=by show A.depth+frameCount []+(nR G C cu gS).weight+40<=900;show A.depth+0+(nR G C cu gS).weight+40<=900;omega
 have DM:(A.over (nR G C cu gS) []).units+200<=9000:=by show A.units+unitsOf []+(nR G C cu gS).cUnits+200<=9000;show A.units+0+(nR G C cu gS).cUnits+200<=9000;omega
 intro k
 induction k with
 | zero=>
  intro j ha s m aV dB oG al bK hs e2;have e:j=R.length:=by omega
  subst e;show Seg _ A _ _ _ ha _ ((compTurn qL 0 (.ref cu) .none (mo G C gS)).onRaise (tU (mo G C gS))) [] s;rw [compTurn_gen,Hj];refine o1 (AF ?_);refine o1 (afT dC oG al (by simp) λct he=>?_);exact seg_end (.ok .next) ⟨rfl,rfl,hs.heap λb o _ x e=>he b o x e⟩
 | succ k bO=>
  intro j ha s m aV dB oG al bK hs e2;have io:j<R.length:=by omega
  show Seg _ A _ _ _ ha _ ((compTurn qL 0 (.ref cu) .none (mo G C gS)).onRaise (tU (mo G C gS))) [] s;rw [compTurn_gen,Hj];refine o1 (AF ?_);refine o1 (afU oG al (x:=ad R[j]) (by simp [io]) λhm XV DI=>?_);refine o1 (xP (rfl:letOwnedTupleGo (.Name "arg" kF.2.2.1) (.ref cu) (ad R[j])=pure ()) ?_);refine o1 (wpAny_assign_Name (wpAny_storeName_local (by kernel_rfl) (bK.at' λo e=>DI.extBut C o y4 e) (λkD Ke DJ=>?_) (by kernel_rfl)));have lZ:∀ b o,b≠C->b≠cu->s.heap.get? b=some o->kD.get? b=some o:=λb o x as e=>DJ.extBut b o x (DI.extBut b o as e);have YI:=Ax iR jl e2 lZ;have XW:kD.IsListIter cu a (j+1):=XV.at λo e=>DJ.extBut cu o (ih y4) e;have X1:kD.IsList a ⟨R.map ad⟩:=(al.extBut DI.extBut C9).extBut DJ.extBut C8;refine o1 (wpAny_pure ?_);simp only [if_true];have c3:∀ v,yieldOut (mo G C gS) v=yieldValue v:=λv=>by
   have:(mo G C gS).scope.isCoroutine=false:=by kernel_rfl
   simp only [yieldOut,this,rg,qJ]
  simp only [c3];rw [Sem.bind_eq_wrap',Sem.bind_eq_wrap',Sem.wrap_wrap,Sem.wrap_wrap];refine seg_wrap (Gh (Y7 (C:=C) (cu:=cu) (i:=R[j].1) (be:=R[j].2) dC De DM (bJ _ (pa io)) Ke (by simp) YI) (λas ae2 YL=>?_) λ_ _ e=>e);obtain ⟨⟨u,rfl⟩,XZ,DA⟩:=YL;have Yw:jK C cu ha ae2:=(hs.heap (be:=s.toks+1) lZ).trans XZ;refine seg_at (seg_yield rfl rfl rfl ⟨⟨R[j],u,?_,rfl⟩,Yw,λj2 mh wo=>?_⟩)
  ·have:R.length - 1 - k=j:=by omega
   rw [this];simp [io]
  ·refine seg_again rfl (bO (j+1) j2 j2 _ (by omega) io (XW.at λo e=>mh cu (by simp) o (DA cu o e)) (X1.at λo e=>mh a (by simp) o (DA a o e)) (Ke.at' λo e=>mh C (by simp) o (DA C o e)) (jK.refl _ _ _) wo)
end
section
variable {w:aG}
theorem As {bk:cp iJ}{x as:iJ}{l:B iJ} :(bk.push x++l.toArray).setIfInBounds bk.size as=bk.push as++l.toArray:=by apply Array.toList_inj.mp;simp
theorem JG {bk:cp iJ}{x:iJ}{l:B iJ} :(bk.push x++l.toArray)[bk.size]? =some x:=by refine df (Array.getElem?_toList ..) ?_;simp
structure qa (w:aG)(A:c9)(C cu a eB:aM)(R:B (y×y))(gM:cp iJ)(j:y)(s:aR) :Prop where
 tC:s.heap.IsGen eB gM.size
 it:KT.Holds s.heap 1 0 (fr w.params)
 xD:∃ m0 l,s.gens=gM.push m0++(l:B iJ).toArray/\(∀ aI∈l,aI= .finished)/\
  ∀ j2:aR,(∀ b∈[C,cu,a],∀ o,s.heap.get? b=some o->j2.heap.get? b=some o)->KT.Holds j2.heap 1 0 (fr w.params)->m0.Goes (model aL w) A.in1 (A0 C cu) (A1 w C cu a R) (R.length - j) (.send .none) j2
structure GK (C cu:aM)(s an:aR) :Prop where
 eO:∀ b o,b≠C->b≠cu->s.heap.get? b=some o->an.heap.get? b=some o
 os:an.os=s.os
section
variable {A:c9}{C cu a eB:aM}{R:B (y×y)}{gM:cp iJ}{s:aR}{E:ag->aR->Prop}{Q:aK ag->aR->Prop}
theorem qa.Y2 {j:y}(eT:A.handled=none)(ap:A.depth<recursionLimit)(iR:935<=C)(jl:935<=cu)(v2:eB≠C)(v3:eB≠cu)(pS:qa w A C cu a eB R gM j s)(dB:j<R.length)
  (dh:∀ p u an,R[j]? =some p->qa w A C cu a eB R gM (j+1) an->GK C cu s an->Q (some (.str (U (g9 p.1)) u)) an) :wpAny (model aL w) A (pO (.ref eB)) Q E s:=by
 obtain ⟨b3,e2,m0,l,nL,a7,rV⟩:=pS;obtain ⟨m,aU⟩ :∃ m,R.length - j=m+1:=⟨R.length - j - 1,by omega⟩;rw [aU] at rV;have DE:(s.setGen gM.size .running).gens=gM.push .running++l.toArray:=by show s.gens.setIfInBounds _ _ =_;rw [nL,As]
 refine afS (P:=λn ha eo=>n=0/\jK C cu ha eo) eT (zN e2) ap b3 (by rw [nL,JG]) (rV _ (λ_ _ _ e=>e) e2) (λv eo yZ bc=>?_) (λeo L ct aV=>?_)
 ·obtain ⟨⟨p,u,L,rfl⟩,aV,Do⟩:=bc
  have XT:R.length - 1 - (m+1 - 1)=j:=by omega
  rw [XT] at L;have YH:KT.Holds eo.heap 1 0 (fr w.params):=Ax iR jl e2 aV.eO;obtain ⟨eP,a5,fe⟩:=aV.gens;rw [DE] at a5;have Dj:(eo.setGen gM.size yZ).gens=gM.push yZ++(l++eP).toArray:=by
   show eo.gens.setIfInBounds _ _ =_;rw [a5];have:gM.push .running++l.toArray++eP.toArray=gM.push .running++(l++eP).toArray:=by simp
   exact H this (H (As ..) rfl)
  refine dh p u _ L ⟨let ⟨o,fK,gf,b1,r⟩:=b3;⟨o,fK,gf,aV.eO eB o v2 v3 b1,r⟩,YH,yZ,l++eP,Dj,λaI qA=>(dU.mp qA).elim (a7 aI) (fe aI),λj2 mh wo=>?_⟩ ⟨aV.eO,aV.os⟩;have e:R.length - (j+1)=m:=by omega
  refine H e ?_;exact Do j2 mh wo
 ·exact absurd L.1 (Bm m)
theorem qa.done (eT:A.handled=none)(ap:A.depth<recursionLimit)(iR:935<=C)(jl:935<=cu)(pS:qa w A C cu a eB R gM R.length s)
  (dh:∀ an,KT.Holds an.heap 1 0 (fr w.params)->(∃ l:B iJ,an.gens=gM++l.toArray/\∀ aI∈l,aI= .finished)->GK C cu s an->Q none an) :wpAny (model aL w) A (pO (.ref eB)) Q E s:=by
 obtain ⟨b3,e2,m0,l,nL,a7,rV⟩:=pS;rw [Nat.sub_self] at rV;have DE:(s.setGen gM.size .running).gens=gM.push .running++l.toArray:=by show s.gens.setIfInBounds _ _ =_;rw [nL,As]
 refine afS (P:=λn ha eo=>n=0/\jK C cu ha eo) eT (zN e2) ap b3 (by exact H nL (H (JG ..) rfl)) (rV _ (λ_ _ _ e=>e) e2) (λv eo yZ bc=>?_) (λeo L ct i8=>?_)
 ·obtain ⟨_,wh,Do⟩:=bc
  exact False.elim (Do eo (λ_ _ _ e=>e) (Ax iR jl e2 wh.eO))
 ·obtain ⟨_,aV⟩:=L
  obtain ⟨eP,a5,fe⟩:=aV.gens;rw [DE] at a5;have Dj:(eo.setGen gM.size .finished).gens=gM++(GenState.finished::(l++eP)).toArray:=by
   show eo.gens.setIfInBounds _ _ =_;refine H a5 ?_;have:gM.push .running++l.toArray++eP.toArray=gM.push .running++(l++eP).toArray:=by simp
   refine H this (H (As ..) ?_);apply Array.toList_inj.mp;simp
  refine dh _ (Ax (C:=C) (cu:=cu) iR jl e2 λb o x as e=>i8 b o (aV.eO b o x as e)) ⟨_,Dj,λaI qA=>?_⟩ ⟨λb o x as e=>i8 b o (aV.eO b o x as e),aV.os⟩;rcases dx.mp qA with rfl | qA
  ·rfl
  ·exact (dU.mp qA).elim (a7 aI) (fe aI)
noncomputable def AX (R:B (y×y))(l:B (a6×Tok)) :Prop:=l.map (·.1)=R.map λp=>U (g9 p.1)
theorem WT {A:c9}{C cu a eB S:aM}{R:B (y×y)}{gM:cp iJ}{bB:ag}{ac:cD->aR->Prop}(eT:A.handled=none)(ap:A.in1.depth<recursionLimit)(iR:935<=C)(jl:935<=cu)(v2:eB≠C)(v3:eB≠cu)
  (BC:S≠C)(BD:S≠cu)(Qs:S≠a)(Qw:S≠eB)(dT:935<=S)(jC:R.length<1000) :∀ (k j:y) (s:aR) (a3:B (a6×Tok)) (c:y),R.length - j=k->j<=R.length->qa w A.in1 C cu a eB R gM j s->
   s.heap.get? S=some {cls:=.type "list",data:=.seq ⟨strValues a3⟩ c}->AX (R.take j) a3->
   (∀ an yj ff,KT.Holds an.heap 1 0 (fr w.params)->(∃ l:B iJ,an.gens=gM++l.toArray/\∀ aI∈l,aI= .finished)->(∀ b o,b≠C->b≠cu->b≠S->s.heap.get? b=some o->an.heap.get? b=some o)->an.os=s.os->an.heap.get? S=some {cls:=.type "list",data:=.seq ⟨strValues yj⟩ ff}->AX R yj->ac (.ok (.ret bB)) an)->
   codeAny (model aL w) A (.builtin "list.extend.loop" ⟨[.ref S,.ref eB,bB],[]⟩) ac s:=by
 intro k
 induction k with
 | zero=>
  intro j s a3 c aV dB m8 tF b3 cq;have e:j=R.length:=by omega
  subst e;refine H9 PT ?_;refine H (rf AV _ ..) ?_;show wpAny _ A.in1 (pO (.ref eB) >>= _) _ _ s;refine bE (m8.done eT ap iR jl λan e2 nL rW=>?_);refine wpAny_pure (cq an a3 c e2 nL (λb o x as _ e=>rW.eO b o x as e) rW.os (rW.eO S _ BC BD tF) ?_);rw [List.take_length] at b3;exact b3
 | succ k bO=>
  intro j s a3 c aV dB m8 tF b3 cq;have io:j<R.length:=by omega
  refine H9 PT ?_;refine H (rf AV _ ..) ?_;show wpAny _ A.in1 (pO (.ref eB) >>= _) _ _ s;refine bE (m8.Y2 eT ap iR jl v2 v3 io λp u an L YC rW=>?_);have pw:=rW.eO S _ BC BD tF;have J8:a3.length=j:=by have:=fV rk b3;simpa [Nat.min_eq_left dB] using this
  show wpAny _ A.in1 (rb S (·.push (.str (U (g9 p.1)) u)) >>= _) _ _ _;refine bE (ob pw rfl ?_ (by refine H (jr ..) ?_;simp [strValues];omega) (by refine H (jr ..) ?_;simp [strValues];omega));have lZ:=hQ an.heap S (e4 (·.push (.str (U (g9 p.1)) u)));have d7:=hc (e4 (·.push (Value.str (U (g9 p.1)) u))) pw rfl;have a5:e4 (·.push (Value.str (U (g9 p.1)) u)) {cls:=.type "list",data:=.seq ⟨strValues a3⟩ c}={cls:=.type "list",data:=.seq ⟨strValues (a3++[(U (g9 p.1),u)])⟩ (c+1)}:=by simp [e4,strValues]
  rw [a5] at d7;obtain ⟨bD,cf,dJ⟩:=YC;refine wpAny_pure ⟨uE AV _,bO (j+1) _ (a3++[(U (g9 p.1),u)]) (c+1) (by omega) io ⟨?_,?_,?_⟩ d7 ?_ ?_⟩
  ·obtain ⟨o,fK,gf,b1,r⟩:=bD
   exact ⟨o,fK,gf,(lZ.2 eB (ih Qw)).trans b1,r⟩
  ·exact n4 cf λa o cR e=>(lZ.2 a (pX cR (.inl dT))).trans e
  ·obtain ⟨m0,l,fB,im,jT⟩:=dJ
   refine ⟨m0,l,fB,im,λj2 mh=>jT j2 λb aQ o e=>mh b aQ o ((lZ.2 b ?_).trans e)⟩;rintro rfl;simp at aQ;rcases aQ with h | h | h
   ·exact BC h
   ·exact BD h
   ·exact Qs h
  ·unfold AX at b3 ⊢
   refine H (c0 ..) (H b3 (H (List.take_add_one ..) (H L (H (c0 ..) ?_))));rfl
  ·intro bi yj ff a1 a2 rq vz QB QC
   exact cq bi yj ff a1 a2 (λb o x as aq e=>rq b o x as aq ((lZ.2 b aq).trans (rW.eO b o x as e))) (vz.trans rW.os) QB QC
end
end
end
section
open PySem PySem.W PySem.W.X PySem.Calls PyProof.Rows Builtin.Str
section
variable {w:aG}
theorem aeI {A:c9}{C cu a eB:aM}{R:B (y×y)}{gM:cp iJ}{s:aR}{n2:a6}{t:Tok}{E:ag->aR->Prop}{Q:ag->aR->Prop}(eT:A.handled=none)(ap:A.depth<recursionLimit)(iR:935<=C)(jl:935<=cu)(v2:eB≠C)(v3:eB≠cu)
  (io:∀ b∈[C,cu,a,eB],b<s.heap.objs.size)(jC:R.length<1000)(m8:qa w A.in1.in1 C cu a eB R gM 0 s)(Kf:JoinOk n2 (R.map λp=>U (g9 p.1))=true)
  (dh:∀ an u,KT.Holds an.heap 1 0 (fr w.params)->(∃ l:B iJ,an.gens=gM++l.toArray/\∀ aI∈l,aI= .finished)->(∀ b o,b≠C->b≠cu->s.heap.get? b=some o->an.heap.get? b=some o)->an.os=s.os->s.heap.objs.size<=an.heap.objs.size->Q (.str (Txt.join n2 (R.map λp=>U (g9 p.1))) u) an) :
  wpAny (model aL w) A (call (.builtin "str.join") [.str n2 t,.ref eB]) Q E s:=by
 have cM:s.TypeIs (.ref eB) "generator":=m8.tC.typeIs;refine wpAny_call (codeAny_call_builtin GH.plain F.entry_str_join (GH.check _ _ _ _ _ _ _ _ (F3 _ _ _) (F.args_str_join_2 _ _) ?_));rw [join_tree_other];refine bE (Gk cM ?_);show wpAny _ A.in1 ((q0 (.ref eB)).tryCatch _ >>= λJ=>collect J >>= λitems=>joinTail n2 items) _ _ s;refine bE (Gj (wpAny_pyIter_gen m8.tC ?_));generalize dT:s.heap.objs.size=S;have eP:C<S:=dT▸io C (by simp);have g8:cu<S:=dT▸io cu (by simp);have tQ:a<S:=dT▸io a (by simp);have KJ:eB<S:=dT▸io eB (by simp);have JW:935<=S:=dT▸Ay m8.it;refine bE ?_;unfold collect;refine bE (wpAny_runValue (h5 F.entry_proto_collect λaf6 g1 af8 IP Xv JO Xn=>?_));rw [rf F.plain_proto_collect _] at IP;subst IP;show wpAny _ A.in1.in1 (newList [] >>= λl=>again (.builtin "list.__iadd__" ⟨[l,.ref eB],[]⟩)) _ _ s;refine bE (sJ ?_);rw [dT];refine wpAny_pure (JO _ _ ⟨uE F.plain_list_iadd _,h5 F.entry_list_iadd λaf7 aga af9 IQ agn Xm agl=>?_⟩);rw [rf F.plain_list_iadd _] at IQ;subst IQ
 clear Xv JO Xn
 have C6:(s.heap.push {cls:=.type "list",data:=.seq ([] :B ag).toArray}).get? S=some {cls:=.type "list",data:=.seq ([] :B ag).toArray}:=dT▸nq _ rfl;have L:∀ b o,s.heap.get? b=some o->(s.heap.push {cls:=.type "list",data:=.seq ([] :B ag).toArray}).get? b=some o:=λb o e=>iv _ e;generalize s.heap.push {cls:=.type "list",data:=.seq ([] :B ag).toArray}=hm at C6 L ⊢;have J7:hm.IsGen eB gM.size:=m8.tC.keeps L;have C7:Shared.TypeIs {s with heap:=hm} (.ref eB) "generator":=let ⟨o,_,_,b1,aX,_⟩:=J7;⟨o,b1,aX⟩
 show wpAny _ A.in1.in1 (AN (.ref S) (.ref eB) (.ref S)) _ _ _;unfold AN;refine bE (Gk C7 ?_);have a5:AO (.ref S) (.ref eB)=false:=by have:S≠eB:=pe KJ;simpa [AO] using this
 have bt:(Value.type "generator"==Value.type "list")=false:=by decide
 have cd:(Value.type "generator"==Value.type "tuple")=false:=by decide
 simp only [a5,bt,cd,Bool.or_false,rg,qJ];refine bE (wpAny_pyIter_gen J7 ?_);refine bE (oa ?_);unfold PO;refine bE (PC C7 F.gen_no_len ?_);show wpAny _ A.in1.in1 (specialOf (Value.ref eB) (s1 "__length_hint__") >>= _) _ _ _;refine bE (PC C7 F.gen_no_hint ?_);refine wpAny_pure ?_;show wpAny _ A.in1.in1 (rule "list.extend.makes-room" >>= λ_=>PQ (.ref S) >>= λ_=>
  again (.builtin "list.extend.loop" ⟨[.ref S,.ref eB,.ref S],[]⟩)) _ _ _
 refine bE (wpAny_rule ?_);refine bE ?_;show wpAny _ A.in1.in1 (rb S (·.push .none) >>= λ_=>rb S (·.pop)) _ _ _;refine bE (ob C6 rfl ?_);have oD:=hc (e4 (·.push Value.none)) C6 rfl;refine ob (hz:=by seq_fits) oD rfl ?_;have Xy:=hc (e4 (·.pop)) oD rfl;have EM:∀ b o,b≠S->s.heap.get? b=some o->((hm.update S (e4 (·.push Value.none))).update S (e4 (·.pop))).get? b=some o:=
  λb o aQ e=>(PY _ _ (ih aQ)).trans ((PY _ _ (ih aQ)).trans (L b o e))
 have KI:∀ b∈[C,cu,a,eB],∀ o,s.heap.get? b=some o->((hm.update S (e4 (·.push Value.none))).update S (e4 (·.pop))).get? b=some o:=λb aQ o e=>EM b o (k0 (dT▸io b aQ)) e;have YD:qa w A.in1.in1 C cu a eB R gM 0 {s with heap:=(hm.update S (e4 (·.push Value.none))).update S (e4 (·.pop))}:=by
  refine fp λfx dk=>?_;obtain ⟨bD,cf,m0,l,fB,im,jT⟩:=m8;refine dk ?_;refine ⟨let ⟨o,fK,gf,b1,r⟩:=bD;⟨o,fK,gf,KI eB (by simp) o b1,r⟩,n4 cf λb o cR e=>EM b o (pX cR (.inl JW)) e,m0,l,fB,im,λj2 mh=>jT j2 λb aQ o e=>mh b aQ o (KI b ?_ o e)⟩;simp at aQ ⊢;rcases aQ with h | h | h
  ·exact .inl h
  ·exact .inr (.inl h)
  ·exact .inr (.inr (.inl h))
 refine wpAny_pure (Xm _ _ ⟨uE AV _,WT (A:=A.in1) (C:=C) (cu:=cu) (a:=a) (eB:=eB) (S:=S) (R:=R) (gM:=gM) eT ap iR jl v2 v3 (pe eP) (pe g8) (pe tQ) (pe KJ) JW jC R.length 0 _ [] _ (Nat.sub_zero _) (k1 _) YD Xy rfl ?_⟩);intro an a3 ff e2 nL rX oJ tF b3;show wpAny _ _ (load S >>= _) _ _ _;refine bE (Gg tF ?_);refine wpAny_pure ?_;have al:a3.map (·.1)=R.map λp=>U (g9 p.1):=b3;have Kg:tooLong ((a3.map (·.1)).toArray.foldl (· +·.length+n2.length) 0)=false:=by rw [al];unfold JoinOk at Kf;rwa [rh] at Kf
 have aI:Gives (joinTail n2 (strValues a3)) (joinMade n2 a3):=by
  have qx:=gives_joinTail n2 a3 Kg;cases a3 with
  | nil=>exact qx
  | cons p r=>cases r with
   | nil=>exact qx
   | cons q cz=>exact qx
 have i9:s.heap.objs.size<=an.heap.objs.size:=dT▸Ha (hC tF);refine aI aL w A (wants Q E) an (post_join a3 ⟨joinFit_length Kg,λu k=>?_⟩);show Q _ _;rw [al];exact dh {an with toks:=k} u e2 nL (λb o x as e=>rX b o x as (k0 (dT▸hC e)) (EM b o (k0 (dT▸hC e)) e)) oJ i9
end
end
section
open PySem PySem.W PySem.W.X PySem.Calls PyProof.Rows
section
variable {w:aG}
noncomputable def hn:B (y×y)->B y
 | []=>[]
 | p::r=>match r with
  | []=>g9 p.1
  | q::cz=>g9 p.1++32::hn (q::cz)
theorem zn (p q:y×y)(r:B (y×y)) :hn (p::q::r)=g9 p.1++32::hn (q::r):=by rw [hn]
theorem OR (a b:B y) :U a++U b=U (a++b):=by show (⟨⟨a⟩++⟨b⟩⟩ :a6)=⟨⟨a++b⟩⟩;simp
theorem ON:(" ":a6)=U [32]:=by kernel_rfl
theorem Zb:∀ (R:B (y×y)),Txt.join " " (R.map λp=>U (g9 p.1))=U (hn R)
 | R=>by
  show GA " " _ =_;refine H (StrLaws.glued_eq_join ..) ?_;have go:∀ R:B (y×y),Str.join " " (R.map λp=>U (g9 p.1))=U (hn R):=by
   intro R
   induction R with
   | nil=>rfl
   | cons p r bO=>
    induction r with
    | nil=>rfl
    | cons q r=>show U (g9 p.1)++" "++Str.join " " ((q::r).map λp=>U (g9 p.1))=_;rw [bO,zn,ON,OR,OR];simp
  exact go R
theorem Fw:∀ i,(g9 i).length<=10
 | 0 | 1 | 2 | 3 | 4 | 5 | 6 | 7 | 8 | 9 | 10=>by decide
 | n+11=>by show [39,121,92,39].length<=10;decide
theorem Zc {R:B (y×y)}(h:R.length<1000) :JoinOk " " (R.map λp=>U (g9 p.1))=true:=by
 unfold JoinOk;refine H (rh ..) ?_;unfold GB;refine md ?_;refine H (jr ..) ?_;have go:∀ (R:B (y×y)) (n:y),(R.map λp=>U (g9 p.1)).foldl (λ(a:y) (x:a6)=>a+x.length+(" ":a6).length) n<=n+11 * R.length:=by
  intro R
  induction R with
  | nil=>intro n;simp
  | cons p r bO=>
   intro n;refine H (hd ..) (H (GV ..) ?_);refine gh (bO _) ?_;have az:(U (g9 p.1)).length<=10:=Fw p.1;have aJ:(" ":a6).length=1:=by refine H (ON ..) ?_;rfl
   refine H aJ (H (ed ..) ?_);lia
 have:=go R 0;refine H (List.foldl_toArray ..) ?_;lia
noncomputable abbrev oK (P:bp)(M a:y) :ao:=eM [aj P [115,112,108,105,116,95,99,111,109,109,97,110,100] M (.ref a)] 1
noncomputable def ez:aK y->ao
 | none=>{cls:=.none,data:=.fields #[]}
 | some c=>{cls:=.none,data:=.fields #[rawInt kF.2.2.2.2.2.line,rawInt kF.2.2.2.2.2.col,.ref c]}
noncomputable def v0:ao->cp ag
 | ⟨_,_,.fields vs,_⟩=>vs
 | _=>#[]
noncomputable def uZ:aK y->cp ag
 | none=>#[]
 | some c=>#[rawInt kF.2.2.2.2.2.line,rawInt kF.2.2.2.2.2.col,.ref c]
theorem O6 {h:gg}{bh:aK y}(e2:KT.Holds h 1 0 (fr w.params))(jU:h.get? 894=some (ez bh)) :h.IsCode 898 894 (uZ bh)/\h.TableAt 898 894 (uZ bh)/\codeAmong kF.2.2.2.2.2 (uZ bh).toList=bh.map Value.ref:=by
 have aX:h.get? 898=some (nV w.params):=nS e2 (by kernel_rfl);have y2:h.get? 894=some {cls:=.none,data:=.fields (uZ bh)}:=by rcases bh with _ | _ <;> exact jU
 have d:(nV w.params).data= .fields (v0 (nV w.params)):=by kernel_rfl
 have Vq:(v0 (nV w.params))[11]? =some (.ref 894):=by kernel_rfl
 refine ⟨⟨nV w.params,v0 (nV w.params),U my,1469,3,0,true,318,0,{cls:=.none,data:=.fields (uZ bh)},aX,d,by kernel_rfl,by kernel_rfl,by kernel_rfl,by kernel_rfl,by kernel_rfl,y2,rfl,?_,by decide⟩,⟨⟨_,_,aX,by kernel_rfl,d,Vq⟩,y2⟩,?_⟩
 ·rcases bh with _ | _ <;> trivial
 ·induction bh with
  | none=>rfl
  | some c=>simp [uZ,codeAmong,rawInt]
theorem Wo {h:gg}{G a M:y}(e:h.get? G=some (oK w.params M a)) :h.Ns G (nsFind (rL (oK w.params M a))):=
 ⟨oK w.params M a,rL (oK w.params M a),1,e,rfl,OU (by kernel_rfl),λ_=>rfl⟩
theorem Wn {a M:y} :nsFind (rL (oK w.params M a)) "split_command" =some (.ref a):=by kernel_rfl
noncomputable def aby (l:B (a6×NameKind)) :bW:=l.all λas=>match as.2 with | .cell=>false | _=>true
theorem abz {l:B (a6×NameKind)}(h:aby l=true) :∀ as∈l,as.2≠.cell:=λas c3 e=>by have:=x1.mp h as c3;rw [e] at this;injection this
theorem Y9 {A:c9}{R:B (y×y)}{C cu a G:y}{gS:ag}(eT:A.handled=none)(ap:A.depth+60<=900)(eG:A.units+400<=9000)(bJ:∀ p∈R,p.1<12)
  (y4:C≠cu)(C8:a≠C)(C9:a≠cu)(iR:935<=C)(jl:935<=cu){s:aR}{m:a6->aK ag}(oG:s.heap.IsListIter cu a 0)(al:s.heap.IsList a ⟨R.map ad⟩)(bK:s.heap.Ns C m)(e2:KT.Holds s.heap 1 0 (fr w.params)) :
  Seg (model aL w) A (A0 C cu) (A1 w C cu a R) R.length s (.compStart qL 0 (.ref cu) .none (mo G C gS)) ((model aL w).den (.compStart qL 0 (.ref cu) .none (mo G C gS))) [] s:=by
 have K6:=Y8 (G:=G) (gS:=gS) eT ap eG bJ y4 C8 C9 iR jl R.length 0 s s m (Nat.sub_zero _) (k1 _) oG al bK (jK.refl _ _ _) e2;show Seg _ A _ _ _ s _ ((compStart qL 0 (.ref cu) .none (mo G C gS)).onRaise (tU (mo G C gS))) [] s;unfold compStart;refine H (Hj ..) ?_;show Seg _ A _ _ _ s _ ((ask >>= _).wrap _ _ _ _) [] s;refine o1 (wpAny_askSetting ?_);split
 ·exact seg_again rfl K6
 ·refine o1 (wpAny_rule ?_)
  show Seg _ A _ _ _ s _ ((standAt _ >>= _).wrap _ _ _ _) [] s;exact o1 (AF (o1 (afR oG (seg_again rfl K6))))
theorem WS {bo:rm}{af:c9}{s:aR}{bh:aK y}{G:y}{gf:a6}{Q:ag->aR->Prop}{E:ag->aR->Prop}(e2:KT.Holds s.heap 1 0 (fr w.params))(jU:s.heap.get? 894=some (ez bh))
  (dh:∀ c ct be,(∀ b o,b≠894->s.heap.get? b=some o->ct.get? b=some o)->ct.get? 894=some (ez (some c))->Q (.ref c) {s with heap:=ct,toks:=be}) :
  wpAny bo af (genexprCode (mq G) kF.2.2.2.2.2 gf kF.2.2.2.2.1) Q E s:=by
 refine fp λfx dk=>?_;obtain ⟨DK,Kq,Dh⟩:=O6 (w:=w) e2 jU;refine dk ?_
 induction bh with
 | none=>exact wpAny_genexprCodeX (c:=898) rfl DK Kq Dh λc ct be bu _ _ _ _ cM _=>dh c ct be (λb o aQ e=>bu b o aQ e) cM.2
 | some c=>refine fp λfx dk=>?_;obtain ⟨o,vs,agh,agQ,agi,mF,agC,agP,bL,fR,b1,ap,v6,aJ,m1,rR,y0,X8,Yd,YE,e6⟩:=DK;refine dk ?_;unfold genexprCode codeAt;refine H (show (mq G).code= .ref 898 from rfl) (H (dt (show ¬ ((Value.ref 898==Value.none)=true) from xV) ..) ?_);refine bE (wpAny_fieldsOf b1 ap ?_);refine H v6 ?_;refine bE (wpAny_fieldsOf X8 Yd ?_);refine H (Dh ..) ?_;exact wpAny_pure (dh c s.heap s.toks (λ_ _ _ e=>e) jU)
theorem Wz {body:B c5}{env:cE}{A:c9}{s:aR}{ac:cD->aR->Prop}
  (h:wpAny (model aL w) (A.under (.func body env)) (execs body env) (λf an=>∃ v,f= .ret v/\ac (.ok (.ret v)) an) (λ_ _=>dm) s) :codeAny (model aL w) A (.func body env) ac s:=by
 refine rC ?_;show wpOwn _ A _ (point >>= λ_=>((execs body env).onRaise (tU env)) >>= λf=>match f with | .ret v=>ret v | _=>ret .none) _ _ s;refine u9 (bE (wpAny_point (bE (wpAny_onRaise (Gh h ?_ λ_ _ e=>False.elim e)))));rintro f an ⟨v,rfl,bc⟩;exact wpAny_pure bc
theorem Ze {G a M e:y}{bh:aK y}{R:B (y×y)}{A:c9}{s:aR}{ac:cD->aR->Prop}(bJ:∀ p∈R,p.1<12)(al:R.length<1000)(aS:og w 3 A none s)
  (jm:s.heap.get? G=some (oK w.params M a))(bY:s.heap.get? a=some (I (R.map ad) e))(jU:s.heap.get? 894=some (ez bh))(QD:a≠894)
  (cq:∀ an u c,(∀ b o,b≠894->s.heap.get? b=some o->an.heap.get? b=some o)->an.heap.get? 894=some (ez (some c))->s.heap.objs.size<=an.heap.objs.size->an.os=s.os->(∃ l:B iJ,an.gens=s.gens++l.toArray/\∀ aI∈l,aI= .finished)->ac (.ok (.ret (.str (U (hn R)) u))) an) :
  codeAny (model aL w) A (.func (ew 35).2.1 (mq G)) ac s:=by
 have ap:=aS.depth;have eG:=aS.units;have hw:(AR (ew 35).2.1 (mq G)).weight<=1:=AD rfl;have lM:(AR (ew 35).2.1 (mq G)).cUnits<=3:=F7 rfl;have De:(A.under (.func (ew 35).2.1 (mq G))).depth=A.depth+(AR (ew 35).2.1 (mq G)).weight:=rfl;have DM:(A.under (.func (ew 35).2.1 (mq G))).units=A.units+(AR (ew 35).2.1 (mq G)).cUnits:=rfl;have Dl:(A.under (.func (ew 35).2.1 (mq G))).handled=none:=aS.handled;refine Wz ?_;generalize A.under (.func (ew 35).2.1 (mq G))=af at De DM Dl;rw [Y4];unfold execs;refine bE (wpAny_Return_some ?_);refine Call_method1 (by kernel_rfl) (by kernel_rfl) (by kernel_rfl) ?_;refine Constant_str ?_;refine ⟨"str",_,F.plainAttrs_str,GH,F.type_str_join,F3 _ _ _,(λ_ e=>nomatch e),?_⟩;refine callWith_builtin (by kernel_rfl) (evalArgs_plain (spliced_cons ?_));have FZ:KT.Holds s.heap 1 0 (fr w.params):=aS.it;refine fp λfx dk=>?_;obtain ⟨DK,Kq,Dh⟩:=O6 (w:=w) FZ jU;refine dk ?_;have Kk:af.depth<recursionLimit:=by show af.depth<1000;lia
 refine wpAny_GeneratorExp_make (cl:=[]) (by kernel_rfl) (by kernel_rfl) (abz (by kernel_rfl)) (by kernel_rfl) (by kernel_rfl) Kk ?_ (λx=>by kernel_rfl);refine wpAny_Name (afP (by kernel_rfl) (by kernel_rfl) (Wo (w:=w) jm) Wn ?_);refine wpAny_pyIter_list (tR bY) ?_;have y6:935<=s.heap.objs.size:=Ay FZ;have Q4:a<s.heap.objs.size:=hC bY;have dV:∀ b o,s.heap.get? b=some o->(s.heap.push {cls:=.type "list_iterator",data:=.fields #[.ref a,.int 0 0]}).get? b=some o:=λb o e=>iv _ e;have bD:(s.heap.push {cls:=.type "list_iterator",data:=.fields #[.ref a,.int 0 0]}).get? s.heap.objs.size=some {cls:=.type "list_iterator",data:=.fields #[.ref a,.int 0 0]}:=nq _ rfl;generalize jl:s.heap.objs.size=cu at bD y6 Q4 ⊢;generalize s.heap.push {cls:=.type "list_iterator",data:=.fields #[.ref a,.int 0 0]}=hm at dV bD ⊢;have cN:KT.Holds hm 1 0 (fr w.params):=n4 FZ λb o _ e=>dV b o e;refine ⟨zN cN,WS (w:=w) (bh:=bh) cN (dV _ _ jU) λc kD be fj cf=>?_⟩;have ar:KT.Holds kD 1 0 (fr w.params):=n4 cN λb o cR e=>fj b o (pX cR (.inr rfl)) e;refine wpAny_builtinsFor (m:=nsFind (rL (dz w.params))) (bm:=4) (Pb ar) (by kernel_rfl) (by decide) (o:=kH w.params) (nS ar (by kernel_rfl)) rfl rfl rfl ?_;intro nQ X5 Ko;have PZ:cu≠894:=by lia
 have JD:=fj cu _ PZ bD;have JE:kD.get? a=some (I (R.map ad) e):=fj a _ QD (dV _ _ bY);have P0:cu<kD.objs.size:=hC JD;have agd:a<kD.objs.size:=hC JE;have C2:935<=kD.objs.size:=Ay ar;have hN:∀ b o,kD.get? b=some o->nQ.get? b=some o:=λb o e=>Ko.extBut b o (k0 (hC e)) (iv _ e);have agN:nQ.objs.size=kD.objs.size+1:=by rw [Ko.1,ku]
 generalize iR:kD.objs.size=C at *;refine spliced_nil ?_;show wpAny _ af (call (.builtin "str.join") [_,.ref nQ.objs.size]) _ _ _;have WO:nQ.objs.size≠C:=by lia
 have WP:nQ.objs.size≠cu:=by lia
 generalize Di:nQ.objs.size=eB at *;have rV:∀ fK gf aI,(nQ.push {cls:=.type "generator",data:=.fields #[.int aI 0,fK,gf]}).get? eB=some {cls:=.type "generator",data:=.fields #[.int aI 0,fK,gf]}:=λfK gf aI=>Di▸nq _ rfl;have sg:∀ o' b o,nQ.get? b=some o->(nQ.push o').get? b=some o:=λo' b o e=>iv _ e;refine aeI (C:=C) (cu:=cu) (a:=a) (eB:=eB) (R:=R) (gM:=s.gens) Dl Kk C2 y6 WO WP ?_ al ⟨⟨_,_,_,rV _ _ _,rfl,rfl,rfl⟩,?_,?_⟩ (Zc al) ?_
 ·intro b aQ
  have py:b=C∨b=cu∨b=a∨b=eB:=by simpa using aQ
  show @LT.lt y _ b (nQ.push _).objs.size;rw [ku,Di];rcases py with h | h | h | h
  ·exact h▸(show @LT.lt y _ C (eB+1) by lia)
  ·exact h▸(show @LT.lt y _ cu (eB+1) by lia)
  ·exact h▸(show @LT.lt y _ a (eB+1) by lia)
  ·rw [h];exact pd _
 ·exact n4 ar λb o _ e=>sg _ b o (hN b o e)
 ·refine ⟨.fresh (.compStart qL 0 (.ref cu) .none (mo G C (.ref c))),[],?_,λ_ h=>(nomatch h),λj2 mh wo=>⟨rfl,?_⟩⟩
  ·show s.gens.push _ =s.gens.push _++#[]
   rw [Array.append_empty];rfl
  refine Y9 (A:=af.in1.in1.in1) (G:=G) Dl ?_ ?_ bJ ?_ ?_ ?_ C2 y6 (a:=a) (m:=λas=>if as=".0" then some (.ref cu) else none) ?_ ?_ ?_ wo
  ·show af.depth+60<=900
   lia
  ·show af.units+1+1+1+400<=9000
   lia
  ·lia
  ·lia
  ·lia
  ·exact ⟨_,mh cu (by simp) _ (sg _ _ _ (hN _ _ JD)),rfl,rfl⟩
  ·exact tR (mh a (by simp) _ (sg _ _ _ (hN _ _ JE)))
  ·exact (X5.push _).at' λo e=>mh C (by simp) o e
 ·intro an u agA nL rX oJ i9
  have all:∀ b o,b≠894->s.heap.get? b=some o->an.heap.get? b=some o:=λb o h e=>by have c7:@LT.lt y _ b cu:=jl▸hC e;exact rX b o (k0 (fh c7 P0)) (k0 c7) (sg _ _ _ (hN _ _ (fj b o h (dV b o e))))
  refine wpAny_pure ⟨_,rfl,?_⟩;refine H (Zb ..) ?_;refine cq an u c all (rX 894 _ (k0 (on (by decide) C2)) (k0 (on (by decide) y6)) (sg _ _ _ (hN _ _ cf))) ?_ oJ nL;refine H jl ?_;refine gh ?_ i9;show @LE.le y _ cu (nQ.push _).objs.size;refine H (ku ..) (H Di ?_);lia
theorem Zd {G a M e:y}{bh:aK y}{R:B (y×y)}(bJ:∀ p∈R,p.1<12)(al:R.length<1000) :
  b0 w 3 (.func (ew 35).2.1 (mq G)) none [(G,oK w.params M a),(a,I (R.map ad) e),(894,ez bh)] (λx=>.ok (.ret (.str (U (hn R)) (x 2)))) (λx=>[oK w.params M a,I (R.map ad) e,ez (some (x 3))]) (λ_=>[]) (λ_=>bZ):=λA s aS has bU=>by
 have jm:=has (G,oK w.params M a) (by simp);have bY:=has (a,I (R.map ad) e) (by simp);have jU:=has (894,ez bh) (by simp);have aw:=bU.e8;simp only [hd,G2,gy,dx,c4,or_false,not_or] at aw;refine Ze bJ al aS jm bY jU aw.2.1 ?_;intro an u c aV y2 i9 oJ b3;refine ⟨ca an.heap.objs.size an.toks [u,c],rfl,trivial,rfl,rfl,⟨rfl,?_,λ_ h=>((c4 h).elim),mO,λ_ h=>((c4 h).elim),⟨λb o e aQ=>aV b o (λh=>aQ (h▸by simp)) e,i9,oJ,b3⟩⟩⟩;intro p L;have L:p∈[(G,oK w.params M a),(a,I (R.map ad) e),(894,ez (some c))]:=L;simp only [dx,c4,or_false] at L;rcases L with rfl | rfl | rfl
 ·exact aV _ _ aw.1.2 jm
 ·exact aV _ _ aw.2.1 bY
 ·exact y2
noncomputable def Rv (w:aG)(G a M e:y)(bh:aK y)(R:B (y×y))(bJ:∀ p∈R,p.1<12)(al:R.length<1000) :cV w:=⟨3,_,none,_,_,_,_,_,Zd (w:=w) (G:=G) (a:=a) (M:=M) (e:=e) (bh:=bh) bJ al⟩
end
section
section
variable (w:aG)(a e:y)(bh:aK y)(R:B (y×y))(bJ:∀ p∈R,p.1<12)(al:R.length<1000)
noncomputable def Y5 (n t:y) :bb w:=
  .ax [0,3,3] [4] 1 (Rv w n a t e bh R bJ al) [2,0,1] λah=>.bd [] [] 0 (.ret (.ok (.ret (.str (U (hn R)) (ah 2))))) [(0,I (dF ad R) e),(1,ez (Option.some (ah 3)))]
theorem Y6:b2 w 4 none ([(a,I (R.map ad) e),(894,ez bh)]) (.call (.ref 899) ⟨[.ref a],[]⟩) (Y5 w a e bh R bJ al):=c6
end
section
variable {w:aG}
theorem Za {a e:y}{bh:aK y}{R:B (y×y)}(bJ:∀ p∈R,p.1<12)(al:R.length<1000) :
  b0 w 4 (.call (.ref 899) ⟨[.ref a],[]⟩) none [(a,I (R.map ad) e),(894,ez bh)] (λx=>.ok (.ret (.str (U (hn R)) (x 2)))) (λx=>[I (R.map ad) e,ez (some (x 3))]) (λ_=>[]) (λ_=>bZ):=by
 exact dy (Y6 w a e bh R bJ al) (λn t X c d=>ca c d [X 0 2,X 0 3]) λn t X c d=>⟨by kernel_rfl,rfl,trivial⟩
end
noncomputable def yq (w:aG)(a e:y)(bh:aK y)(R:B (y×y))(bJ:∀ p∈R,p.1<12)(al:R.length<1000) :cV w:=⟨4,_,none,_,_,_,_,_,Za (w:=w) (a:=a) (e:=e) (bh:=bh) bJ al⟩
noncomputable def Fu:y->bW
 | 4 | 5 | 6 | 7 | 8 | 10=>false
 | _=>true
noncomputable abbrev fK (i:y) :B y:=t3.getD i []
theorem FY {i:y}(aF:i<12)(r:B y) :ir (g9 i++32::r)=some (fK i,Fu i,false,r):=by rcases tY aF with rfl | rfl | rfl | rfl | rfl | rfl | rfl | rfl | rfl | rfl | rfl | rfl <;> kernel_rfl
theorem ae5 {i:y}(aF:i<12) :ir (g9 i)=some (fK i,Fu i,true,[]):=by rcases tY aF with rfl | rfl | rfl | rfl | rfl | rfl | rfl | rfl | rfl | rfl | rfl | rfl <;> kernel_rfl
theorem Aw {i:y}(aF:i<12) :(!(fK i).isEmpty||Fu i)=true:=by rcases tY aF with rfl | rfl | rfl | rfl | rfl | rfl | rfl | rfl | rfl | rfl | rfl | rfl <;> kernel_rfl
theorem zz (n:y)(r:B y) :iD (n+1) r=match ir r with
  | some (bC,q,gT,cz)=>bif !bC.isEmpty||q then (bif gT then (match cz with | []=>some [bC] | _=>none) else (iD n cz).map (bC::·)) else none
  | none=>none:=by rw [iD] <;> rfl
theorem KW:∀ (R:B (y×y)) (n:y) (T:B y) (aZ:B (B y)),(∀ p∈R,p.1<12)->R≠[]->iD n T=some aZ->iD (n+R.length) (hn R++32::T)=some (R.map (λp=>fK p.1)++aZ)
 | [],_,_,_,_,h,_=>absurd rfl h
 | [p],n,T,aZ,bJ,_,h=>by refine H (ig ..) (H (zz ..) ?_);show (match ir (g9 p.1++32::T) with | some (bC,q,gT,cz)=>_ | none=>_)=_;refine H (FY (bJ p (G5 p)) ..) ?_;simp only [Aw (bJ p (G5 p)),cond_true,cond_false,h];rfl
 | p::q::r,n,T,aZ,bJ,_,h=>by have L:=bJ p (cY ..);refine H (show n+(p::q::r).length=(n+(q::r).length)+1 from rfl) (H (zz ..) (H (zn ..) (H (f9 ..) (H (GQ ..) (H (FY L ..) ?_)))));simp only [Aw L,cond_true,cond_false];refine H (KW (q::r) n T aZ (λx bu=>bJ x (dG _ bu)) (λh=>nomatch h) h ..) ?_;rfl
theorem Eg:∀ (R:B (y×y)),(∀ p∈R,p.1<12)->R≠[]->iD R.length (hn R)=some (R.map λp=>fK p.1)
 | [],_,h=>absurd rfl h
 | [p],bJ,_=>by have L:=bJ p (G5 p);refine H (ig ..) (H (zz ..) ?_);show (match ir (g9 p.1) with | some (bC,q,gT,cz)=>_ | none=>_)=_;refine H (ae5 L ..) ?_;simp only [Aw L,cond_true];rfl
 | p::q::r,bJ,_=>by have L:=bJ p (cY ..);refine H (show (p::q::r).length=(q::r).length+1 from rfl) (H (zz ..) (H (zn ..) (H (FY L ..) ?_)));simp only [Aw L,cond_true,cond_false];refine H (Eg (q::r) (λx bu=>bJ x (dG _ bu)) (λh=>nomatch h) ..) ?_;rfl
theorem ZO:iD 1 [35]=some [[35]]:=by kernel_rfl
theorem ZP {R:B (y×y)}(bJ:∀ p∈R,p.1<12)(h:R≠[]) :iD (1+R.length) (hn R++[32,35])=some (R.map (λp=>fK p.1)++[[35]]):=KW R 1 [35] [[35]] bJ h ZO
theorem zo:∀ R:B (y×y),(hn R).length<=11 * R.length
 | []=>k1 _
 | [p]=>gh (Fw p.1) (show 10<=11 * 1 by decide)
 | p::q::r=>by have az:=Fw p.1;have aJ:=zo (q::r);refine H (zn ..) (H (ea ..) (H (ed ..) ?_));simp only [ed] at aJ ⊢;omega
end
section
section
variable {w:aG}
noncomputable def rF (x:y->y) :y:=match x 7 with
 | 0=>x 8+1
 | k+1=>k+1
theorem aeb {P:bp}{s M G lh k3:y}{r:dl}{k:y} :∀ c:y,mC (gC r c) (nh P s M G lh k3 r c) (k+1)=gC r (match c with | 0=>k+1 | n+1=>n+1)
 | 0=>rfl
 | n+1=>rfl
noncomputable def RH (w:aG)(z:cs)(ar au:y)(Z:y->ai)(aE:y->y)(aa:y->B (y×y))(K:y->y)(a5:cE)(jj:y)(cI:ao)(r:dl)(cJ:B y)(a7:g5 aa 60 [] (fH 0 12)=some (false,cJ))(cm:∀ i<12,∀ p∈aa i,p.1<12)(a9:eg ((a5,jj,cI)::r)) :hy w:=
 ec.mk ((ace (w:=w) (z:=z) (ar:=ar) (au:=au) (Z:=Z) (aE:=aE) (K:=K) (r:=(a5,jj,cI)::r) a7 cm a9).sB (o':=λx=>{cI with slots:=lX a5 r cI (x 4)}) (t:=λx=>mC r cI (x 4)) λx=>by exact H (xI ..) rfl)
noncomputable def RI (w:aG)(z:cs)(G M ar au:y)(Z:y->ai)(aE:y->y)(aa:y->B (y×y))(K:y->y)(a5:cE)(jj:y)(cI:ao)(r:dl)(cJ:B y)(a7:g5 aa 60 [] (fH 0 12)=some (true,cJ))(cm:∀ i<12,∀ p∈aa i,p.1<12)(a9:eg ((a5,jj,cI)::r)) :hy w:=
 ec.mk ((acf (w:=w) (z:=z) (G:=G) (M:=M) (ar:=ar) (au:=au) (Z:=Z) (aE:=aE) (K:=K) (r:=(a5,jj,cI)::r) a7 cm a9).sB (o':=λx=>{cI with slots:=lX a5 r cI (rF x)}) (t:=λx=>mC r cI (rF x)) λx=>by refine H (aeb ..) (df (xI ..) ?_);rfl)
end
noncomputable def vL:=sG (ew 42).2.1[2]?
noncomputable abbrev IA:a6:=U uv
noncomputable def Cg:=pu vL.2.1[0]?
noncomputable abbrev h6 (G bS:aM) :cE:={mT (ew 42) IA 924 923 G with cells:=[(U w8,bS)]}
theorem H6 {aC:B f8}{K bS:y}{G:aM}{bq:cp (aK ag)}{r:dl}(a9:eg r) :eg ((h6 G bS,G,{cls:=.type "frame",data:=.dict ⟨aC⟩ K,slots:=bq})::r):=by
 intro c aX;rcases dx.mp aX with rfl | aX
 ·exact ⟨⟨rfl,by kernel_rfl,by kernel_rfl⟩,rfl⟩
 ·exact a9 c aX
noncomputable abbrev rE (G bS J:aM) :cn:=.forLoop Cg.1 (.ref J) Cg.2.2.1 Cg.2.2.2 (h6 G bS)
noncomputable abbrev k6 (G bS:aM) :cn:=.whileLoop vL.1 vL.2.1 vL.2.2 (h6 G bS)
structure kV where
 (G bS s L bA bR M ab ae ak:y)
 h:ai
 dW:bW
noncomputable abbrev tm (P:bp)(D:kV)(bq:cp (aK ag)) :ao:={cls:=.type "frame",data:=.dict ⟨[aj P so D.M (.ref D.s),aj P qX D.ab (.int D.h D.bR),aj P uf D.ae (.ref D.bA),aj P w6 D.ak (.bool D.dW)]⟩ 4,slots:=bq}
noncomputable abbrev hi (P:bp)(D:kV)(bq:cp (aK ag))(aD:y)(x:a6)(am:y) :ao:={cls:=.type "frame",data:=.dict ⟨[aj P so D.M (.ref D.s),aj P qX D.ab (.int D.h D.bR),aj P uf D.ae (.ref D.bA),aj P w6 D.ak (.bool D.dW),aj P nY aD (.str x am)]⟩ 5,slots:=bq}
noncomputable abbrev cx (v:ag) :ao:={cls:=.type "cell",data:=.cell (some v)}
end
section
section
variable (w:aG)(D:kV)(bq:cp (aK ag))(J av k K i am aD dq:y)(as:a6)(l:B ag)(O:B (a6×y))(bc:l[k]? =some (ad (i,am)))(al:O.length<10000)
noncomputable def SJ (n t:y) :bb w:=
  .ax [3,3] [0,0,2] 0 (pl w J av 0 k l (.str (ay i) am) none bc) [2,3] λah=>.ax (aY 0x1012011) [2] 0 (HV w D.L K am (ay i) O al) [4] λaN=>.bd [] [3] 0 (.dr (rE D.G D.bS J)) [(0,hi w.params D bq (ah 1) (ay i) am),(1,cx (PySem.Value.ref D.L)),(2,b4 "tuple_iterator" av (k+1)),(3,ht "tuple" l 0),(4,dA (nN O (ay i,am)) (K+1))]
theorem SK:b2 w 4 none ([(D.G,tm w.params D bq),(D.bS,cx (.ref D.L)),(J,b4 "tuple_iterator" av k),(av,di l),(D.L,dA O K)]) (rE D.G D.bS J) (SJ w D bq J av k K i am l O bc al):=c6
noncomputable def SM (n t:y) :bb w:=
  .ax [3,3] [0,0,2] 0 (pl w J av 0 k l (.str (ay i) am) none bc) [2,3] λah=>.ax (aY 0x1012011) [2] 0 (HV w D.L K am (ay i) O al) [4] λaN=>.bd [] [3] 0 (.dr (rE D.G D.bS J)) [(0,hi w.params D bq aD (ay i) am),(1,cx (PySem.Value.ref D.L)),(2,b4 "tuple_iterator" av (k+1)),(3,ht "tuple" l 0),(4,dA (nN O (ay i,am)) (K+1))]
theorem SN:b2 w 4 none ([(D.G,hi w.params D bq aD as dq),(D.bS,cx (.ref D.L)),(J,b4 "tuple_iterator" av k),(av,di l),(D.L,dA O K)]) (rE D.G D.bS J) (SM w D bq J av k K i am aD l O bc al):=c6
section
variable (K:y)(as:a6)(l:B ag)(O:B (a6×y))(bc:l.length=k)
noncomputable def SO (n t:y) :bb w:=
  .ax [3,3] [0,0,2] 0 (vG w J av 0 k l bc) [2,3] λah=>.bd [6] [0] 0 (.ret (.ok .next)) [(0,hi w.params D bq aD as dq),(1,cx (PySem.Value.ref D.L)),(2,ee "tuple_iterator" k),(3,ht "tuple" l 0),(4,dA O K)]
theorem SP:b2 w 4 none ([(D.G,hi w.params D bq aD as dq),(D.bS,cx (.ref D.L)),(J,b4 "tuple_iterator" av k),(av,di l),(D.L,dA O K)]) (rE D.G D.bS J) (SO w D bq J av k aD dq K as l O bc):=c6
end
end
noncomputable def iW (O:B (a6×y))(R:B (y×y)) :B (a6×y):=R.foldl (λO p=>nN O (ay p.1,p.2)) O
noncomputable def jb (as:a6×y)(R:B (y×y)) :a6×y:=R.foldl (λ_ p=>(ay p.1,p.2)) as
theorem Dz (O:B (a6×y))(p:a6×y) :(nN O p).length=O.length+1:=by unfold nN lu;refine H (hD ..) (H ((OA _ _ _ _ _ _).1 ..) (H (ea ..) ?_));rfl
theorem Af:∀ (R:B (y×y)) (O:B (a6×y)),(iW O R).length=O.length+R.length
 | [],O=>rfl
 | p::R,O=>by show (iW (nN O (ay p.1,p.2)) R).length=_;refine H (Af R ..) (H (Dz ..) (H (ed ..) ?_));lia
section
variable {w:aG}
theorem Cd {D:kV}{bq:cp (aK ag)}{J av:y}{l:B ag}{aD:y} :∀ (R:B (y×y)) (k K dq:y) (as:a6) (O:B (a6×y)),l.drop k=R.map ad->k+R.length=l.length->O.length+R.length<10000->
  b0 w 4 (rE D.G D.bS J) none [(D.G,hi w.params D bq aD as dq),(D.bS,cx (.ref D.L)),(J,b4 "tuple_iterator" av k),(av,di l),(D.L,dA O K)] (λ_=>.ok .next)
   (λx=>[hi w.params D bq aD (jb (as,dq) R).1 (jb (as,dq) R).2,cx (.ref D.L),ee "tuple_iterator" l.length,di l,dA (iW O R) (x 2)]) (λ_=>[]) (λ_=>bZ)
 | [],k,K,dq,as,O,h,aV,al=>by
  have e:l.length=k:=by simpa using aV.symm
  refine mf (SP w D bq J av k aD dq K as l O e) ?_;intro n t ah _ a b;subst e;exact ⟨ca a b [K],rfl,rfl,rfl,by kernel_rfl,rfl,trivial⟩
 | p::R,k,K,dq,as,O,h,aV,al=>by
  rw [ed] at aV al;have bc:l[k]? =some (ad (p.1,p.2)):=by
   have:(l.drop k)[0]? =some (ad p):=by refine H h ?_;rfl
   rwa [o9] at this
  have ap:l.drop (k+1)=R.map ad:=by refine df (om ..) (H h ?_);rfl
  exact i7 (SN w D bq J av k K p.1 p.2 aD dq as l O bc (by lia)) (by intro n t X;kernel_rfl) λn t X=>Cd (J:=J) (av:=av) R (k+1) (K+1) p.2 (ay p.1) (nN O (ay p.1,p.2)) ap (by lia) (by refine H (Dz ..) ?_;lia)
theorem SL {D:kV}{bq:cp (aK ag)}{J av:y}{l:B ag}{p:y×y}{R:B (y×y)}{K:y}{O:B (a6×y)}(h:l=(p::R).map ad)(al:O.length+R.length+1<10000) :
  b0 w 4 (rE D.G D.bS J) none [(D.G,tm w.params D bq),(D.bS,cx (.ref D.L)),(J,b4 "tuple_iterator" av 0),(av,di l),(D.L,dA O K)] (λ_=>.ok .next)
   (λx=>[hi w.params D bq (x 3) (jb (ay p.1,p.2) R).1 (jb (ay p.1,p.2) R).2,cx (.ref D.L),ee "tuple_iterator" l.length,di l,dA (iW O (p::R)) (x 2)]) (λ_=>[]) (λ_=>bZ):=by
 exact i7 (SK w D bq J av 0 K p.1 p.2 l O (by refine H h ?_;rfl) (by lia)) (by intro n t X;kernel_rfl) λn t X=>(Cd (J:=J) (av:=av) (l:=l) (aD:=X 0 1) R 1 (K+1) p.2 (ay p.1) (nN O (ay p.1,p.2)) (by refine H h ?_;rfl) (by refine H h ?_;simp;lia) (by refine H (Dz ..) ?_;lia)).sw (λu=>[u 2,X 0 1]) (λ_=>rfl) λ_ _=>trivial
end
theorem b0.F9 {w:aG}{bj:y}{code:cn}{ap:aK ag}{pre:B (aM×ao)}{bB:(y->y)->cD}{cB hu:(y->y)->B ao}{bV:(y->y)->B (aM×ao)}{cond:(y->y)->Prop}(h:b0 w bj code ap pre bB cB bV cond)(e:cB=hu) :b0 w bj code ap pre bB hu bV cond:=e▸h
noncomputable def BW (w:aG)(D:kV)(bq:cp (aK ag))(J av aD K dq:y)(as:a6)(R:B (y×y))(O fb:B (a6×y))(al:O.length+R.length<10000)(e:iW O R=fb) :cV w:=
 ⟨4,_,none,_,_,λx=>[hi w.params D bq aD (jb (as,dq) R).1 (jb (as,dq) R).2,cx (.ref D.L),ee "tuple_iterator" (R.map ad).length,di (R.map ad),dA fb (x 2)],_,_,(Cd (w:=w) (D:=D) (bq:=bq) (J:=J) (av:=av) (l:=R.map ad) (aD:=aD) R 0 K dq as O rfl (by simp) al).F9 (by exact H e rfl)⟩
noncomputable def BV (w:aG)(D:kV)(bq:cp (aK ag))(J av K:y)(p:y×y)(R:B (y×y))(O fb:B (a6×y))(al:O.length+R.length+1<10000)(e:iW O (p::R)=fb) :cV w:=
 ⟨4,_,none,_,_,λx=>[hi w.params D bq (x 3) (jb (ay p.1,p.2) R).1 (jb (ay p.1,p.2) R).2,cx (.ref D.L),ee "tuple_iterator" ((p::R).map ad).length,di ((p::R).map ad),dA fb (x 2)],_,_,(SL (w:=w) (D:=D) (bq:=bq) (J:=J) (av:=av) (K:=K) (p:=p) (R:=R) (O:=O) rfl al).F9 (by exact H e rfl)⟩
section
variable (w:aG)(a b:ai)(cA bh:y)(h:decide (b<a)=true)
noncomputable def abg (n t:y) :bb w:=
  .ax NH ud 3 (lD w b a bh cA true none h) [] λah=>.bd (aY 0x1333522122223333) [0,0,0] 2 (.ret (.ok (.ret (.int b bh)))) []
theorem abh:b2 w 1 none ([]) (.builtin "min" ⟨[.int a cA,.int b bh],[]⟩) (abg w a b cA bh h):=by revert w;exact cX
section
variable (h:decide (b<a)=false)
noncomputable def abe (n t:y) :bb w:=
  .ax NH ud 3 (lD w b a bh cA false none h) [] λah=>.bd (aY 0x1333522122223) [0,0,0] 2 (.ret (.ok (.ret (.int a cA)))) []
theorem abf:b2 w 1 none ([]) (.builtin "min" ⟨[.int a cA,.int b bh],[]⟩) (abe w a b cA bh h):=by revert w;exact cX
end
end
theorem abd {w:aG}{a b c:ai}{cA bh:y}(h:(if b<a then b else a)=c) :b0 w 1 (.builtin "min" ⟨[.int a cA,.int b bh],[]⟩) none [] (λx=>.ok (.ret (.int c (x 2)))) (λ_=>[]) (λ_=>[]) (λ_=>bZ):=by
 by_cases aQ:b<a
 ·rw [d1 aQ] at h
  subst h;exact dy (abh w a b cA bh (k5 aQ)) (λn t X u v=>ca u v [bh]) λn t X u v=>⟨by kernel_rfl,rfl,trivial⟩
 ·rw [dt aQ] at h
  subst h;exact dy (abf w a b cA bh (md aQ)) (λn t X u v=>ca u v [cA]) λn t X u v=>⟨by kernel_rfl,rfl,trivial⟩
noncomputable def tb (w:aG)(a b c:ai)(cA bh:y)(h:(if b<a then b else a)=c) :cV w:=⟨1,_,none,_,_,_,_,_,abd (w:=w) (cA:=cA) (bh:=bh) h⟩
noncomputable abbrev gU (p:y×y) :a6×y:=(ay p.1,p.2)
noncomputable def ta (w:aG)(a K:y)(h:a6×y)(T dv:B (a6×y))(al:T.length<10000)(e:m6 T=dv) :cV w:=⟨4,_,none,[(a,dA (h::T) K)],λ_=>.ok (.ret (.str h.1 h.2)),λ_=>[dA dv (K+1)],λ_=>[],λ_=>bZ,(Ym (w:=w) (a:=a) (K:=K) (h:=h) al).F9 (by exact H e rfl)⟩
noncomputable def KQ:cT->cT×cT×cT×B cT×B ri×l4×c2
 | .ListComp e (⟨t,i,c,_⟩::r) s p=>(e,t,i,c,r,s,p)
 | _=>default
noncomputable abbrev KP (q:cT×cT×cT×B cT×B ri×l4×c2) :cT:=.ListComp q.1 (⟨q.2.1,q.2.2.1,q.2.2.2.1,0⟩::q.2.2.2.2.1) q.2.2.2.2.2.1 q.2.2.2.2.2.2
theorem yB {w:aG}{bj:y}{e:cT}{J:y}{a3:ag}{env:cE}{pre:B (aM×ao)}{bB:(y->y)->cD}{cB:(y->y)->B ao}{bV:(y->y)->B (aM×ao)}{cond:(y->y)->Prop}
  (he:e=KP (KQ e))(aF:∀ (A:c9) s (Q:ag->aR->Prop) E,dX s.heap pre->Q (.ref J) s->wpAny (model aL w) A (q0 (.ref J)) Q E s)
  (h:b0 w bj (.compLoop e 0 (.ref J) a3 env) none pre bB cB bV cond) :b0 w bj (.compStart e 0 (.ref J) a3 env) none pre bB cB bV cond:=λA s aS has bU=>by
 have aV:=h A s aS has bU;rw [he] at aV ⊢;exact Ss aV (aF _ _ _ _ has aV)
theorem Y3 {w:aG}{J:y}{k m:ai}{pre:B (aM×ao)}(aU:(J,({cls:=.type "range_iterator",data:=.fields ⟨[.int k 0,.int m 0,.int 1 0]⟩} :ao))∈pre)(A:c9)(s:aR)(Q:ag->aR->Prop)(E:ag->aR->Prop)(has:dX s.heap pre)(h:Q (.ref J) s) :wpAny (model aL w) A (q0 (.ref J)) Q E s:=
 wpAny_pyIter_rangeiter (has _ aU) h
noncomputable abbrev Al (k m:y) :ao:={cls:=.type "range_iterator",data:=.fields ⟨[.int k 0,.int m 0,.int 1 0]⟩}
noncomputable def VI (o:aK c5) :cT:=kP o 0
noncomputable def Ce:cT:=Hs (VI vL.2.1[1]?)
noncomputable def vH (s:l4) :l4:={s with names:=s.names.map λp=>match p.2 with | .free=>(p.1,.cell) | _=>p}
noncomputable abbrev Ix (G bS bf:aM) :cE:={scope:=vH (uR Ce),locals:=bf,globals:=3,cells:=[(U w8,bS)],qual:=IA++".<locals>.",func:=none,code:=.ref 923,frame:=some G,builtins:=0}
noncomputable abbrev Cf (G bS J a3 bf:aM) :cn:=.compLoop Ce 0 (.ref J) (.ref a3) (Ix G bS bf)
noncomputable abbrev S2 (G bS J a3 bf:aM) :cn:=.compStart Ce 0 (.ref J) (.ref a3) (Ix G bS bf)
end
section
section
variable (w:aG)(G bS L K J a3 bf:y)(bD cf dJ:y×y)(cw e1 qi dv:B (a6×y))(a5:m6 cw=dv)(eP:cw.length<10000)
noncomputable def SW (n t:y) :bb w:=
  .ax E3 [0,0,0,2] 0 (ta w L K (gU bD) cw dv eP a5) [1] λah=>.bd E9 [0,0,0,0,0] 2 (.ret (.ok .next)) [(0,cx (PySem.Value.ref L)),(1,dA dv (K+1)),(2,{cls:=(.type "range_iterator"),data:=(.fields ⟨[.int 1 0,.int 0 0,.int 1 0]⟩)}),(3,dA ([(ay bD.fst,bD.snd)]) 1),(4,{cls:=(.type "dict"),data:=(.dict ⟨[aj w.params [107] (t+1) (.int 0 t)]⟩ 1)})]
theorem SX:b2 w 5 none ([(bS,cx (.ref L)),(L,dA (gU bD::cw) K),(J,Al 0 1),(a3,I [] 0),(bf,iT)]) (Cf G bS J a3 bf) (SW w L K bD cw dv a5 eP):=c6
section
variable (a5:m6 cw=gU cf::e1)(eP:cw.length<10000)(bt:m6 e1=dv)(g8:e1.length<10000)
noncomputable def SY (n t:y) :bb w:=
  .ax E3 [0,0,0,2] 0 (ta w L K (gU bD) cw (gU cf::e1) eP a5) [1] λah=>.ax E1 f1 0 (ta w L (K+1) (gU cf) e1 dv g8 bt) [1] λaN=>.bd E9 [0,0,0,0,0] 2 (.ret (.ok .next)) [(0,cx (PySem.Value.ref L)),(1,dA dv (K+2)),(2,{cls:=(.type "range_iterator"),data:=(.fields ⟨[.int 2 0,.int 0 0,.int 1 0]⟩)}),(3,dA ([(ay bD.fst,bD.snd),(ay cf.fst,cf.snd)]) 2),(4,{cls:=(.type "dict"),data:=(.dict ⟨[aj w.params [107] (t+1) (.int 1 (ah 1))]⟩ 1)})]
theorem SZ:b2 w 5 none ([(bS,cx (.ref L)),(L,dA (gU bD::cw) K),(J,Al 0 2),(a3,I [] 0),(bf,iT)]) (Cf G bS J a3 bf) (SY w L K bD cf cw e1 dv a5 eP bt g8):=c6
end
section
variable (a5:m6 cw=gU cf::e1)(eP:cw.length<10000)(bt:m6 e1=gU dJ::qi)(g8:e1.length<10000)(cd:m6 qi=dv)(tQ:qi.length<10000)
noncomputable def S0 (n t:y) :bb w:=
  .ax E3 [0,0,0,2] 0 (ta w L K (gU bD) cw (gU cf::e1) eP a5) [1] λah=>.ax E1 f1 0 (ta w L (K+1) (gU cf) e1 (gU dJ::qi) g8 bt) [1] λaN=>.ax E1 f1 0 (ta w L (K+2) (gU dJ) qi dv tQ cd) [1] λbx=>.bd E9 [0,0,0,0,0] 2 (.ret (.ok .next)) [(0,cx (PySem.Value.ref L)),(1,dA dv (K+3)),(2,{cls:=(.type "range_iterator"),data:=(.fields ⟨[.int 3 0,.int 0 0,.int 1 0]⟩)}),(3,dA ([(ay bD.fst,bD.snd),(ay cf.fst,cf.snd),(ay dJ.fst,dJ.snd)]) 3),(4,{cls:=(.type "dict"),data:=(.dict ⟨[aj w.params [107] (t+1) (.int 2 (aN 1))]⟩ 1)})]
theorem S1:b2 w 5 none ([(bS,cx (.ref L)),(L,dA (gU bD::cw) K),(J,Al 0 3),(a3,I [] 0),(bf,iT)]) (Cf G bS J a3 bf) (S0 w L K bD cf dJ cw e1 qi dv a5 eP bt g8 cd tQ):=c6
end
end
noncomputable def nv:B (a6×y)->B (y×y)->B (a6×y)->Prop
 | O,[],dv=>O=dv
 | O,q::R,dv=>∃ T,O=gU q::T/\T.length<10000/\nv (m6 T) R dv
noncomputable abbrev Z8 (P:bp)(k:y)(i:ai)(t:y) :ao:={cls:=.type "dict",data:=.dict ⟨[aj P [107] k (.int i t)]⟩ 1}
section
variable {w:aG}
theorem Td {G bS L K J a3 bf m:y}{R:B (y×y)}{O dv:B (a6×y)}(aU:R.length=m)(bg:m=1∨m=2∨m=3)(h:nv O R dv) :
  b0 w 5 (S2 G bS J a3 bf) none [(bS,cx (.ref L)),(L,dA O K),(J,Al 0 m),(a3,I [] 0),(bf,iT)] (λ_=>.ok .next)
   (λx=>[cx (.ref L),dA dv (x 2),{cls:=.type "range_iterator",data:=.fields ⟨[.int (m:ai) 0,.int 0 0,.int 1 0]⟩},I (R.map ad) m,Z8 w.params (x 3) ((x 5:y) :ai) (x 4)]) (λ_=>[]) (λ_=>bZ):=by
 refine yB (by kernel_rfl) (Y3 (k:=0) (m:=m) (dG _ (dG _ (cY ..)))) ?_;rcases bg with rfl | rfl | rfl
 ·obtain ⟨bD,rfl⟩:=GZ.mp aU
  obtain ⟨cw,rfl,eP,h⟩:=h;exact dy (SX w G bS L K J a3 bf bD cw dv h eP) (λn t X a b=>ca a b [K+1,t+1,t,0]) λn t X a b=>⟨by kernel_rfl,rfl,trivial⟩
 ·obtain ⟨bD,cf,rfl⟩:=wA aU
  obtain ⟨cw,rfl,eP,e1,a5,g8,h⟩:=h;exact dy (SZ w G bS L K J a3 bf bD cf cw e1 dv a5 eP h g8) (λn t X a b=>ca a b [K+2,t+1,X 0 1,1]) λn t X a b=>⟨by kernel_rfl,rfl,trivial⟩
 ·obtain ⟨bD,cf,dJ,rfl⟩:=wB aU
  obtain ⟨cw,rfl,eP,e1,a5,g8,qi,bt,tQ,h⟩:=h;exact dy (S1 w G bS L K J a3 bf bD cf dJ cw e1 qi dv a5 eP bt g8 h tQ) (λn t X a b=>ca a b [K+3,t+1,X 1 1,2]) λn t X a b=>⟨by kernel_rfl,rfl,trivial⟩
end
noncomputable def s8 (w:aG)(G bS L K J a3 bf m:y)(R:B (y×y))(O dv:B (a6×y))(aU:R.length=m)(bg:m=1∨m=2∨m=3)(h:nv O R dv) :cV w:=⟨5,_,none,_,_,_,_,_,Td (w:=w) (G:=G) (bS:=bS) (L:=L) (K:=K) (J:=J) (a3:=a3) (bf:=bf) aU bg h⟩
end
section
noncomputable def PV (w:aG)(bj:y)(c:cn)(ap:aK ag)(aB:B aM)(bB:(y->y)->cD)(cB:(y->y)->B ao)(bV:(y->y)->B (aM×ao))(cond:(y->y)->Prop)(dw:gP)(du:B (aM×ao)) :Prop:=
 ∃ (zV bH:B (aM×ao)) (ni:(y->y)->cD) (hu:(y->y)->B ao) (nb:(y->y)->B (aM×ao)) (mQ:(y->y)->Prop),(dw,du,zV.map (·.1))=(gP.dr c,zV++bH,aB)/\b0 w bj c ap zV ni hu nb mQ/\∀ x,mQ x->∃ as,as 0=x 0/\as 1=x 1/\ni x=bB as/\hu x=cB as/\bH++nb x=bV as/\cond as
theorem rM {w:aG}{bj:y}{ap:aK ag}{code:cn}{pre:B (aM×ao)}{bB:(y->y)->cD}{cB:(y->y)->B ao}{bV:(y->y)->B (aM×ao)}{cond:(y->y)->Prop}{bI:y->y->bb w}
  (e:b2 w bj ap pre code bI)(left:∀ n t,mK (PV w bj code ap (pre.map (·.1)) bB cB bV cond) (bI n t) (pre.map (·.1)) pre.length n) :b0 w bj code ap pre bB cB bV cond:=λA s aS has bU=>by
 refine xD 100000 (bI s.heap.objs.size s.toks) aS has bU (e _ _ _) (left _ _) ?_;rintro dw du eo ⟨zV,bH,ni,hu,nb,mQ,he,bO,c3⟩ b1 aV;obtain ⟨a5,bt⟩:=je he;obtain ⟨cd,aU⟩:=je bt;subst a5;subst cd;show codeAny _ _ _ _ _;have aw:=b1.e8;rw [c0,fA] at aw;obtain ⟨iV,ce,iF⟩:=aw;have bO:=bO A eo (aS.moves aV bU.free) (λp L=>b1.has p (eS _ L)) (by rw [aU];exact bU);refine gR bO ?_;rintro r an ⟨x,rfl,aX,bG,az,a7⟩;obtain ⟨as,hx,afZ,ke,tu,aj,Vt⟩:=c3 x aX;have nJ:dX an.heap bH:=λp L=>a7.eD.eO p.1 p.2 (b1.has p (eJ _ L)) λaU=>iF _ aU _ (ep L) rfl;refine ⟨as,ke,Vt,by rw [hx,bG],by exact H afZ (H az rfl),?_⟩;refine df tu (df aj ?_);refine ⟨by refine df aU ?_;exact a7.len,by refine df aU ?_;exact a7.has,λp L=>?_,?_,λp L=>?_,aV.trans a7.eD λb aQ=>.inl (by refine df aU ?_;exact aQ)⟩
 ·rcases dU.mp L with L | L
  ·exact nJ p L
  ·exact a7.bV p L
 ·rw [c0,fA]
  refine ⟨ce,a7.e8,λa bY b aQ=>?_⟩;obtain ⟨p,L,rfl⟩:=fC.mp bY;obtain ⟨q,a4,rfl⟩:=fC.mp aQ;have az:=hC (b1.has p (eJ _ L));exact k0 (on az (a7.fresh q a4))
 ·rcases dU.mp L with L | L
  ·rcases b1.fresh p (eJ _ L) with h | h
   ·exact absurd rfl (iF p.1 (by refine H aU ?_;exact h) p.1 (ep L))
   ·exact h
  ·exact gh aV.size (a7.fresh p L)
theorem rN {w:aG}{bj:y}{ap:aK ag}{code:cn}{pre:B (aM×ao)}{bB:(y->y)->cD}{cB:(y->y)->B ao}{bV:(y->y)->B (aM×ao)}{cond:(y->y)->Prop}{bI:y->y->bb w}
  (e:b2 w bj ap pre code bI){kI bH:y->y->hR->B (aM×ao)}{ni:y->y->hR->(y->y)->cD}{hu:y->y->hR->(y->y)->B ao}{nb:y->y->hR->(y->y)->B (aM×ao)}{mQ:y->y->hR->(y->y)->Prop}
  (left:∀ n t X,(nW pre [] bI n t X,(kI n t X).map (·.1))=((.dr code,kI n t X++bH n t X),pre.map (·.1)))(bO:∀ n t X,b0 w bj code ap (kI n t X) (ni n t X) (hu n t X) (nb n t X) (mQ n t X))(Y:y->y->hR->(y->y)->y->y)
  (c3:∀ n t X x,mQ n t X x->Y n t X x 0=x 0/\Y n t X x 1=x 1/\ni n t X x=bB (Y n t X x)/\hu n t X x=cB (Y n t X x)/\bH n t X++nb n t X x=bV (Y n t X x)/\cond (Y n t X x)) :b0 w bj code ap pre bB cB bV cond:=
 rM e λn t=>pP _ _ _ _ _ λX=>by obtain ⟨az,aJ⟩:=je (left n t X);obtain ⟨a5,bt⟩:=je az;refine ⟨kI n t X,bH n t X,_,_,_,_,?_,bO n t X,λx bu=>⟨Y n t X x,c3 n t X x bu⟩⟩;exact H a5 (H bt (H aJ rfl))
section
variable (w:aG)(z:cs)(aP aO:ai)(ar au:y)(Z:y->ai)(aE:y->y)(aa:y->B (y×y))(dn:y->y)(D:kV)(bq:cp (aK ag))(aH cP K cR aD dq:y)(as:a6)(p:y×y)(R:B (y×y))(a8:B ag)(O fb dv:B (a6×y))(bJ:∀ x∈(p::R),x.1<12)(al:(p::R).length<1000)(eC:((p::R).map ad).length<1000)(aQ:(decide (aO<aP)||!((p::R).map ad).isEmpty)=true)(h9:O.length+R.length+1<10000)(bD cf dJ:y×y)(g7:iW O (p::R)=fb)(hJ:nv fb [bD] dv)(N:y)(ex:(fb.map c1).length=N)(hl:N<1000000)(aU:(if (N:ai)<D.h then (N:ai) else D.h)=1)(cM:a8.length<1000000)(h7:∀ v,(a8++[v]).length<1000000)(gq:0<1000000)(h1:1<1000000)(hI:ju aa [bD] (gH ⟨.ref aH,aP,ar,aO,au,Z,aE,aa,dn⟩ (p::R) 0).Z [])
noncomputable def T8 (n t:y) :bb w:=
  .ax mx [0,2] 0 (rv w z ⟨.ref aH,aP,ar,aO,au,Z,aE,aa,dn⟩ aH cP ((p::R).map ad) true rfl eC aQ) [5,6,4] λah=>.ax mx [2] 0 (tc w z ⟨.ref aH,aP,ar,aO,au,Z,aE,aa,dn⟩ aH cP (p::R) rfl bJ al) nf λaN=>.ax uk [0,0,2] 1 (BV w ({G:=D.G,bS:=D.bS,s:=z.s,L:=D.L,bA:=D.bA,bR:=D.bR,M:=D.M,ab:=D.ab,ae:=D.ae,ak:=D.ak,h:=D.h,dW:=D.dW}) bq (aN 0) (aN 3) K p R O fb h9 g7) ul λbx=>.ax uc [0,2] 0 (kz w D.L (bx 2) (dF c1 fb) N none ex hl) [3] λcj=>.ax [] [0,2] 0 (tb w D.h (↑N) 1 D.bR (cj 2) aU) [] λcg=>.ax ux sj 4 (s8 w D.G D.bS D.L (bx 2) (cg 0+1) (cg 0+2) (cg 0+3) 1 ([bD]) fb dv rfl (Or.inl rfl) hJ) ui λfc=>.ax uq [0,2] 0 (hS w D.bA cR a8 (a8++[PySem.Value.ref (cg 0+2)]) (.ref (cg 0+2)) none cM rfl) [2] λfS=>.ax uz kL 1 (ql w D.bA (cR+1) (fS 1+2) (a8++[PySem.Value.ref (cg 0+2)]) a8 (.ref (cg 0+2)) none (h7 (PySem.Value.ref (cg 0+2))) rfl) [2] λjH=>.ax [37] [0,2] 1 (pk w (jH 0) (cg 0+2) 0 1 [] [.str (ay bD.fst) bD.snd] [.str (ay bD.fst) bD.snd] none gq h1 rfl) [39,36] λoc=>.ax ur [0,2] 0 (s9 w z (gH {dD:=PySem.Value.ref aH,aP:=aP,ar:=ar,aO:=aO,au:=au,Z:=Z,aE:=aE,aa:=aa,K:=dn}
 (p::R) (aN 4)) aH (aN 2) ([bD]) ([]) rfl (Or.inl rfl) hI) nf λiu=>.bd [] [3] 0 (.dr (k6 D.G D.bS)) (d4 um ([hi w.params {D with s:=z.s} bq (bx 3) (jb (ay p.1,p.2) R).1 (jb (ay p.1,p.2) R).2,cx (.ref D.L),I (a8++[.ref (cg 0+2)]) (cR+1),dA dv (fc 2),I ((gF (gH ⟨.ref aH,aP,ar,aO,au,Z,aE,aa,dn⟩ (p::R) (aN 4)).aa [bD] (gH ⟨.ref aH,aP,ar,aO,au,Z,aE,aa,dn⟩ (p::R) (aN 4)).Z []).2.map ad) (iu 2)]++((bX w.params z (rG (gH ⟨.ref aH,aP,ar,aO,au,Z,aE,aa,dn⟩ (p::R) (aN 4)) [bD] [] (iu 3) λk=>iu (k+4))).map (·.2)++[I ([bD].map ad) 1])))
theorem T9:b2 w 7 none ([(D.G,tm w.params {D with s:=z.s} bq),(D.bS,cx (.ref D.L)),(D.bA,I a8 cR),(D.L,dA O K),(aH,I ((p::R).map ad) cP)]++bX w.params z ⟨.ref aH,aP,ar,aO,au,Z,aE,aa,dn⟩) (k6 D.G D.bS) (T8 w z aP aO ar au Z aE aa dn D bq aH cP K cR p R a8 O fb dv bJ al eC aQ h9 bD g7 hJ N ex hl aU cM h7 gq h1 hI):=by revert w;exact cX
section
variable (hJ:nv fb [bD,cf] dv)(N:y)(ex:(fb.map c1).length=N)(hl:N<1000000)(aU:(if (N:ai)<D.h then (N:ai) else D.h)=2)(cM:a8.length<1000000)(h7:∀ v,(a8++[v]).length<1000000)(gq:0<1000000)(h1:2<1000000)(hI:ju aa [bD,cf] (gH ⟨.ref aH,aP,ar,aO,au,Z,aE,aa,dn⟩ (p::R) 0).Z [])
noncomputable def Ua (n t:y) :bb w:=
  .ax mx [0,2] 0 (rv w z ⟨.ref aH,aP,ar,aO,au,Z,aE,aa,dn⟩ aH cP ((p::R).map ad) true rfl eC aQ) [5,6,4] λah=>.ax mx [2] 0 (tc w z ⟨.ref aH,aP,ar,aO,au,Z,aE,aa,dn⟩ aH cP (p::R) rfl bJ al) nf λaN=>.ax uk [0,0,2] 1 (BV w ({G:=D.G,bS:=D.bS,s:=z.s,L:=D.L,bA:=D.bA,bR:=D.bR,M:=D.M,ab:=D.ab,ae:=D.ae,ak:=D.ak,h:=D.h,dW:=D.dW}) bq (aN 0) (aN 3) K p R O fb h9 g7) ul λbx=>.ax uc [0,2] 0 (kz w D.L (bx 2) (dF c1 fb) N none ex hl) [3] λcj=>.ax [] [0,2] 0 (tb w D.h (↑N) 2 D.bR (cj 2) aU) [] λcg=>.ax ux sj 4 (s8 w D.G D.bS D.L (bx 2) (cg 0+1) (cg 0+2) (cg 0+3) 2 ([bD,cf]) fb dv rfl (Or.inr (Or.inl rfl)) hJ) ui λfc=>.ax uq [0,2] 0 (hS w D.bA cR a8 (a8++[PySem.Value.ref (cg 0+2)]) (.ref (cg 0+2)) none cM rfl) [2] λfS=>.ax uz kL 1 (ql w D.bA (cR+1) (fS 1+2) (a8++[PySem.Value.ref (cg 0+2)]) a8 (.ref (cg 0+2)) none (h7 (PySem.Value.ref (cg 0+2))) rfl) [2] λjH=>.ax [37] [0,2] 1 (pk w (jH 0) (cg 0+2) 0 2 [] [.str (ay bD.fst) bD.snd,.str (ay cf.fst) cf.snd] [.str (ay bD.fst) bD.snd,.str (ay cf.fst) cf.snd] none gq h1 rfl) [39,36] λoc=>.ax ur [0,2] 0 (s9 w z (gH {dD:=PySem.Value.ref aH,aP:=aP,ar:=ar,aO:=aO,au:=au,Z:=Z,aE:=aE,aa:=aa,K:=dn}
 (p::R) (aN 4)) aH (aN 2) ([bD,cf]) ([]) rfl (Or.inr (Or.inl rfl)) hI) nf λiu=>.bd [] [3] 0 (.dr (k6 D.G D.bS)) (d4 um ([hi w.params {D with s:=z.s} bq (bx 3) (jb (ay p.1,p.2) R).1 (jb (ay p.1,p.2) R).2,cx (.ref D.L),I (a8++[.ref (cg 0+2)]) (cR+1),dA dv (fc 2),I ((gF (gH ⟨.ref aH,aP,ar,aO,au,Z,aE,aa,dn⟩ (p::R) (aN 4)).aa [bD,cf] (gH ⟨.ref aH,aP,ar,aO,au,Z,aE,aa,dn⟩ (p::R) (aN 4)).Z []).2.map ad) (iu 2)]++((bX w.params z (rG (gH ⟨.ref aH,aP,ar,aO,au,Z,aE,aa,dn⟩ (p::R) (aN 4)) [bD,cf] [] (iu 3) λk=>iu (k+4))).map (·.2)++[I ([bD,cf].map ad) 2])))
theorem Ub:b2 w 7 none ([(D.G,tm w.params {D with s:=z.s} bq),(D.bS,cx (.ref D.L)),(D.bA,I a8 cR),(D.L,dA O K),(aH,I ((p::R).map ad) cP)]++bX w.params z ⟨.ref aH,aP,ar,aO,au,Z,aE,aa,dn⟩) (k6 D.G D.bS) (Ua w z aP aO ar au Z aE aa dn D bq aH cP K cR p R a8 O fb dv bJ al eC aQ h9 bD cf g7 hJ N ex hl aU cM h7 gq h1 hI):=by revert w;exact cX
end
section
variable (hJ:nv fb [bD,cf,dJ] dv)(N:y)(ex:(fb.map c1).length=N)(hl:N<1000000)(aU:(if (N:ai)<D.h then (N:ai) else D.h)=3)(cM:a8.length<1000000)(h7:∀ v,(a8++[v]).length<1000000)(gq:0<1000000)(h1:3<1000000)(hI:ju aa [bD,cf,dJ] (gH ⟨.ref aH,aP,ar,aO,au,Z,aE,aa,dn⟩ (p::R) 0).Z [])
noncomputable def Uc (n t:y) :bb w:=
  .ax mx [0,2] 0 (rv w z ⟨.ref aH,aP,ar,aO,au,Z,aE,aa,dn⟩ aH cP ((p::R).map ad) true rfl eC aQ) [5,6,4] λah=>.ax mx [2] 0 (tc w z ⟨.ref aH,aP,ar,aO,au,Z,aE,aa,dn⟩ aH cP (p::R) rfl bJ al) nf λaN=>.ax uk [0,0,2] 1 (BV w ({G:=D.G,bS:=D.bS,s:=z.s,L:=D.L,bA:=D.bA,bR:=D.bR,M:=D.M,ab:=D.ab,ae:=D.ae,ak:=D.ak,h:=D.h,dW:=D.dW}) bq (aN 0) (aN 3) K p R O fb h9 g7) ul λbx=>.ax uc [0,2] 0 (kz w D.L (bx 2) (dF c1 fb) N none ex hl) [3] λcj=>.ax [] [0,2] 0 (tb w D.h (↑N) 3 D.bR (cj 2) aU) [] λcg=>.ax ux sj 4 (s8 w D.G D.bS D.L (bx 2) (cg 0+1) (cg 0+2) (cg 0+3) 3 ([bD,cf,dJ]) fb dv rfl (Or.inr (Or.inr rfl)) hJ) ui λfc=>.ax uq [0,2] 0 (hS w D.bA cR a8 (a8++[PySem.Value.ref (cg 0+2)]) (.ref (cg 0+2)) none cM rfl) [2] λfS=>.ax uz kL 1 (ql w D.bA (cR+1) (fS 1+2) (a8++[PySem.Value.ref (cg 0+2)]) a8 (.ref (cg 0+2)) none (h7 (PySem.Value.ref (cg 0+2))) rfl) [2] λjH=>.ax [37] [0,2] 1 (pk w (jH 0) (cg 0+2) 0 3 [] [.str (ay bD.fst) bD.snd,.str (ay cf.fst) cf.snd,.str (ay dJ.fst) dJ.snd] [.str (ay bD.fst) bD.snd,.str (ay cf.fst) cf.snd,.str (ay dJ.fst) dJ.snd] none gq h1 rfl) [39,36] λoc=>.ax ur [0,2] 0 (s9 w z (gH {dD:=PySem.Value.ref aH,aP:=aP,ar:=ar,aO:=aO,au:=au,Z:=Z,aE:=aE,aa:=aa,K:=dn}
 (p::R) (aN 4)) aH (aN 2) ([bD,cf,dJ]) ([]) rfl (Or.inr (Or.inr rfl)) hI) nf λiu=>.bd [] [3] 0 (.dr (k6 D.G D.bS)) (d4 um ([hi w.params {D with s:=z.s} bq (bx 3) (jb (ay p.1,p.2) R).1 (jb (ay p.1,p.2) R).2,cx (.ref D.L),I (a8++[.ref (cg 0+2)]) (cR+1),dA dv (fc 2),I ((gF (gH ⟨.ref aH,aP,ar,aO,au,Z,aE,aa,dn⟩ (p::R) (aN 4)).aa [bD,cf,dJ] (gH ⟨.ref aH,aP,ar,aO,au,Z,aE,aa,dn⟩ (p::R) (aN 4)).Z []).2.map ad) (iu 2)]++((bX w.params z (rG (gH ⟨.ref aH,aP,ar,aO,au,Z,aE,aa,dn⟩ (p::R) (aN 4)) [bD,cf,dJ] [] (iu 3) λk=>iu (k+4))).map (·.2)++[I ([bD,cf,dJ].map ad) 3])))
theorem Ud:b2 w 7 none ([(D.G,tm w.params {D with s:=z.s} bq),(D.bS,cx (.ref D.L)),(D.bA,I a8 cR),(D.L,dA O K),(aH,I ((p::R).map ad) cP)]++bX w.params z ⟨.ref aH,aP,ar,aO,au,Z,aE,aa,dn⟩) (k6 D.G D.bS) (Uc w z aP aO ar au Z aE aa dn D bq aH cP K cR p R a8 O fb dv bJ al eC aQ h9 bD cf dJ g7 hJ N ex hl aU cM h7 gq h1 hI):=by revert w;exact cX
end
section
variable (bJ:∀ x∈R,x.1<12)(al:R.length<1000)(eC:(R.map ad).length<1000)(aQ:(decide (aO<aP)||!(R.map ad).isEmpty)=true)(h9:O.length+R.length<10000)(bD:y×y)(g7:iW O R=fb)(hJ:nv fb [bD] dv)(N:y)(ex:(fb.map c1).length=N)(hl:N<1000000)(aU:(if (N:ai)<D.h then (N:ai) else D.h)=1)(cM:a8.length<1000000)(h7:∀ v,(a8++[v]).length<1000000)(gq:0<1000000)(h1:1<1000000)(hI:ju aa [bD] (gH ⟨.ref aH,aP,ar,aO,au,Z,aE,aa,dn⟩ R 0).Z [])
noncomputable def Ue (n t:y) :bb w:=
  .ax mx [0,2] 0 (rv w z ⟨.ref aH,aP,ar,aO,au,Z,aE,aa,dn⟩ aH cP (R.map ad) true rfl eC aQ) [5,6,4] λah=>.ax mx [2] 0 (tc w z ⟨.ref aH,aP,ar,aO,au,Z,aE,aa,dn⟩ aH cP R rfl bJ al) nf λaN=>.ax uk [0,0,2] 1 (BW w ({G:=D.G,bS:=D.bS,s:=z.s,L:=D.L,bA:=D.bA,bR:=D.bR,M:=D.M,ab:=D.ab,ae:=D.ae,ak:=D.ak,h:=D.h,dW:=D.dW}) bq (aN 0) (aN 3) aD K dq as R O fb h9 g7) ul λbx=>.ax uc [0,2] 0 (kz w D.L (bx 2) (dF c1 fb) N none ex hl) [3] λcj=>.ax [] [0,2] 0 (tb w D.h (↑N) 1 D.bR (cj 2) aU) [] λcg=>.ax ux sj 4 (s8 w D.G D.bS D.L (bx 2) (cg 0+1) (cg 0+2) (cg 0+3) 1 ([bD]) fb dv rfl (Or.inl rfl) hJ) ui λfc=>.ax uq [0,2] 0 (hS w D.bA cR a8 (a8++[PySem.Value.ref (cg 0+2)]) (.ref (cg 0+2)) none cM rfl) [2] λfS=>.ax uz kL 1 (ql w D.bA (cR+1) (fS 1+2) (a8++[PySem.Value.ref (cg 0+2)]) a8 (.ref (cg 0+2)) none (h7 (PySem.Value.ref (cg 0+2))) rfl) [2] λjH=>.ax [37] [0,2] 1 (pk w (jH 0) (cg 0+2) 0 1 [] [.str (ay bD.fst) bD.snd] [.str (ay bD.fst) bD.snd] none gq h1 rfl) [39,36] λoc=>.ax ur [0,2] 0 (s9 w z (gH {dD:=PySem.Value.ref aH,aP:=aP,ar:=ar,aO:=aO,au:=au,Z:=Z,aE:=aE,aa:=aa,K:=dn}
 R (aN 4)) aH (aN 2) ([bD]) ([]) rfl (Or.inl rfl) hI) nf λiu=>.bd [] [3] 0 (.dr (k6 D.G D.bS)) (d4 um ([hi w.params {D with s:=z.s} bq aD (jb (as,dq) R).1 (jb (as,dq) R).2,cx (.ref D.L),I (a8++[.ref (cg 0+2)]) (cR+1),dA dv (fc 2),I ((gF (gH ⟨.ref aH,aP,ar,aO,au,Z,aE,aa,dn⟩ R (aN 4)).aa [bD] (gH ⟨.ref aH,aP,ar,aO,au,Z,aE,aa,dn⟩ R (aN 4)).Z []).2.map ad) (iu 2)]++((bX w.params z (rG (gH ⟨.ref aH,aP,ar,aO,au,Z,aE,aa,dn⟩ R (aN 4)) [bD] [] (iu 3) λk=>iu (k+4))).map (·.2)++[I ([bD].map ad) 1])))
theorem Uf:b2 w 7 none ([(D.G,hi w.params {D with s:=z.s} bq aD as dq),(D.bS,cx (.ref D.L)),(D.bA,I a8 cR),(D.L,dA O K),(aH,I (R.map ad) cP)]++bX w.params z ⟨.ref aH,aP,ar,aO,au,Z,aE,aa,dn⟩) (k6 D.G D.bS) (Ue w z aP aO ar au Z aE aa dn D bq aH cP K cR aD dq as R a8 O fb dv bJ al eC aQ h9 bD g7 hJ N ex hl aU cM h7 gq h1 hI):=by revert w;exact cX
end
section
variable (bJ:∀ x∈R,x.1<12)(al:R.length<1000)(eC:(R.map ad).length<1000)(aQ:(decide (aO<aP)||!(R.map ad).isEmpty)=true)(h9:O.length+R.length<10000)(bD cf:y×y)(g7:iW O R=fb)(hJ:nv fb [bD,cf] dv)(N:y)(ex:(fb.map c1).length=N)(hl:N<1000000)(aU:(if (N:ai)<D.h then (N:ai) else D.h)=2)(cM:a8.length<1000000)(h7:∀ v,(a8++[v]).length<1000000)(gq:0<1000000)(h1:2<1000000)(hI:ju aa [bD,cf] (gH ⟨.ref aH,aP,ar,aO,au,Z,aE,aa,dn⟩ R 0).Z [])
noncomputable def Ug (n t:y) :bb w:=
  .ax mx [0,2] 0 (rv w z ⟨.ref aH,aP,ar,aO,au,Z,aE,aa,dn⟩ aH cP (R.map ad) true rfl eC aQ) [5,6,4] λah=>.ax mx [2] 0 (tc w z ⟨.ref aH,aP,ar,aO,au,Z,aE,aa,dn⟩ aH cP R rfl bJ al) nf λaN=>.ax uk [0,0,2] 1 (BW w ({G:=D.G,bS:=D.bS,s:=z.s,L:=D.L,bA:=D.bA,bR:=D.bR,M:=D.M,ab:=D.ab,ae:=D.ae,ak:=D.ak,h:=D.h,dW:=D.dW}) bq (aN 0) (aN 3) aD K dq as R O fb h9 g7) ul λbx=>.ax uc [0,2] 0 (kz w D.L (bx 2) (dF c1 fb) N none ex hl) [3] λcj=>.ax [] [0,2] 0 (tb w D.h (↑N) 2 D.bR (cj 2) aU) [] λcg=>.ax ux sj 4 (s8 w D.G D.bS D.L (bx 2) (cg 0+1) (cg 0+2) (cg 0+3) 2 ([bD,cf]) fb dv rfl (Or.inr (Or.inl rfl)) hJ) ui λfc=>.ax uq [0,2] 0 (hS w D.bA cR a8 (a8++[PySem.Value.ref (cg 0+2)]) (.ref (cg 0+2)) none cM rfl) [2] λfS=>.ax uz kL 1 (ql w D.bA (cR+1) (fS 1+2) (a8++[PySem.Value.ref (cg 0+2)]) a8 (.ref (cg 0+2)) none (h7 (PySem.Value.ref (cg 0+2))) rfl) [2] λjH=>.ax [37] [0,2] 1 (pk w (jH 0) (cg 0+2) 0 2 [] [.str (ay bD.fst) bD.snd,.str (ay cf.fst) cf.snd] [.str (ay bD.fst) bD.snd,.str (ay cf.fst) cf.snd] none gq h1 rfl) [39,36] λoc=>.ax ur [0,2] 0 (s9 w z (gH {dD:=PySem.Value.ref aH,aP:=aP,ar:=ar,aO:=aO,au:=au,Z:=Z,aE:=aE,aa:=aa,K:=dn}
 R (aN 4)) aH (aN 2) ([bD,cf]) ([]) rfl (Or.inr (Or.inl rfl)) hI) nf λiu=>.bd [] [3] 0 (.dr (k6 D.G D.bS)) (d4 um ([hi w.params {D with s:=z.s} bq aD (jb (as,dq) R).1 (jb (as,dq) R).2,cx (.ref D.L),I (a8++[.ref (cg 0+2)]) (cR+1),dA dv (fc 2),I ((gF (gH ⟨.ref aH,aP,ar,aO,au,Z,aE,aa,dn⟩ R (aN 4)).aa [bD,cf] (gH ⟨.ref aH,aP,ar,aO,au,Z,aE,aa,dn⟩ R (aN 4)).Z []).2.map ad) (iu 2)]++((bX w.params z (rG (gH ⟨.ref aH,aP,ar,aO,au,Z,aE,aa,dn⟩ R (aN 4)) [bD,cf] [] (iu 3) λk=>iu (k+4))).map (·.2)++[I ([bD,cf].map ad) 2])))
theorem Uh:b2 w 7 none ([(D.G,hi w.params {D with s:=z.s} bq aD as dq),(D.bS,cx (.ref D.L)),(D.bA,I a8 cR),(D.L,dA O K),(aH,I (R.map ad) cP)]++bX w.params z ⟨.ref aH,aP,ar,aO,au,Z,aE,aa,dn⟩) (k6 D.G D.bS) (Ug w z aP aO ar au Z aE aa dn D bq aH cP K cR aD dq as R a8 O fb dv bJ al eC aQ h9 bD cf g7 hJ N ex hl aU cM h7 gq h1 hI):=by revert w;exact cX
end
section
variable (bJ:∀ x∈R,x.1<12)(al:R.length<1000)(eC:(R.map ad).length<1000)(aQ:(decide (aO<aP)||!(R.map ad).isEmpty)=true)(h9:O.length+R.length<10000)(bD cf dJ:y×y)(g7:iW O R=fb)(hJ:nv fb [bD,cf,dJ] dv)(N:y)(ex:(fb.map c1).length=N)(hl:N<1000000)(aU:(if (N:ai)<D.h then (N:ai) else D.h)=3)(cM:a8.length<1000000)(h7:∀ v,(a8++[v]).length<1000000)(gq:0<1000000)(h1:3<1000000)(hI:ju aa [bD,cf,dJ] (gH ⟨.ref aH,aP,ar,aO,au,Z,aE,aa,dn⟩ R 0).Z [])
noncomputable def Ui (n t:y) :bb w:=
  .ax mx [0,2] 0 (rv w z ⟨.ref aH,aP,ar,aO,au,Z,aE,aa,dn⟩ aH cP (R.map ad) true rfl eC aQ) [5,6,4] λah=>.ax mx [2] 0 (tc w z ⟨.ref aH,aP,ar,aO,au,Z,aE,aa,dn⟩ aH cP R rfl bJ al) nf λaN=>.ax uk [0,0,2] 1 (BW w ({G:=D.G,bS:=D.bS,s:=z.s,L:=D.L,bA:=D.bA,bR:=D.bR,M:=D.M,ab:=D.ab,ae:=D.ae,ak:=D.ak,h:=D.h,dW:=D.dW}) bq (aN 0) (aN 3) aD K dq as R O fb h9 g7) ul λbx=>.ax uc [0,2] 0 (kz w D.L (bx 2) (dF c1 fb) N none ex hl) [3] λcj=>.ax [] [0,2] 0 (tb w D.h (↑N) 3 D.bR (cj 2) aU) [] λcg=>.ax ux sj 4 (s8 w D.G D.bS D.L (bx 2) (cg 0+1) (cg 0+2) (cg 0+3) 3 ([bD,cf,dJ]) fb dv rfl (Or.inr (Or.inr rfl)) hJ) ui λfc=>.ax uq [0,2] 0 (hS w D.bA cR a8 (a8++[PySem.Value.ref (cg 0+2)]) (.ref (cg 0+2)) none cM rfl) [2] λfS=>.ax uz kL 1 (ql w D.bA (cR+1) (fS 1+2) (a8++[PySem.Value.ref (cg 0+2)]) a8 (.ref (cg 0+2)) none (h7 (PySem.Value.ref (cg 0+2))) rfl) [2] λjH=>.ax [37] [0,2] 1 (pk w (jH 0) (cg 0+2) 0 3 [] [.str (ay bD.fst) bD.snd,.str (ay cf.fst) cf.snd,.str (ay dJ.fst) dJ.snd] [.str (ay bD.fst) bD.snd,.str (ay cf.fst) cf.snd,.str (ay dJ.fst) dJ.snd] none gq h1 rfl) [39,36] λoc=>.ax ur [0,2] 0 (s9 w z (gH {dD:=PySem.Value.ref aH,aP:=aP,ar:=ar,aO:=aO,au:=au,Z:=Z,aE:=aE,aa:=aa,K:=dn}
 R (aN 4)) aH (aN 2) ([bD,cf,dJ]) ([]) rfl (Or.inr (Or.inr rfl)) hI) nf λiu=>.bd [] [3] 0 (.dr (k6 D.G D.bS)) (d4 um ([hi w.params {D with s:=z.s} bq aD (jb (as,dq) R).1 (jb (as,dq) R).2,cx (.ref D.L),I (a8++[.ref (cg 0+2)]) (cR+1),dA dv (fc 2),I ((gF (gH ⟨.ref aH,aP,ar,aO,au,Z,aE,aa,dn⟩ R (aN 4)).aa [bD,cf,dJ] (gH ⟨.ref aH,aP,ar,aO,au,Z,aE,aa,dn⟩ R (aN 4)).Z []).2.map ad) (iu 2)]++((bX w.params z (rG (gH ⟨.ref aH,aP,ar,aO,au,Z,aE,aa,dn⟩ R (aN 4)) [bD,cf,dJ] [] (iu 3) λk=>iu (k+4))).map (·.2)++[I ([bD,cf,dJ].map ad) 3])))
theorem Uj:b2 w 7 none ([(D.G,hi w.params {D with s:=z.s} bq aD as dq),(D.bS,cx (.ref D.L)),(D.bA,I a8 cR),(D.L,dA O K),(aH,I (R.map ad) cP)]++bX w.params z ⟨.ref aH,aP,ar,aO,au,Z,aE,aa,dn⟩) (k6 D.G D.bS) (Ui w z aP aO ar au Z aE aa dn D bq aH cP K cR aD dq as R a8 O fb dv bJ al eC aQ h9 bD cf dJ g7 hJ N ex hl aU cM h7 gq h1 hI):=by revert w;exact cX
end
section
variable (gq:0<1000)(aQ:(decide (aO<aP)||!(([] :B (y×y)).map ad).isEmpty)=false)
noncomputable def Uk (n t:y) :bb w:=
  .ax mx [0,2] 0 (rv w z ⟨.ref aH,aP,ar,aO,au,Z,aE,aa,dn⟩ aH cP (([] :B (y×y)).map ad) false rfl gq aQ) [5,6,4] λah=>.bd [] [] 0 (.ret (.ok .next)) (d4 (dW 0 32) ([hi w.params {D with s:=z.s} bq aD as dq,cx (.ref D.L),I a8 cR,dA O K,I (([] :B (y×y)).map ad) cP]++(bX w.params z ⟨.ref aH,aP,ar,aO,au,Z,aE,aa,dn⟩).map (·.2)))
theorem Ul:b2 w 7 none ([(D.G,hi w.params {D with s:=z.s} bq aD as dq),(D.bS,cx (.ref D.L)),(D.bA,I a8 cR),(D.L,dA O K),(aH,I (([] :B (y×y)).map ad) cP)]++bX w.params z ⟨.ref aH,aP,ar,aO,au,Z,aE,aa,dn⟩) (k6 D.G D.bS) (Uk w z aP aO ar au Z aE aa dn D bq aH cP K cR aD dq as a8 O gq aQ):=c6
end
end
structure hA where
 (Z:y->ai)
 (R:B (y×y))
 (O:B (a6×y))
 (aP aO:ai)
 (as:a6×y)
noncomputable def ub (Z:y->ai)(R:B (y×y)) :y->ai:=R.foldl (λf p=>cF f p.1 (-1)) Z
noncomputable def hA.next (aa:y->B (y×y))(d:hA)(q:B (y×y))(dv:B (a6×y)) :hA:=
 ⟨(gF aa q (ub d.Z d.R) []).1,(gF aa q (ub d.Z d.R) []).2,dv,d.aP+((d.R.map ad).length:ai),d.aO+(q.length:ai),jb d.as d.R⟩
noncomputable def iY (h:ai)(aa:y->B (y×y)) :B (B (y×y))->hA->hA->Prop
 | [],d,f=>d=f/\d.R=[]/\¬ d.aO<d.aP
 | q::aZ,d,f=>(∀ x∈d.R,x.1<12)/\d.R.length<1000/\(d.aO<d.aP∨d.R≠[])/\d.O.length+d.R.length<10000/\(if ((iW d.O d.R).length:ai)<h then ((iW d.O d.R).length:ai) else h)=(q.length:ai)/\
   (q.length=1∨q.length=2∨q.length=3)/\ju aa q (ub d.Z d.R) []/\∃ dv,nv (iW d.O d.R) q dv/\iY h aa aZ (d.next aa q dv) f
noncomputable def lP (f:y->y) :B (B (y×y))->B (aM×ao)
 | []=>[]
 | q::r=>(f 0,I (q.map ad) q.length)::lP (λk=>f (k+1)) r
noncomputable def lr (f:y->y) :B (B (y×y))->B ag
 | []=>[]
 | q::r=>.ref (f 0)::lr (λk=>f (k+1)) r
noncomputable def pn (P:bp)(z:cs)(D:kV)(bq:cp (aK ag))(aD aH:y)(aa:y->B (y×y))(dn:y->y)(a8:B ag)(aZ:B (B (y×y)))(f:hA)(as:y->y) :B ao:=
 [hi P {D with s:=z.s} bq aD f.as.1 f.as.2,cx (.ref D.L),I (a8++lr (λk=>as (k+20)) aZ) (as 2),dA f.O (as 3),I (f.R.map ad) (as 4)]++(bX P z ⟨.ref aH,f.aP,as 5,f.aO,as 6,f.Z,λk=>as (k+8),aa,dn⟩).map (·.2)
noncomputable def zk (x:y->y)(a:y) :y->y:=hP [x 0,x 1,x 2,x 3,x 4,x 5,x 6,x 7,x 8,x 9,x 10,x 11,x 12,x 13,x 14,x 15,x 16,x 17,x 18,x 19,a] λk=>x (k+20)
section
variable {w:aG}
theorem Ch {P:bp}{z:cs}{D:kV}{bq:cp (aK ag)}{aD aH:y}{aa:y->B (y×y)}{dn:y->y}{a8:B ag}{q:B (y×y)}{aZ:B (B (y×y))}{f:hA}(x:y->y)(a:y) :
  pn P z D bq aD aH aa dn (a8++[.ref a]) aZ f x=pn P z D bq aD aH aa dn a8 (q::aZ) f (zk x a):=by
 unfold pn;refine H (f9 ..) ?_;kernel_rfl
theorem JF {dd:Type}{l:B dd}{b:Prop}(h:b∨l≠[]){f:dd->ag} [Decidable b] :(decide b||!(l.map f).isEmpty)=true:=by
 rcases h with h | h
 ·refine H (k5 h ..) ?_;rfl
 ·induction l with
  | nil=>exact absurd rfl h
  | cons a l=>exact Bool.or_true _
theorem tl {z:cs}{D:kV}{bq:cp (aK ag)}{aD aH:y}{aa:y->B (y×y)}{dn:y->y} :∀ (aZ:B (B (y×y))) (d f:hA) (a8:B ag) (cR K cP ar au:y) (aE:y->y),iY D.h aa aZ d f->a8.length+aZ.length<999999->
  b0 w 7 (k6 D.G D.bS) none ([(D.G,hi w.params {D with s:=z.s} bq aD d.as.1 d.as.2),(D.bS,cx (.ref D.L)),(D.bA,I a8 cR),(D.L,dA d.O K),(aH,I (d.R.map ad) cP)]++bX w.params z ⟨.ref aH,d.aP,ar,d.aO,au,d.Z,aE,aa,dn⟩) (λ_=>.ok .next)
   (pn w.params z D bq aD aH aa dn a8 aZ f) (λas=>lP (λk=>as (k+20)) aZ) (λ_=>bZ)
 | [],d,f,a8,cR,K,cP,ar,au,aE,ap,al=>by obtain ⟨rfl,bJ,a7⟩:=ap;obtain ⟨Z,R,O,aP,aO,as⟩:=d;subst bJ;refine mf (Ul w z aP aO ar au Z aE aa dn D bq aH cP K cR aD as.2 as.1 a8 O (show 0<1000 by decide) (by refine H (md a7 ..) ?_;rfl)) ?_;intro n t ah _ a b;refine ⟨hP [a,b,cR,K,cP,ar,au,0] aE,rfl,rfl,rfl,?_,rfl,trivial⟩;unfold pn;refine H (show a8++lr (λk=>hP [a,b,cR,K,cP,ar,au,0] aE (k+20)) []=a8 from d9 _) ?_;kernel_rfl
 | q::aZ,d,f,a8,cR,K,cP,ar,au,aE,ap,al=>by
  obtain ⟨bJ,jC,aQ,h9,aU,bg,hI,dv,hJ,ap⟩:=ap;obtain ⟨Z,R,O,aP,aO,as⟩:=d;rw [ed] at al;have h7:∀ v,(a8++[v]).length<1000000:=λv=>by refine H (ea ..) (H (ig ..) ?_);omega
  have ex:(O.length:y)+R.length<1000000:=fh h9 (by decide);have rT:((iW O R).map c1).length=(iW O R).length:=de ..;have hl:(iW O R).length<1000000:=by refine H (Af ..) ?_;exact ex
  have py:(decide (aO<aP)||!(R.map ad).isEmpty)=true:=JF aQ;rcases bg with bg | bg | bg
  ·obtain ⟨bD,rfl⟩:=GZ.mp bg
   exact rN (Uf w z aP aO ar au Z aE aa dn D bq aH cP K cR aD as.2 as.1 R a8 O _ dv bJ jC (by refine H (de ..) ?_;exact jC) py h9 bD rfl hJ _ rT hl aU (by omega) h7 (show 0<1000000 by decide) (by decide) hI) (bH:=λn t X=>[(X 4 0+2,I ([bD].map ad) 1)]) (by intro n t X;kernel_rfl) (λn t X=>tl aZ _ f (a8++[.ref (X 4 0+2)]) (cR+1) (X 5 2) (X 9 2) (X 1 4) (X 9 3) (λk=>X 9 (k+4)) ap (by refine H (ea ..) (H (ig ..) ?_);omega)) (λn t X x=>zk x (X 4 0+2)) λn t X x _=>⟨rfl,rfl,rfl,Ch x _,rfl,trivial⟩
  ·obtain ⟨bD,cf,rfl⟩:=wA bg
   exact rN (Uh w z aP aO ar au Z aE aa dn D bq aH cP K cR aD as.2 as.1 R a8 O _ dv bJ jC (by refine H (de ..) ?_;exact jC) py h9 bD cf rfl hJ _ rT hl aU (by omega) h7 (show 0<1000000 by decide) (by decide) hI) (bH:=λn t X=>[(X 4 0+2,I ([bD,cf].map ad) 2)]) (by intro n t X;kernel_rfl) (λn t X=>tl aZ _ f (a8++[.ref (X 4 0+2)]) (cR+1) (X 5 2) (X 9 2) (X 1 4) (X 9 3) (λk=>X 9 (k+4)) ap (by refine H (ea ..) (H (ig ..) ?_);omega)) (λn t X x=>zk x (X 4 0+2)) λn t X x _=>⟨rfl,rfl,rfl,Ch x _,rfl,trivial⟩
  ·obtain ⟨bD,cf,dJ,rfl⟩:=wB bg
   exact rN (Uj w z aP aO ar au Z aE aa dn D bq aH cP K cR aD as.2 as.1 R a8 O _ dv bJ jC (by refine H (de ..) ?_;exact jC) py h9 bD cf dJ rfl hJ _ rT hl aU (by omega) h7 (show 0<1000000 by decide) (by decide) hI) (bH:=λn t X=>[(X 4 0+2,I ([bD,cf,dJ].map ad) 3)]) (by intro n t X;kernel_rfl) (λn t X=>tl aZ _ f (a8++[.ref (X 4 0+2)]) (cR+1) (X 5 2) (X 9 2) (X 1 4) (X 9 3) (λk=>X 9 (k+4)) ap (by refine H (ea ..) (H (ig ..) ?_);omega)) (λn t X x=>zk x (X 4 0+2)) λn t X x _=>⟨rfl,rfl,rfl,Ch x _,rfl,trivial⟩
end
end
section
noncomputable def wt (x:y->y)(a k:y) :y->y:=hP [x 0,x 1,x 2,x 3,x 4,x 5,x 6,k,x 8,x 9,x 10,x 11,x 12,x 13,x 14,x 15,x 16,x 17,x 18,x 19,a] λk=>x (k+20)
section
variable {w:aG}
theorem Ci {P:bp}{z:cs}{D:kV}{bq:cp (aK ag)}{aH:y}{aa:y->B (y×y)}{dn:y->y}{a8:B ag}{q:B (y×y)}{aZ:B (B (y×y))}{f:hA}(x:y->y)(a k:y) :
  pn P z D bq k aH aa dn (a8++[.ref a]) aZ f x=pn P z D bq (wt x a k 7) aH aa dn a8 (q::aZ) f (wt x a k):=by
 unfold pn;refine H (f9 ..) ?_;kernel_rfl
theorem Te {z:cs}{D:kV}{bq:cp (aK ag)}{aH:y}{aa:y->B (y×y)}{dn:y->y}{q:B (y×y)}{aZ:B (B (y×y))}{d f:hA}{a8:B ag}{cR K cP ar au:y}{aE:y->y}{p:y×y}{R:B (y×y)}(L:d.R=p::R)(ap:iY D.h aa (q::aZ) d f)(al:a8.length+(q::aZ).length<999999) :
  b0 w 7 (k6 D.G D.bS) none ([(D.G,tm w.params {D with s:=z.s} bq),(D.bS,cx (.ref D.L)),(D.bA,I a8 cR),(D.L,dA d.O K),(aH,I (d.R.map ad) cP)]++bX w.params z ⟨.ref aH,d.aP,ar,d.aO,au,d.Z,aE,aa,dn⟩) (λ_=>.ok .next)
   (λas=>pn w.params z D bq (as 7) aH aa dn a8 (q::aZ) f as) (λas=>lP (λk=>as (k+20)) (q::aZ)) (λ_=>bZ):=by
 obtain ⟨bJ,jC,aQ,h9,aU,bg,hI,dv,hJ,ap⟩:=ap;obtain ⟨Z,Hh,O,aP,aO,as⟩:=d;subst L;rw [ed] at al;have h7:∀ v,(a8++[v]).length<1000000:=λv=>by refine H (ea ..) (H (ig ..) ?_);lia
 have ex:(O.length:y)+(p::R).length<1000000:=fh h9 (by decide);have rT:((iW O (p::R)).map c1).length=(iW O (p::R)).length:=de ..;have hl:(iW O (p::R)).length<1000000:=by refine H (Af ..) ?_;exact ex
 have py:(decide (aO<aP)||!((p::R).map ad).isEmpty)=true:=JF aQ;rcases bg with bg | bg | bg
 ·obtain ⟨bD,rfl⟩:=GZ.mp bg
  exact rN (T9 w z aP aO ar au Z aE aa dn D bq aH cP K cR p R a8 O _ dv bJ jC (by refine H (de ..) ?_;exact jC) py h9 bD rfl hJ _ rT hl aU (by lia) h7 (show 0<1000000 by decide) (by decide) hI) (bH:=λn t X=>[(X 4 0+2,I ([bD].map ad) 1)]) (by intro n t X;kernel_rfl) (λn t X=>tl (aD:=X 2 3) aZ _ f (a8++[.ref (X 4 0+2)]) (cR+1) (X 5 2) (X 9 2) (X 1 4) (X 9 3) (λk=>X 9 (k+4)) ap (by refine H (ea ..) (H (ig ..) ?_);lia)) (λn t X x=>wt x (X 4 0+2) (X 2 3)) λn t X x _=>⟨rfl,rfl,rfl,Ci x _ _,rfl,trivial⟩
 ·obtain ⟨bD,cf,rfl⟩:=wA bg
  exact rN (Ub w z aP aO ar au Z aE aa dn D bq aH cP K cR p R a8 O _ dv bJ jC (by refine H (de ..) ?_;exact jC) py h9 bD cf rfl hJ _ rT hl aU (by lia) h7 (show 0<1000000 by decide) (by decide) hI) (bH:=λn t X=>[(X 4 0+2,I ([bD,cf].map ad) 2)]) (by intro n t X;kernel_rfl) (λn t X=>tl (aD:=X 2 3) aZ _ f (a8++[.ref (X 4 0+2)]) (cR+1) (X 5 2) (X 9 2) (X 1 4) (X 9 3) (λk=>X 9 (k+4)) ap (by refine H (ea ..) (H (ig ..) ?_);lia)) (λn t X x=>wt x (X 4 0+2) (X 2 3)) λn t X x _=>⟨rfl,rfl,rfl,Ci x _ _,rfl,trivial⟩
 ·obtain ⟨bD,cf,dJ,rfl⟩:=wB bg
  exact rN (Ud w z aP aO ar au Z aE aa dn D bq aH cP K cR p R a8 O _ dv bJ jC (by refine H (de ..) ?_;exact jC) py h9 bD cf dJ rfl hJ _ rT hl aU (by lia) h7 (show 0<1000000 by decide) (by decide) hI) (bH:=λn t X=>[(X 4 0+2,I ([bD,cf,dJ].map ad) 3)]) (by intro n t X;kernel_rfl) (λn t X=>tl (aD:=X 2 3) aZ _ f (a8++[.ref (X 4 0+2)]) (cR+1) (X 5 2) (X 9 2) (X 1 4) (X 9 3) (λk=>X 9 (k+4)) ap (by refine H (ea ..) (H (ig ..) ?_);lia)) (λn t X x=>wt x (X 4 0+2) (X 2 3)) λn t X x _=>⟨rfl,rfl,rfl,Ci x _ _,rfl,trivial⟩
theorem b0.Pa {bj:y}{code:cn}{ap:aK ag}{pre:B (aM×ao)}{bB:(y->y)->cD}{cB:(y->y)->B ao}{bV:(y->y)->B (aM×ao)}{cond:(y->y)->Prop}(h:b0 w bj code ap pre bB cB bV cond) :ec w none bj code ap pre [] bB cB (λ_=>[]) (λx=>[bV x]) cond:=λA s aS has bU=>by
 simp only [h2,d9] at has bU;refine gR (h A s aS has bU) ?_;rintro r an ⟨x,az,aJ,bg,cS,dI⟩;have lt:∀ a∈pre.map (·.1),a<s.heap.objs.size:=λa bY=>by obtain ⟨p,L,rfl⟩:=fC.mp bY;exact hC (has p L)
 have b:=dI.O9 lt bU.e8;refine ⟨x,az,aJ,bg,cS,⟨b.len,?_,?_,?_,b.eD⟩⟩
 ·simpa using b.has
 ·simpa using b.e8
 ·simpa using b.fresh
noncomputable def yo (w:aG)(z:cs)(D:kV)(bq:cp (aK ag))(aH:y)(aa:y->B (y×y))(dn:y->y)(q:B (y×y))(aZ:B (B (y×y)))(d f:hA)(a8:B ag)(cR K cP ar au:y)(aE:y->y)(p:y×y)(R:B (y×y))(L:d.R=p::R)(ap:iY D.h aa (q::aZ) d f)(al:a8.length+(q::aZ).length<999999) :hy w:=
 ec.mk (Te (w:=w) (z:=z) (D:=D) (bq:=bq) (aH:=aH) (aa:=aa) (dn:=dn) (q:=q) (aZ:=aZ) (d:=d) (f:=f) (a8:=a8) (cR:=cR) (K:=K) (cP:=cP) (ar:=ar) (au:=au) (aE:=aE) L ap al).Pa
end
end
noncomputable def ox:=Pc (ew 42).2.1[1]?
noncomputable def Iz:B c5:=(ew 42).2.1.take 1
noncomputable def vK:B c5:=(ew 42).2.1.drop 2
noncomputable def Iy:mI:=ox.2.1.headD CG
theorem Tf:(ew 42).2.1=Iz++.Try ox.1 [Iy] [] [] ox.2.2::vK:=by kernel_rfl
theorem Ti:ox.2.1=[Iy]:=by kernel_rfl
noncomputable abbrev vJ (P:bp)(s M ab:y)(h:ai)(bR:y) :ao:={cls:=.type "frame",data:=.dict ⟨[aj P so M (.ref s),aj P qX ab (.int h bR)]⟩ 2}
noncomputable abbrev lG (P:bp)(s M ab ae ak bA:y)(h:ai)(bR:y)(dW:bW) :ao:={cls:=.type "frame",data:=.dict ⟨[aj P so M (.ref s),aj P qX ab (.int h bR),aj P uf ae (.ref bA),aj P w6 ak (.bool dW)]⟩ 4}
noncomputable abbrev ma:ao:={cls:=.type "cell",data:=.cell none}
section
section
variable (w:aG)(z:cs)(G bS M ab ae ak L bA aH cP bH fw bh ra:y)(az aJ bg cS:ai)(aQ:bW)(c3:a6)(bq:cp (aK ag))(h:ai)(bR ar au:y)(Z:y->ai)(aE:y->y)(aa:y->B (y×y))(K:y->y)(r:dl)(cJ:B y)(a7:g5 aa 60 [] (fH 0 12)=some (false,cJ))(cm:∀ i<12,∀ p∈aa i,p.1<12)(a9:eg r)(q:B (y×y))(aZ:B (B (y×y)))(d:hA)(hx:a6×y)(f:hA)
section
variable (p:y×y)(R:B (y×y))(L:eI z.cb Z 0 12=p::R)(ap:iY h aa (q::aZ) ⟨Z,eI z.cb Z 0 12,[],0,0,hx⟩ f)(al:([] :B ag).length+(q::aZ).length<999999)
noncomputable def Tr (n t:y) :bb w:=
  .fF [0,28,28,28,28,32,32,32,32,33,33,33,33,33,32,33,33,33,33,33,33,32,33,33,33,33,33,33,32,33,33,33,33,33,33,32,33,33,35,29,29,28,28,28,28,28,1,0,0,0,1,0,0,0,1,0,0,0,0,1,2,0] (aY 0x1200000000001) 8 (RH w z ar au Z aE aa K (h6 n (n+1)) n (lG w.params z.s t (t+1) (t+2) (t+3) (n+3) h bR Bool.false) r cJ a7 cm (H6 a9)) (dW 0 28) [true] λah=>.fF [] [2] 0 (yo w z {G:=n,bS:=n+1,s:=z.s,L:=n+2,bA:=n+3,bR:=bR,M:=t,ab:=t+1,ae:=t+2,ak:=t+3,h:=h,dW:=false} (lX (h6 n (n+1)) r (lG w.params z.s t (t+1) (t+2) (t+3) (n+3) h bR false) (ah 4)) (ah 2) aa K q aZ ⟨Z,eI z.cb Z 0 12,[],0,0,hx⟩ f [] 0 0 (ah 3) ar au aE p R L ap al) [27,28,30,29,35,0,1,2,3,4,5,6,7,8,9,10,11,12,13,14,15,16,17,18,19,20,21,22,23,24,25,26] [] λaN=>.bd [28,28] [] 1 (.ret (.ok (.ret (.ref (aN 0))))) (d4 (dW 0 27++[36,30]) (((bX w.params z ⟨.ref (ah 2),f.aP,aN 5,f.aO,aN 6,f.Z,λk=>aN (k+8),aa,K⟩).map (·.2)++[di [.ref (n+3),.bool false],I (lr (λk=>aN (k+20)) (q::aZ)) (aN 2)])))
theorem Ts:j8 w (some (r.map (·.1))) 11 none (bX w.params z ⟨.none,0,ar,0,au,Z,aE,aa,K⟩) ([bP r]) (.call (.ref 924) ⟨[.ref z.s,.int h bR],[]⟩) (Tr w z h bR ar au Z aE aa K r cJ a7 cm a9 q aZ hx f p R L ap al):=by revert w;exact cX
end
section
variable (a7:g5 aa 60 [] (fH 0 12)=some (true,cJ))(cm:∀ i<12,∀ p∈aa i,p.1<12)(a9:eg r)
noncomputable def Tj (n t:y) :bb w:=
  .fF [32,32,32,32,33,33,33,33,33,32,33,33,33,33,33,33,32,33,33,33,33,33,33,32,33,33,33,33,33,33,32,33,33,35,2,2,1,1,1,1,1,3,0,0,0,3,0,0,0,3,0,0,0,0,3,4,0,0,36,36] (aY 0x140000000000) 7 (RI w z (n+6) (t+2) ar au Z aE aa K (h6 G bS) G (lG w.params z.s M ab t (t+1) (n+1) h bR Bool.false) r cJ a7 cm (H6 a9)) [35,2,3,4,5,6,7,8,9,10,11,12,13,14,15,16,17,18,19,20,21,22,23,24,25,26,27,28,0] [true] λah=>.bd [] [] 0 (.ret (.ok (.ret (.ref (ah 2))))) (d4 [38,1,2,3,4,5,6,7,8,9,10,11,12,13,14,15,16,17,18,19,20,21,22,23,24,25,26,27,28,29,30,36,37,0] ([fv .none (n+6) .none (uT ah 20),cx (.ref n)]++((bX w.params z ⟨.ref (ah 3),0,ar,0,au,Z,aE,aa,K⟩).map (·.2)++[I [] 0,I [] 0,I ((eI z.cb Z 0 12).map ad) (ah 4),kb (ah 5) (.ref (ah 6)),{lG w.params z.s M ab t (t+1) (n+1) h bR false with slots:=lX (h6 G bS) r (lG w.params z.s M ab t (t+1) (n+1) h bR false) (rF ah)}])))
theorem Tk:eu w (some (r.map (·.1))) 10 none ((G,vJ w.params z.s M ab h bR)::(bS,ma)::bX w.params z ⟨.none,0,ar,0,au,Z,aE,aa,K⟩) ([bP r]) (.func (ew 42).2.1 (h6 G bS)) (O7 Iz ox.1 ox.2.2 (h6 G bS)) (Tj w z G bS M ab h bR ar au Z aE aa K r cJ a7 cm a9):=by revert w;exact cX
end
section
variable (p:y×y)(R:B (y×y))(fu:d.R=p::R)(ap:iY h aa (q::aZ) d f)(al:([] :B ag).length+(q::aZ).length<999999)
noncomputable def Tl (n t:y) :bb w:=
  .fF EV [0,0,2] 0 (yo w z {G:=G,bS:=bS,s:=z.s,L:=L,bA:=bA,bR:=bR,M:=M,ab:=ab,ae:=ae,ak:=ak,h:=h,dW:=true} bq aH aa K q aZ d f [] 0 0 cP ar au aE p R fu ap al) Fa [] λah=>.bd [34,34] [] 1 (.ret (.ok (.ret (.ref (ah 0))))) (d4 Fb ([hi w.params {G:=G,bS:=bS,s:=z.s,L:=L,bA:=bA,bR:=bR,M:=M,ab:=ab,ae:=ae,ak:=ak,h:=h,dW:=true} bq (ah 7) f.as.1 f.as.2,cx (.ref L)]++((bX w.params z ⟨.ref aH,f.aP,ah 5,f.aO,ah 6,f.Z,λk=>ah (k+8),aa,K⟩).map (·.2)++[di [.ref bA,.bool true],I (lr (λk=>ah (k+20)) (q::aZ)) (ah 2)])))
theorem Tm:eu w none 9 none ((bS,cx (.ref L))::(bX w.params z ⟨.ref aH,d.aP,ar,d.aO,au,d.Z,aE,aa,K⟩++[(L,dA d.O 0),(bA,I [] 0),(aH,I (d.R.map ad) cP),(bH,kb fw (.ref bh)),(bh,fv (.ref ra) G .none [.none,.none,.none,.none,.none,.none]),(G,{lG w.params z.s M ab ae ak bA h bR false with slots:=bq})])) ([]) (.func (ew 42).2.1 (h6 G bS)) (wn (.ref bH) (h6 G bS) ox.2.1 vK) (Tl w z G bS M ab ae ak L bA aH cP bq h bR ar au aE aa K q aZ d f p R fu ap al):=by revert w;exact cX
end
section
variable (p:y×y)(R:B (y×y))(fu:d.R=p::R)(ap:iY h aa (q::aZ) d f)(al:([] :B ag).length+(q::aZ).length<999999)
noncomputable def Tn (n t:y) :bb w:=
  .fF EV [0,0,2] 0 (yo w z {G:=G,bS:=bS,s:=z.s,L:=L,bA:=bA,bR:=bR,M:=M,ab:=ab,ae:=ae,ak:=ak,h:=h,dW:=true} bq aH aa K q aZ d f [] 0 0 cP ar au aE p R fu ap al) Fa [] λah=>.bd [34,34] [] 1 (.ret (.ok (.ret (.ref (ah 0))))) (d4 Fb ([hi w.params {G:=G,bS:=bS,s:=z.s,L:=L,bA:=bA,bR:=bR,M:=M,ab:=ab,ae:=ae,ak:=ak,h:=h,dW:=true} bq (ah 7) f.as.1 f.as.2,cx (.ref L)]++((bX w.params z ⟨.ref aH,f.aP,ah 5,f.aO,ah 6,f.Z,λk=>ah (k+8),aa,K⟩).map (·.2)++[di [.ref bA,.bool true],I (lr (λk=>ah (k+20)) (q::aZ)) (ah 2)])))
theorem To:eu w none 9 none ((bS,cx (.ref L))::(bX w.params z ⟨.ref aH,d.aP,ar,d.aO,au,d.Z,aE,aa,K⟩++[(L,dA d.O 0),(bA,I [] 0),(aH,I (d.R.map ad) cP),(bH,kb fw (.ref bh)),(bh,fv (.ref ra) G .none [.int az 0,.int aJ 0,.int bg 0,.int cS 0,.none,.bool aQ]),(G,{lG w.params z.s M ab ae ak bA h bR false with slots:=bq})])) ([]) (.func (ew 42).2.1 (h6 G bS)) (wn (.ref bH) (h6 G bS) ox.2.1 vK) (Tn w z G bS M ab ae ak L bA aH cP bq h bR ar au aE aa K q aZ d f p R fu ap al):=by revert w;exact cX
end
section
variable (p:y×y)(R:B (y×y))(fu:d.R=p::R)(ap:iY h aa (q::aZ) d f)(al:([] :B ag).length+(q::aZ).length<999999)
noncomputable def Tp (n t:y) :bb w:=
  .fF EV [0,0,2] 0 (yo w z {G:=G,bS:=bS,s:=z.s,L:=L,bA:=bA,bR:=bR,M:=M,ab:=ab,ae:=ae,ak:=ak,h:=h,dW:=true} bq aH aa K q aZ d f [] 0 0 cP ar au aE p R fu ap al) Fa [] λah=>.bd [34,34] [] 1 (.ret (.ok (.ret (.ref (ah 0))))) (d4 Fb ([hi w.params {G:=G,bS:=bS,s:=z.s,L:=L,bA:=bA,bR:=bR,M:=M,ab:=ab,ae:=ae,ak:=ak,h:=h,dW:=true} bq (ah 7) f.as.1 f.as.2,cx (.ref L)]++((bX w.params z ⟨.ref aH,f.aP,ah 5,f.aO,ah 6,f.Z,λk=>ah (k+8),aa,K⟩).map (·.2)++[di [.ref bA,.bool true],I (lr (λk=>ah (k+20)) (q::aZ)) (ah 2)])))
theorem Tq:eu w none 9 none ((bS,cx (.ref L))::(bX w.params z ⟨.ref aH,d.aP,ar,d.aO,au,d.Z,aE,aa,K⟩++[(L,dA d.O 0),(bA,I [] 0),(aH,I (d.R.map ad) cP),(bH,kb fw (.ref bh)),(bh,fv (.ref ra) G .none [.int az 0,.int aJ 0,.int bg 0,.int cS 0,.str c3 0,.bool aQ]),(G,{lG w.params z.s M ab ae ak bA h bR false with slots:=bq})])) ([]) (.func (ew 42).2.1 (h6 G bS)) (wn (.ref bH) (h6 G bS) ox.2.1 vK) (Tp w z G bS M ab ae ak L bA aH cP bq h bR ar au aE aa K q aZ d f p R fu ap al):=by revert w;exact cX
end
end
section
variable {w:aG}
theorem SE {z:cs}{h:ai}{bR ar au:y}{Z:y->ai}{aE:y->y}{aa:y->B (y×y)}{K:y->y}{r:dl}{cJ:B y}(a7:g5 aa 60 [] (fH 0 12)=some (false,cJ))(cm:∀ i<12,∀ p∈aa i,p.1<12)(a9:eg r){q:B (y×y)}{aZ:B (B (y×y))}{hx:a6×y}{f:hA}{p:y×y}{R:B (y×y)}(L:eI z.cb Z 0 12=p::R)(ap:iY h aa (q::aZ) ⟨Z,eI z.cb Z 0 12,[],0,0,hx⟩ f)(al:(q::aZ).length<999999) :
  ec w (some (r.map (·.1))) 11 (.call (.ref 924) ⟨[.ref z.s,.int h bR],[]⟩) none (bX w.params z ⟨.none,0,ar,0,au,Z,aE,aa,K⟩) [bP r] (λx=>.ok (.ret (.ref (x 2)))) (λx=>(bX w.params z ⟨.ref (x 5),f.aP,x 6,f.aO,x 7,f.Z,λk=>x (k+8),aa,K⟩).map (·.2))
   (λx=>[(x 2,di [.ref (x 3),.bool false]),(x 3,I (lr (λk=>x (k+25)) (q::aZ)) (x 4))]) (λx=>[bP (gC r (x 20)),lP (λk=>x (k+25)) (q::aZ)]) (λ_=>bZ):=by
 refine yL (Ts w z h bR ar au Z aE aa K r cJ a7 cm a9 q aZ hx f p R L ap (by refine H (nt ..) (H (jd ..) ?_);exact al)) (λn t X a b=>hP [a,b,X 1 0,n+3,X 1 2,X 0 2,X 1 5,X 1 6,X 1 8,X 1 9,X 1 10,X 1 11,X 1 12,X 1 13,X 1 14,X 1 15,X 1 16,X 1 17,X 1 18,X 1 19,X 0 4,0,0,0,0] λk=>X 1 (k+20)) λn t X a b=>⟨?_,rfl,trivial⟩;rw [show ∀ c,gC r c=mC r (lG w.params z.s t (t+1) (t+2) (t+3) (n+3) h bR false) c from λc=>(Ap c).symm];kernel_rfl
end
end
section
variable {w:aG}
noncomputable abbrev qn (P:bp)(s M ab ae ak bA:y)(h:ai)(bR:y)(G bS:y)(r:dl)(c:y) :ao:={lG P s M ab ae ak bA h bR false with slots:=lX (h6 G bS) r (lG P s M ab ae ak bA h bR false) c}
theorem Tt (x:y->y) :∃ c,rF x=c+1:=by
 unfold rF
 induction x 7 with
 | zero=>exact ⟨_,rfl⟩
 | succ k=>exact ⟨_,rfl⟩
noncomputable abbrev Iv (P:bp)(z:cs)(S:cU)(bS L bA aH cP bH fw bh G:y)(O:B (a6×y))(R:B (y×y))(mv eM:ao) :bN:=(bS,cx (.ref L))::(bX P z S++[(L,dA O 0),(bA,I [] 0),(aH,I (R.map ad) cP),(bH,kb fw (.ref bh)),(bh,mv),(G,eM)])
noncomputable abbrev yD (P:bp)(z:cs)(D:kV)(ar au aH:y)(bq:cp (aK ag))(aa:y->B (y×y))(K:y->y)(f:hA)(Q:B (B (y×y)))(u1:y)(as:y->y) :bN:=(D.G,hi P D bq (as 7) f.as.1 f.as.2)::(D.bS,cx (.ref D.L))::(bX P z ⟨.ref aH,f.aP,as 5,f.aO,as 6,f.Z,λk=>as (k+8),aa,K⟩++[(u1,di [.ref D.bA,.bool true]),(D.bA,I (lr (λk=>as (k+20)) Q) (as 2))])
theorem SD {z:cs}{G bS M ab ae ak L bA aH cP bH fw bh ra:y}{e3:B ag}{bq:cp (aK ag)}{h:ai}{bR ar au:y}{aE:y->y}{aa:y->B (y×y)}{K:y->y}{q:B (y×y)}{aZ:B (B (y×y))}{d f:hA}{p:y×y}{R:B (y×y)}{A:c9}{b s:aR}{aB:B aM}{dO:bN}{ac:cD->aR->Prop}{E:ag->aR->Prop}(gl:ph e3)(fu:d.R=p::R)(ap:iY h aa (q::aZ) d f)(al:(q::aZ).length<999999)
  (aS:eb w none 9 A none b)(o:bz b aB s [Iv w.params z ⟨.ref aH,d.aP,ar,d.aO,au,d.Z,aE,aa,K⟩ bS L bA aH cP bH fw bh G d.O d.R (fv (.ref ra) G .none e3) {lG w.params z.s M ab ae ak bA h bR false with slots:=bq},dO])
  (cq:∀ an u1 (as:y->y),bz b aB an [yD w.params z ⟨G,bS,z.s,L,bA,bR,M,ab,ae,ak,h,true⟩ ar au aH bq aa K f (q::aZ) u1 as,lP (λk=>as (k+20)) (q::aZ),dO]->ac (.ok (.ret (.ref u1))) an) :
  wpOwn (model aL w) A (.func (ew 42).2.1 (h6 G bS)) (wn (.ref bH) (h6 G bS) ox.2.1 vK) (postC aL w A ac) E s:=by
 have kg:([] :B ag).length+(q::aZ).length<999999:=by refine H (nt ..) (H (jd ..) ?_);exact al
 rcases gl with rfl | ⟨az,aJ,bg,cS,v,aQ,bc,rfl⟩
 ·exact o.fL [0] (af:=[]) (R:=[dO]) ⟨rfl,by kernel_rfl,by kernel_rfl⟩ aS (Tm w z G bS M ab ae ak L bA aH cP bH fw bh ra bq h bR ar au aE aa K q aZ d f p R fu ap kg) (f:=λ_ _ Y=>.ret (.ref (Y 0 0))) (cv:=λn t Y=>[yD w.params z ⟨G,bS,z.s,L,bA,bR,M,ab,ae,ak,h,true⟩ ar au aH bq aa K f (q::aZ) (Y 0 0) (Y 0),lP (λk=>Y 0 (k+20)) (q::aZ)]) (by intro n t X;kernel_rfl) λn t Y an o'=>cq an _ _ o'
 ·rcases bc with rfl | ⟨c3,rfl⟩
  ·exact o.fL [0] (af:=[]) (R:=[dO]) ⟨rfl,by kernel_rfl,by kernel_rfl⟩ aS (To w z G bS M ab ae ak L bA aH cP bH fw bh ra az aJ bg cS aQ bq h bR ar au aE aa K q aZ d f p R fu ap kg) (f:=λ_ _ Y=>.ret (.ref (Y 0 0))) (cv:=λn t Y=>[yD w.params z ⟨G,bS,z.s,L,bA,bR,M,ab,ae,ak,h,true⟩ ar au aH bq aa K f (q::aZ) (Y 0 0) (Y 0),lP (λk=>Y 0 (k+20)) (q::aZ)]) (by intro n t X;kernel_rfl) λn t Y an o'=>cq an _ _ o'
  ·exact o.fL [0] (af:=[]) (R:=[dO]) ⟨rfl,by kernel_rfl,by kernel_rfl⟩ aS (Tq w z G bS M ab ae ak L bA aH cP bH fw bh ra az aJ bg cS aQ c3 bq h bR ar au aE aa K q aZ d f p R fu ap kg) (f:=λ_ _ Y=>.ret (.ref (Y 0 0))) (cv:=λn t Y=>[yD w.params z ⟨G,bS,z.s,L,bA,bR,M,ab,ae,ak,h,true⟩ ar au aH bq aa K f (q::aZ) (Y 0 0) (Y 0),lP (λk=>Y 0 (k+20)) (q::aZ)]) (by intro n t X;kernel_rfl) λn t Y an o'=>cq an _ _ o'
theorem SF {z:cs}{G bS M ab:y}{h:ai}{bR ar au:y}{Z:y->ai}{aE:y->y}{aa:y->B (y×y)}{K:y->y}{r:dl}{cJ:B y}(a7:g5 aa 60 [] (fH 0 12)=some (true,cJ))(cm:∀ i<12,∀ p∈aa i,p.1<12)(a9:eg r){q:B (y×y)}{aZ:B (B (y×y))}{hx:a6×y}{f:hA}{p:y×y}{R:B (y×y)}(Yc:eI z.cb Z 0 12=p::R)(ap:iY h aa (q::aZ) ⟨Z,eI z.cb Z 0 12,[],0,0,hx⟩ f)(al:(q::aZ).length<999999) :
  ec w (some (r.map (·.1))) 10 (.func (ew 42).2.1 (h6 G bS)) none ((G,vJ w.params z.s M ab h bR)::(bS,ma)::bX w.params z ⟨.none,0,ar,0,au,Z,aE,aa,K⟩) [bP r] (λx=>.ok (.ret (.ref (x 2))))
   (λx=>hi w.params {G:=G,bS:=bS,s:=z.s,L:=x 23,bA:=x 3,bR:=bR,M:=M,ab:=ab,ae:=x 21,ak:=x 22,h:=h,dW:=true} (lX (h6 G bS) r (lG w.params z.s M ab (x 21) (x 22) (x 3) h bR false) (x 20+1)) (x 24) f.as.1 f.as.2::cx (.ref (x 23))::(bX w.params z ⟨.ref (x 5),f.aP,x 6,f.aO,x 7,f.Z,λk=>x (k+8),aa,K⟩).map (·.2))
   (λx=>[(x 2,di [.ref (x 3),.bool true]),(x 3,I (lr (λk=>x (k+25)) (q::aZ)) (x 4))]) (λx=>[lP (λk=>x (k+25)) (q::aZ),bP (gC r (x 20+1))]) (λ_=>bZ):=λA s aS has bU=>by
 have o:=bz.pj (S:=[(G,vJ w.params z.s M ab h bR)::(bS,ma)::bX w.params z ⟨.none,0,ar,0,au,Z,aE,aa,K⟩,bP r]) (by kernel_rfl) has bU;refine WC Tf (cZ:=λeX aA=>∃ (ae ak L bA aH cP bH fw bh c v1:y) (e3:B ag),eX= .ok (.ret (.ref bH))/\
   bz s (((G,vJ w.params z.s M ab h bR)::(bS,ma)::bX w.params z ⟨.none,0,ar,0,au,Z,aE,aa,K⟩).map (·.1)++([bP r] :B bN).flatten.map (·.1)) aA [[(bh,fv .none v1 .none e3)],(bS,cx (.ref L))::(bX w.params z ⟨.ref aH,0,ar,0,au,Z,aE,aa,K⟩++[(L,I [] 0),(bA,I [] 0),(aH,I ((eI z.cb Z 0 12).map ad) cP)]),[(bH,kb fw (.ref bh))],[(G,qn w.params z.s M ab ae ak bA h bR G bS r (c+1))],bP (gC r (c+1))]) ?_ ?_
 ·refine o.fL [0,1] (l:=(G,vJ w.params z.s M ab h bR)::(bS,ma)::bX w.params z ⟨.none,0,ar,0,au,Z,aE,aa,K⟩) (af:=[bP r]) (R:=[]) ⟨rfl,by kernel_rfl,by kernel_rfl⟩ aS (Tk w z G bS M ab h bR ar au Z aE aa K r cJ a7 cm a9) (f:=λ_ _ Y=>.ret (.ref (Y 0 2)))
   (cv:=λn t Y=>[[(Y 0 6,fv .none (n+6) .none (uT (Y 0) 20))],(bS,cx (.ref n))::(bX w.params z ⟨.ref (Y 0 3),0,ar,0,au,Z,aE,aa,K⟩++[(n,I [] 0),(n+1,I [] 0),(Y 0 3,I ((eI z.cb Z 0 12).map ad) (Y 0 4))]),[(Y 0 2,kb (Y 0 5) (.ref (Y 0 6)))],[(G,qn w.params z.s M ab t (t+1) (n+1) h bR G bS r (rF (Y 0)))],bP (mC r (lG w.params z.s M ab t (t+1) (n+1) h bR false) (rF (Y 0)))]) (by intro n t X;kernel_rfl)
   λn t Y aA cy=>?_
  obtain ⟨c,aX⟩:=Tt (Y 0);rw [aX,Ap] at cy;exact ⟨t,t+1,n,n+1,Y 0 3,Y 0 4,Y 0 2,Y 0 5,Y 0 6,c,n+6,uT (Y 0) 20,rfl,cy⟩
 ·rintro eX aA ⟨ae,ak,L,bA,aH,cP,bH,fw,bh,c,v1,e3,rfl,cy⟩
  refine ⟨_,rfl,?_⟩;refine df (Ti ..) ?_;refine (cy.cast (dc:=[[(bh,fv .none v1 .none e3)],(bS,cx (.ref L))::(bX w.params z ⟨.ref aH,0,ar,0,au,Z,aE,aa,K⟩++[(L,I [] 0),(bA,I [] 0),(aH,I ((eI z.cb Z 0 12).map ad) cP)]),[(bH,kb fw (.ref bh))],bP ((h6 G bS,G,qn w.params z.s M ab ae ak bA h bR G bS r (c+1))::gC r (c+1))]) (by kernel_rfl)).abA (C:=.ref 106) (a:=.ref fw) (vs:=[.none,.none,.bool false,.none]) (env:=h6 G bS) (f:=G) (o:=qn w.params z.s M ab ae ak bA h bR G bS r (c+1)) (r:=gC r (c+1)) [3,2] 0 rfl rfl (R:=[[(bh,fv .none v1 .none e3)],(bS,cx (.ref L))::(bX w.params z ⟨.ref aH,0,ar,0,au,Z,aE,aa,K⟩++[(L,I [] 0),(bA,I [] 0),(aH,I ((eI z.cb Z 0 12).map ad) cP)])]) ⟨rfl,by kernel_rfl,by kernel_rfl⟩ (cy.at aS).size ?_ ?_ ?_
  ·refine H (OD ..) ?_
   show uH [h6 G bS] A.frames=_;refine H (aS.frames _ rfl ..) ?_;rfl
  ·intro q a4
   rcases dx.mp a4 with rfl | a4
   ·exact ⟨⟨rfl,by kernel_rfl,by kernel_rfl⟩,rfl⟩
   ·exact a9.kn _ q a4
  intro ct da OJ FW gl dz;rw [show eR da ((h6 G bS,G,qn w.params z.s M ab ae ak bA h bR G bS r (c+1))::gC r (c+1))=(h6 G bS,G,qn w.params z.s M ab ae ak bA h bR G bS r (c+1))::gC r (c+1) by kernel_rfl] at dz;have kH:=(dz.cast (dc:=[[(bH,kb fw (.ref FW)),(FW,fv (.ref bh) G .none OJ),(G,qn w.params z.s M ab ae ak bA h bR G bS r (c+1))],bP (gC r (c+1)),[(bh,fv .none v1 .none e3)],(bS,cx (.ref L))::(bX w.params z ⟨.ref aH,0,ar,0,au,Z,aE,aa,K⟩++[(L,I [] 0),(bA,I [] 0),(aH,I ((eI z.cb Z 0 12).map ad) cP)])]) (by kernel_rfl)).kn [3,0,1] rfl;refine SD (w:=w) (z:=z) (d:=⟨Z,eI z.cb Z 0 12,[],0,0,hx⟩) gl Yc ap al (aS.eW (by decide) λl e=>((by injection e))) (kH.cast (dc:=[Iv w.params z ⟨.ref aH,0,ar,0,au,Z,aE,aa,K⟩ bS L bA aH cP bH fw FW G [] (eI z.cb Z 0 12) (fv (.ref bh) G .none OJ) (qn w.params z.s M ab ae ak bA h bR G bS r (c+1)),bP (gC r (c+1))]) (by kernel_rfl)) λdp u1 as mv=>⟨_,rfl,hP [dp.heap.objs.size,dp.toks,u1,bA,as 2,aH,as 5,as 6,as 8,as 9,as 10,as 11,as 12,as 13,as 14,as 15,as 16,as 17,as 18,as 19,c,ae,ak,L,as 7] λk=>as (k+20),rfl,trivial,rfl,rfl,bz.ny mv (by kernel_rfl) (by kernel_rfl)⟩
noncomputable def Rg (w:aG)(z:cs)(G bS M ab:y)(h:ai)(bR ar au:y)(Z:y->ai)(aE:y->y)(aa:y->B (y×y))(K:y->y)(r:dl)(cJ:B y)(a7:g5 aa 60 [] (fH 0 12)=some (true,cJ))(cm:∀ i<12,∀ p∈aa i,p.1<12)(a9:eg r)(q:B (y×y))(aZ:B (B (y×y)))(hx:a6×y)(f:hA)(p:y×y)(R:B (y×y))(L:eI z.cb Z 0 12=p::R)(ap:iY h aa (q::aZ) ⟨Z,eI z.cb Z 0 12,[],0,0,hx⟩ f)(al:(q::aZ).length<999999) :hy w:=
 ec.mk (SF (w:=w) (z:=z) (G:=G) (bS:=bS) (M:=M) (ab:=ab) (h:=h) (bR:=bR) (ar:=ar) (au:=au) (Z:=Z) (aE:=aE) (aa:=aa) (K:=K) (r:=r) a7 cm a9 L ap al)
theorem ec.uX {dg:aK (B cE)}{bj:y}{code:cn}{ap:aK ag}{pre:B (aM×ao)}{fN:B bN}{bB:(y->y)->cD}{cB:(y->y)->B ao}{bV:(y->y)->B (aM×ao)}{a b:(y->y)->bN}{cond:(y->y)->Prop}(h:ec w dg bj code ap pre fN bB cB bV (λx=>[a x,b x]) cond) :ec w dg bj code ap pre fN bB cB bV (λx=>[b x,a x]) cond:=λA s aS has bU=>by
 refine gR (h A s aS has bU) ?_;rintro r an ⟨x,az,aJ,bg,cS,dI⟩;have e:∀ p q:bN,([p,q] :B bN).flatten=p++q:=λp q=>by exact H (fz ..) (H (fz ..) (H (h2 ..) (H (d9 ..) rfl)))
 have iG:∀ X Y:B (aM×ao),(X++(Y++([a x,b x] :B bN).flatten)).Perm (X++(Y++([b x,a x] :B bN).flatten)):=λX Y=>by refine H (e ..) (H (e ..) ?_);exact (x5.append_left Y).append_left X
 refine ⟨x,az,aJ,bg,cS,⟨dI.len,λp L=>dI.has p ((iG _ _).mem_iff.mpr L),((iG _ _).map _).nodup_iff.mp dI.e8,λp L=>dI.fresh p ?_,dI.eD⟩⟩;exact (iG [] _).mem_iff.mpr L
end
section
section
variable (w:aG)(z:cs)(h:ai)(bR ar au:y)(Z:y->ai)(aE:y->y)(aa:y->B (y×y))(K:y->y)(r:dl)(cJ:B y)(a7:g5 aa 60 [] (fH 0 12)=some (true,cJ))(cm:∀ i<12,∀ p∈aa i,p.1<12)(a9:eg r)(q:B (y×y))(aZ:B (B (y×y)))(hx:a6×y)(f:hA)
section
variable (p:y×y)(R:B (y×y))(L:eI z.cb Z 0 12=p::R)(ap:iY h aa (q::aZ) ⟨Z,eI z.cb Z 0 12,[],0,0,hx⟩ f)(al:(q::aZ).length<999999)
noncomputable def Tg (n t:y) :bb w:=
  .fF [0,28,28,28,28] [4] 2 (Rg w z n (n+1) t (t+1) h bR ar au Z aE aa K r cJ a7 cm a9 q aZ hx f p R L ap al) (lF 0x11a191817161514131211100f0e0d0c0b0a090807060504030201001c1b) [true] λah=>.bd [] [] 0 (.ret (.ok (.ret (.ref (ah 2))))) (d4 (dW 0 27++[29,30]) (((bX w.params z ⟨.ref (ah 5),f.aP,ah 6,f.aO,ah 7,f.Z,λk=>ah (k+8),aa,K⟩).map (·.2)++[di [.ref (ah 3),.bool true],I (lr (λk=>ah (k+25)) (q::aZ)) (ah 4)])))
theorem Th:j8 w (some (r.map (·.1))) 11 none (bX w.params z ⟨.none,0,ar,0,au,Z,aE,aa,K⟩) ([bP r]) (.call (.ref 924) ⟨[.ref z.s,.int h bR],[]⟩) (Tg w z h bR ar au Z aE aa K r cJ a7 cm a9 q aZ hx f p R L ap al):=c6
end
end
variable {w:aG}
theorem jI.xK {s an:aR}{aB fm:B aM}{d7:B ao}{ns:B (aM×ao)}{a:aM}{o:ao}{af lx:B bN}(h:jI s an aB (a::fm) d7 ns af)(bM:af.flatten=(a,o)::lx.flatten) :jI s an (aB++[a]) fm (d7++[o]) ns lx:=by
 obtain ⟨al,eT,bK,a7,aV⟩:=h;rw [bM] at eT bK a7;have hz:(aB++[a]).zip (d7++[o])=aB.zip d7++[(a,o)]:=by refine H (Bh al.symm ..) ?_;rfl
 have L:(aB.zip d7++(ns++(a,o)::lx.flatten)).Perm ((aB++[a]).zip (d7++[o])++(ns++lx.flatten)):=by refine H hz (H (f9 ..) ?_);refine GO _ ?_;exact vn
 refine ⟨by refine H (ea ..) (H (ea ..) (H al ?_));rfl,λp aU=>eT p (L.mem_iff.mpr aU),(A4 (L.map _)).mp bK,?_,?_⟩
 ·intro p aU
  rcases a7 p (by
   rcases dU.mp aU with h | h
   ·exact eS _ h
   ·exact eJ _ (dG _ h)) with h | h
  ·rcases dx.mp h with h | h
   ·have ce:=(A4 (L.map (·.1))).mp bK
    rw [hz,f9,c0,fA] at ce;have iF:=ce.2.1;rw [Qi,hd,gy] at iF;exact absurd (fC.mpr ⟨p,aU,h⟩) iF.1
   ·exact .inl h
  ·exact .inr h
 ·refine aV.sH λb aQ=>?_
  rcases dU.mp aQ with h | h
  ·exact eS _ (eS _ h)
  ·rcases dx.mp h with h | h
   ·exact eS _ (eJ _ (h▸cY ..))
   ·exact eJ _ h
theorem ec.xK {dg:aK (B cE)}{bj:y}{code:cn}{ap:aK ag}{pre:B (aM×ao)}{e:cE}{a:aM}{o:ao}{dQ:dl}{bB:(y->y)->cD}{cB:(y->y)->B ao}{bV:(y->y)->B (aM×ao)}{gr nB:(y->y)->B bN}{cond:(y->y)->Prop}{o':(y->y)->ao}
  (h:ec w dg bj code ap pre [bP ((e,a,o)::dQ)] bB cB bV gr cond)(aQ:∀ x,(gr x).flatten=(a,o' x)::(nB x).flatten) :
  ec w dg bj code ap (pre++[(a,o)]) [bP dQ] bB (λx=>cB x++[o' x]) bV nB cond:=λA s aS has bU=>by
 have g3:(pre++[(a,o)])++[bP dQ].flatten=pre++[bP ((e,a,o)::dQ)].flatten:=by refine H (f9 ..) ?_;rfl
 rw [g3] at has bU;refine gR (h A s aS has bU) ?_;rintro r an ⟨x,az,aJ,bg,cS,dI⟩;refine ⟨x,az,aJ,bg,cS,?_⟩;have gl:=jI.xK (fm:=[bP dQ].flatten.map (·.1)) dI (aQ x);refine H (c0 ..) ?_;exact gl
theorem SG {z:cs}{h:ai}{bR ar au:y}{Z:y->ai}{aE:y->y}{aa:y->B (y×y)}{K:y->y}{r:dl}{cJ:B y} :∀ {b:bW},(a7:g5 aa 60 [] (fH 0 12)=some (b,cJ))->(cm:∀ i<12,∀ p∈aa i,p.1<12)->(a9:eg r)->∀ {q:B (y×y)} {aZ:B (B (y×y))} {hx:a6×y} {f:hA} {p:y×y} {R:B (y×y)},(L:eI z.cb Z 0 12=p::R)->(ap:iY h aa (q::aZ) ⟨Z,eI z.cb Z 0 12,[],0,0,hx⟩ f)->(al:(q::aZ).length<999999)->
  ec w (some (r.map (·.1))) 11 (.call (.ref 924) ⟨[.ref z.s,.int h bR],[]⟩) none (bX w.params z ⟨.none,0,ar,0,au,Z,aE,aa,K⟩) [bP r] (λx=>.ok (.ret (.ref (x 2)))) (λx=>(bX w.params z ⟨.ref (x 5),f.aP,x 6,f.aO,x 7,f.Z,λk=>x (k+8),aa,K⟩).map (·.2))
   (λx=>[(x 2,di [.ref (x 3),.bool b]),(x 3,I (lr (λk=>x (k+25)) (q::aZ)) (x 4))]) (λx=>[bP (gC r (x 20)),lP (λk=>x (k+25)) (q::aZ)]) (λ_=>bZ)
 | false,a7,cm,a9,q,aZ,hx,f,p,R,L,ap,al=>SE a7 cm a9 L ap al
 | true,a7,cm,a9,q,aZ,hx,f,p,R,L,ap,al=>by refine ec.uX ?_;exact yL (Th w z h bR ar au Z aE aa K r cJ a7 cm a9 q aZ hx f p R L ap al) (λn t X a b=>hP [a,b,X 0 2,X 0 3,X 0 4,X 0 5,X 0 6,X 0 7,X 0 8,X 0 9,X 0 10,X 0 11,X 0 12,X 0 13,X 0 14,X 0 15,X 0 16,X 0 17,X 0 18,X 0 19,X 0 20+1,0,0,0,0] λk=>X 0 (k+25)) λn t X a b=>⟨by kernel_rfl,rfl,trivial⟩
end
section
noncomputable def lm (a:y) :B (y×y):=[(0,a),(1,a+1),(2,a+2),(3,a+3),(4,a+4),(5,a+5),(6,a+6),(7,a+7),(8,a+8),(9,a+9),(10,a+10),(11,a+11)]
theorem Lh:∀ {a k:y},k<12->(lm a)[k]? =some (k,a+k)
 | a,0,_=>rfl | a,1,_=>rfl | a,2,_=>rfl | a,3,_=>rfl | a,4,_=>rfl | a,5,_=>rfl | a,6,_=>rfl | a,7,_=>rfl | a,8,_=>rfl | a,9,_=>rfl | a,10,_=>rfl | a,11,_=>rfl
 | a,k+12,h=>absurd h (by omega)
section
variable (w:aG)
noncomputable def abw (n t:y) :bb w:=
  .bd [0] [1] 2 (.ret (.ok (.ret (.ref (n+1))))) [(1,{cls:=(.type "list"),data:=(.seq ⟨[.str (U [98,32,99]) t,.str (U []) (t+1),.str (U [105,116,39,115]) (t+2),.str (U [35]) (t+3),.str (U [122]) (t+4),.str (U [90]) (t+5),.str (U [49,48]) (t+6),.str (U [57]) (t+7),.str (U [97,61,98]) (t+8),.str (U [126]) (t+9),.str (U [45]) (t+10),.str (U [121,92]) (t+11)]⟩ 0)})]
theorem abx:b2 w 1 none ([]) (.call (.ref 914) ⟨[],[]⟩) (abw w):=c6
end
section
variable {w:aG}
theorem abk:b0 w 1 (.call (.ref 914) ⟨[],[]⟩) none [] (λx=>.ok (.ret (.ref (x 2)))) (λ_=>[]) (λx=>[(x 2,I ((lm (x 3)).map ad) 0)]) (λ_=>bZ):=by refine mf (abx w) ?_;intro n t a b;exact ⟨ca a b [n+1,t],rfl,rfl,by kernel_rfl,by kernel_rfl,rfl,trivial⟩
end
noncomputable def ry (w:aG) :cV w:=⟨1,_,none,_,_,_,_,_,abk (w:=w)⟩
noncomputable def vF (w:aG)(a b t:y)(i:ai)(k:y)(aF:i=(k:ai))(aV:k<12) :cV w:=ka w a 0 t i k ((lm b).map ad) (ad (k,b+k)) none aF (fh aV (by decide)) (by refine H (mL ..) (H (Lh aV ..) ?_);rfl)
noncomputable def ac0 (o:aK c5) :cT:=kP o 0
noncomputable def Gf:cT:=ac0 (ew 41).2.1[1]?
noncomputable abbrev afA:a6:=U uu
noncomputable abbrev Po (G bf:aM) :cE:={scope:=vH (uR Gf),locals:=bf,globals:=3,cells:=[],qual:=afA++".<locals>.",func:=none,code:=.ref 918,frame:=some G,builtins:=0}
noncomputable abbrev Pp (G J a3 bf:aM) :cn:=.compLoop Gf 0 (.ref J) (.ref a3) (Po G bf)
noncomputable abbrev Pn (G J a3 bf:aM) :cn:=.compStart Gf 0 (.ref J) (.ref a3) (Po G bf)
end
section
section
variable (w:aG)(G J a3 bf aT:y)(iC hK kE:ai)(hr aA bi M ab ae:y)(bG:iC=(M:ai))(az:hK=(ab:ai))(aJ:kE=(ae:ai))(eH:M<12)(eP:ab<12)(g8:ae<12)
noncomputable def afG (n t:y) :bb w:=
  .ax (aY 0x100441121111) [0,0,0,2] 0 (ry w) [] λah=>.ax [4,5,5,5,5] [0,2] 0 (vF w (ah 2) (ah 3) hr iC M bG eH) [4] λaN=>.ax E2 kL 0 (ry w) [] λbx=>.ax [4,6,6,6,6] [0,2] 0 (vF w (bx 2) (bx 3) aA hK ab az eP) [5] λcj=>.bd (aY 0x1811211113333) (aY 0x1000000) 2 (.ret (.ok .next)) [(0,{cls:=(.type "list_iterator"),data:=(.fields ⟨[.none,.int 2 0]⟩)}),(1,I [PySem.Value.int iC hr,PySem.Value.int hK aA] 0),(2,{cls:=(.type "list"),data:=(.seq ⟨[.str (ay M) (ah 3+M),.str (ay ab) (bx 3+ab)]⟩ 2)}),(3,{cls:=(.type "dict"),data:=(.dict ⟨[aj w.params E6 t (.int hK aA)]⟩ 1)})]
theorem afH:b2 w 2 none ([(J,b4 "list_iterator" aT 0),(aT,I [.int iC hr,.int hK aA] 0),(a3,I [] 0),(bf,iT)]) (Pp G J a3 bf) (afG w iC hK hr aA M ab bG az eH eP):=c6
noncomputable def afJ (n t:y) :bb w:=
  .ax (aY 0x100441121111) [0,0,0,2] 0 (ry w) [] λah=>.ax [4,5,5,5,5] [0,2] 0 (vF w (ah 2) (ah 3) hr iC M bG eH) [4] λaN=>.ax E2 kL 0 (ry w) [] λbx=>.ax [4,6,6,6,6] [0,2] 0 (vF w (bx 2) (bx 3) aA hK ab az eP) [5] λcj=>.ax E2 kL 0 (ry w) [] λcg=>.ax [4,7,7,7,7] [0,2] 0 (vF w (cg 2) (cg 3) bi kE ae aJ g8) [6] λfc=>.bd (aY 0x1911211113333) (aY 0x1000000) 2 (.ret (.ok .next)) [(0,{cls:=(.type "list_iterator"),data:=(.fields ⟨[.none,.int 3 0]⟩)}),(1,I [PySem.Value.int iC hr,PySem.Value.int hK aA,PySem.Value.int kE bi] 0),(2,{cls:=(.type "list"),data:=(.seq ⟨[.str (ay M) (ah 3+M),.str (ay ab) (bx 3+ab),.str (ay ae) (cg 3+ae)]⟩ 3)}),(3,{cls:=(.type "dict"),data:=(.dict ⟨[aj w.params E6 t (.int kE bi)]⟩ 1)})]
theorem afK:b2 w 2 none ([(J,b4 "list_iterator" aT 0),(aT,I [.int iC hr,.int hK aA,.int kE bi] 0),(a3,I [] 0),(bf,iT)]) (Pp G J a3 bf) (afJ w iC hK kE hr aA bi M ab ae bG az aJ eH eP g8):=c6
end
section
variable {w:aG}
theorem r2 {J aT k:y}{pre:B (aM×ao)}(aU:(J,b4 "list_iterator" aT k)∈pre)(A:c9)(s:aR)(Q:ag->aR->Prop)(E:ag->aR->Prop)(has:dX s.heap pre)(h:Q (.ref J) s) :wpAny (model aL w) A (q0 (.ref J)) Q E s:=
 afR (l:=aT) (i:=k) ⟨_,has _ aU,rfl,rfl⟩ h
noncomputable abbrev K1 (P:bp)(k:y)(i:ai)(t:y) :ao:={cls:=.type "dict",data:=.dict ⟨[aj P E6 k (.int i t)]⟩ 1}
theorem afI {G J a3 bf aT:y}{iC hK:ai}{hr aA M ab:y}(bG:iC=(M:ai))(az:hK=(ab:ai))(eH:M<12)(eP:ab<12) :
  b0 w 2 (Pn G J a3 bf) none [(J,b4 "list_iterator" aT 0),(aT,I [.int iC hr,.int hK aA] 0),(a3,I [] 0),(bf,iT)] (λ_=>.ok .next)
   (λx=>[ee "list_iterator" 2,I [.int iC hr,.int hK aA] 0,I ([(M,x 2),(ab,x 3)].map ad) 2,K1 w.params (x 4) hK aA]) (λ_=>[]) (λ_=>bZ):=by
 refine yB (by kernel_rfl) (r2 (aT:=aT) (k:=0) (cY ..)) ?_;exact dy (afH w G J a3 bf aT iC hK hr aA M ab bG az eH eP) (λn t X a b=>ca a b [X 0 3+M,X 2 3+ab,t]) λn t X a b=>⟨by kernel_rfl,rfl,trivial⟩
theorem afL {G J a3 bf aT:y}{iC hK kE:ai}{hr aA bi M ab ae:y}(bG:iC=(M:ai))(az:hK=(ab:ai))(aJ:kE=(ae:ai))(eH:M<12)(eP:ab<12)(g8:ae<12) :
  b0 w 2 (Pn G J a3 bf) none [(J,b4 "list_iterator" aT 0),(aT,I [.int iC hr,.int hK aA,.int kE bi] 0),(a3,I [] 0),(bf,iT)] (λ_=>.ok .next)
   (λx=>[ee "list_iterator" 3,I [.int iC hr,.int hK aA,.int kE bi] 0,I ([(M,x 2),(ab,x 3),(ae,x 4)].map ad) 3,K1 w.params (x 5) kE bi]) (λ_=>[]) (λ_=>bZ):=by
 refine yB (by kernel_rfl) (r2 (aT:=aT) (k:=0) (cY ..)) ?_;exact dy (afK w G J a3 bf aT iC hK kE hr aA bi M ab ae bG az aJ eH eP g8) (λn t X a b=>ca a b [X 0 3+M,X 2 3+ab,X 4 3+ae,t]) λn t X a b=>⟨by kernel_rfl,rfl,trivial⟩
end
noncomputable def R1 (w:aG)(G J a3 bf aT:y)(iC hK:ai)(hr aA M ab:y)(bG:iC=(M:ai))(az:hK=(ab:ai))(eH:M<12)(eP:ab<12) :cV w:=⟨2,_,none,_,_,_,_,_,afI (w:=w) (G:=G) (J:=J) (a3:=a3) (bf:=bf) (aT:=aT) (hr:=hr) (aA:=aA) bG az eH eP⟩
noncomputable def R2 (w:aG)(G J a3 bf aT:y)(iC hK kE:ai)(hr aA bi M ab ae:y)(bG:iC=(M:ai))(az:hK=(ab:ai))(aJ:kE=(ae:ai))(eH:M<12)(eP:ab<12)(g8:ae<12) :cV w:=⟨2,_,none,_,_,_,_,_,afL (w:=w) (G:=G) (J:=J) (a3:=a3) (bf:=bf) (aT:=aT) (hr:=hr) (aA:=aA) (bi:=bi) bG az aJ eH eP g8⟩
end
section
section
variable (w:aG)(x:ai)(am M ab ae:y)(aQ:((x.fdiv 64).fmod 2==1)=true)(bG:x.fmod 8=(M:ai))(az:(x.fdiv 8).fmod 8=(ab:ai))(aJ:(x.fdiv 8+3).fmod 8=(ae:ai))(eH:M<12)(eP:ab<12)(g8:ae<12)
noncomputable def afw (n t:y) :bb w:=
  .ax (aY 0x1111110) (aY 0x12000000000001) 2 (ov w ((x.fdiv 64).fmod 2) 1 (t+10) (t+11) true none aQ) [] λah=>.ax [1] [0,0,0,2] 0 (jN w (x.fdiv 8) 3 (x.fdiv 8+3) (ah 1+1) (ah 1+2) none rfl) [] λaN=>.ax (aY 0x154441113232232) kL 5 (R2 w n (aN 0+2) (aN 0+3) (aN 0+4) (aN 0+1) (x.fmod 8) ((x.fdiv 8).fmod 8) ((x.fdiv 8+3).fmod 8) (t+2) (t+6) (aN 1+1) M ab ae bG az aJ eH eP g8) [4,3,5,6] λbx=>.bd [7,7,7] [] 0 (.ret (.ok (.ret (.ref (aN 0+3))))) [(5,I (dF ad [(M,bx 2),(ab,bx 3),(ae,bx 4)]) 3)]
theorem afx:b2 w 3 none ([]) (.call (.ref 919) ⟨[.int x am],[]⟩) (afw w x M ab ae aQ bG az aJ eH eP g8):=by revert w;exact cX
end
section
variable (w:aG)(x:ai)(am M ab:y)(aQ:((x.fdiv 64).fmod 2==1)=false)(bG:x.fmod 8=(M:ai))(az:(x.fdiv 8).fmod 8=(ab:ai))(eH:M<12)(eP:ab<12)
noncomputable def afy (n t:y) :bb w:=
  .ax (aY 0x1111110) (aY 0x12000000000001) 2 (ov w ((x.fdiv 64).fmod 2) 1 (t+10) (t+11) false none aQ) [] λah=>.ax (aY 0x154441113232232) [0,0,0,0,2] 5 (R1 w n (ah 0+2) (ah 0+3) (ah 0+4) (ah 0+1) (x.fmod 8) ((x.fdiv 8).fmod 8) (t+2) (t+6) M ab bG az eH eP) [4,3,5,6] λaN=>.bd [7,7,7] [] 0 (.ret (.ok (.ret (.ref (ah 0+3))))) [(5,I (dF ad [(M,aN 2),(ab,aN 3)]) 2)]
theorem afz:b2 w 3 none ([]) (.call (.ref 919) ⟨[.int x am],[]⟩) (afy w x M ab aQ bG az eH eP):=by revert w;exact cX
end
noncomputable def gu (x:ai) :B y:=(x.fmod 8).toNat::((x.fdiv 8).fmod 8).toNat::(bif (x.fdiv 64).fmod 2==1 then [((x.fdiv 8+3).fmod 8).toNat] else [])
noncomputable def fa:B y->(y->y)->B (y×y)
 | [],_=>[]
 | k::r,f=>(k,f 0)::fa r λj=>f (j+1)
theorem qw (as:ai) :as.fmod 8=((as.fmod 8).toNat:ai)/\(as.fmod 8).toNat<8:=by have bG:0<=as.fmod 8:=P4 as (by decide);have az:as.fmod 8<8:=P2 as (by decide);exact ⟨(Int.toNat_of_nonneg bG).symm,by omega⟩
theorem KM {x:ai} :∀ k∈gu x,k<8:=by
 intro k aV;unfold gu at aV;rcases dx.mp aV with rfl | aV
 ·exact (qw x).2
 rcases dx.mp aV with rfl | aV
 ·exact (qw _).2
 induction aQ:(x.fdiv 64).fmod 2==1 with
 | true=>
  rw [aQ] at aV;rcases dx.mp aV with rfl | aV
  ·exact (qw _).2
  ·exact (c4 aV).elim
 | false=>rw [aQ] at aV;exact (c4 aV).elim
section
variable {w:aG}
theorem afO {x:ai}{am:y} :b0 w 3 (.call (.ref 919) ⟨[.int x am],[]⟩) none [] (λas=>.ok (.ret (.ref (as 2)))) (λ_=>[]) (λas=>[(as 2,I ((fa (gu x) λj=>as (j+3)).map ad) (gu x).length)]) (λ_=>bZ):=by
 have a:=qw x;have b:=qw (x.fdiv 8);have c:=qw (x.fdiv 8+3)
 induction aQ:(x.fdiv 64).fmod 2==1 with
 | true=>
  have aV:gu x=[(x.fmod 8).toNat,((x.fdiv 8).fmod 8).toNat,((x.fdiv 8+3).fmod 8).toNat]:=by unfold gu;refine H aQ ?_;rfl
  refine H aV ?_;refine dy (afx w x am _ _ _ aQ a.1 b.1 c.1 (fh a.2 (by decide)) (fh b.2 (by decide)) (fh c.2 (by decide))) (λn t X u v=>ca u v [X 1 0+3,X 2 2,X 2 3,X 2 4]) λn t X u v=>⟨by kernel_rfl,rfl,trivial⟩
 | false=>
  have aV:gu x=[(x.fmod 8).toNat,((x.fdiv 8).fmod 8).toNat]:=by unfold gu;refine H aQ ?_;rfl
  refine H aV ?_;refine dy (afz w x am _ _ aQ a.1 b.1 (fh a.2 (by decide)) (fh b.2 (by decide))) (λn t X u v=>ca u v [X 0 0+3,X 1 2,X 1 3]) λn t X u v=>⟨by kernel_rfl,rfl,trivial⟩
end
noncomputable def H2 (w:aG)(x:ai)(am:y) :cV w:=⟨3,_,none,_,_,_,_,_,afO (w:=w) (x:=x) (am:=am)⟩
noncomputable abbrev Eu:a6:=U un
noncomputable abbrev ek (G:aM) :cE:=mT (ew 44) Eu 934 933 G
noncomputable def Ga:aK c5->cT
 | some (.Assign _ e _)=>e
 | _=>default
noncomputable def Ep:cT:=Ga (ew 44).2.1[0]?
noncomputable abbrev Lb (G bf:aM) :cE:={scope:=vH (uR Ep),locals:=bf,globals:=3,cells:=[],qual:=Eu++".<locals>.",func:=none,code:=.ref 933,frame:=some G,builtins:=0}
noncomputable abbrev tZ (G J a3 bf:aM) :cn:=.compLoop Ep 0 (.ref J) (.ref a3) (Lb G bf)
noncomputable abbrev aau (G J a3 bf:aM) :cn:=.compStart Ep 0 (.ref J) (.ref a3) (Lb G bf)
noncomputable abbrev tX (P:bp)(k:y)(i:ai)(t:y) :ao:={cls:=.type "dict",data:=.dict ⟨[aj P [120] k (.int i t)]⟩ 1}
end
section
section
variable (w:aG)(G J a3 bf aT k cO cb b9:y)(va:ai)(l:B ag)(x:ai)(am:y)(a8:B ag)(bc:l[k]? =some (.int x am))(cM:a8.length<1000000)
noncomputable def ZW (n t:y) :bb w:=
  .ax [1,1] [0,0,2] 0 (jO w J aT 0 k l (.int x am) none bc) [0,1] λah=>.ax [4,4,0,4,0] [2] 0 (H2 w x am) [] λaN=>.ax [3] [0,2] 0 (hS w a3 cO a8 (a8++[PySem.Value.ref (aN 2)]) (.ref (aN 2)) none cM rfl) [2] λbx=>.bd [] [3] 0 (.dr (tZ G J a3 bf)) [(0,b4 "list_iterator" aT (k+1)),(1,ht "list" l 0),(2,I (a8++[PySem.Value.ref (aN 2)]) (cO+1)),(3,{cls:=(.type "dict"),data:=(.dict ⟨[aj w.params [120] (ah 1) (.int x am)]⟩ 1)}),(4,(I (dF ad (fa (gu x) λj=>aN (j+3))) (gu x).length))]
theorem ZX:b2 w 4 none ([(J,b4 "list_iterator" aT k),(aT,I l 0),(a3,I a8 cO),(bf,iT)]) (tZ G J a3 bf) (ZW w G J a3 bf aT k cO l x am a8 bc cM):=c6
noncomputable def ZY (n t:y) :bb w:=
  .ax [1,1] [0,0,2] 0 (jO w J aT 0 k l (.int x am) none bc) [0,1] λah=>.ax [4,4,0,4,0] [2] 0 (H2 w x am) [] λaN=>.ax [3] [0,2] 0 (hS w a3 cO a8 (a8++[PySem.Value.ref (aN 2)]) (.ref (aN 2)) none cM rfl) [2] λbx=>.bd [] [3] 0 (.dr (tZ G J a3 bf)) [(0,b4 "list_iterator" aT (k+1)),(1,ht "list" l 0),(2,I (a8++[PySem.Value.ref (aN 2)]) (cO+1)),(3,{cls:=(.type "dict"),data:=(.dict ⟨[aj w.params [120] cb (.int x am)]⟩ 1)}),(4,(I (dF ad (fa (gu x) λj=>aN (j+3))) (gu x).length))]
theorem ZZ:b2 w 4 none ([(J,b4 "list_iterator" aT k),(aT,I l 0),(a3,I a8 cO),(bf,tX w.params cb va b9)]) (tZ G J a3 bf) (ZY w G J a3 bf aT k cO cb l x am a8 bc cM):=c6
section
variable (bc:l.length=k)
noncomputable def Z0 (n t:y) :bb w:=
  .ax [1,1] [0,0,2] 0 (nC w J aT 0 k l bc) [0,1] λah=>.bd [5] [] 0 (.ret (.ok .next)) [(0,ee "list_iterator" k),(1,ht "list" l 0),(2,I a8 cO),(3,tX w.params cb va b9)]
theorem Z1:b2 w 4 none ([(J,b4 "list_iterator" aT k),(aT,I l 0),(a3,I a8 cO),(bf,tX w.params cb va b9)]) (tZ G J a3 bf) (Z0 w J aT k cO cb b9 va l a8 bc):=c6
end
end
noncomputable def fJ:B ai->(y->y)->B (aM×B (y×y))
 | [],_=>[]
 | x::r,f=>(f 0,fa (gu x) λj=>f (j+1))::fJ r λk=>f (k+4)
noncomputable def g0 (q:aM×B (y×y)) :aM×ao:=(q.1,I (q.2.map ad) q.2.length)
noncomputable def tV (l:B ai)(f:y->y) :B (aM×ao):=(fJ l f).map g0
noncomputable def zB (l:B ai)(f:y->y) :B ag:=(fJ l f).map λq=>.ref q.1
theorem AE:∀ {li:B y} {f aI:y->y},(∀ j<li.length,f j=aI j)->fa li f=fa li aI
 | [],_,_,_=>rfl
 | k::r,f,aI,h=>by show (k,f 0)::fa r _ =(k,aI 0)::fa r _;exact H (h 0 (Bn _) ..) (H (AE (f:=λj=>f (j+1)) (aI:=λj=>aI (j+1)) λj dB=>h (j+1) (Nat.succ_lt_succ dB) ..) rfl)
theorem sI:∀ {li:B y} {f:y->y},(fa li f).length=li.length
 | [],_=>rfl
 | k::r,f=>fV Nat.succ (sI (li:=r))
theorem Zu (x:ai) :(gu x).length<=3:=by unfold gu;rcases ((x.fdiv 64).fmod 2==1) with _ | _ <;> simp
noncomputable def pE (x:y->y)(a:y)(f:y->y) :y->y:=hP [x 0,x 1,x 2,a,f 0,f 1,f 2] λk=>x (k+3)
theorem zA (i:ai)(r:B ai)(x:y->y)(a:y)(f:y->y) :(a,fa (gu i) f)::fJ r (λk=>x (k+3))=fJ (i::r) λk=>pE x a f (k+3):=by
 show _ =(a,fa (gu i) λj=>pE x a f (j+1+3))::fJ r λk=>x (k+3);rw [AE (f:=f) (aI:=λj=>pE x a f (j+1+3))];intro j dB;have:=Zu i
 match j,dB with
 | 0,_=>rfl
 | 1,_=>rfl
 | 2,_=>rfl
 | j+3,h=>lia
noncomputable def zv (p:ai×y)(R:B (ai×y)) :ai×y:=R.foldl (λ_ q=>q) p
noncomputable def fZ (p:ai×y) :ag:=.int p.1 p.2
section
variable {w:aG}
theorem K0 {G J a3 bf aT cb:y}{l:B ag} :∀ (R:B (ai×y)) (k cO:y) (p:ai×y) (a8:B ag),l.drop k=R.map fZ->k+R.length=l.length->a8.length+R.length<1000000->
  b0 w 4 (tZ G J a3 bf) none [(J,b4 "list_iterator" aT k),(aT,I l 0),(a3,I a8 cO),(bf,tX w.params cb p.1 p.2)] (λ_=>.ok .next)
   (λas=>[ee "list_iterator" l.length,I l 0,I (a8++zB (R.map (·.1)) λk=>as (k+3)) (cO+R.length),tX w.params cb (zv p R).1 (zv p R).2]) (λas=>tV (R.map (·.1)) λk=>as (k+3)) (λ_=>bZ)
 | [],k,cO,p,a8,h,aV,al=>by have e:l.length=k:=aV.symm;refine mf (Z1 w G J a3 bf aT k cO cb p.2 p.1 l a8 e) ?_;intro n t ah _ a b;subst e;refine ⟨ca a b [],rfl,rfl,rfl,?_,rfl,trivial⟩;show _ =d4 _ [_,_,I (a8++[]) _,_]++_;rw [d9];kernel_rfl
 | q::R,k,cO,p,a8,h,aV,al=>by
  rw [ed] at aV al;have bc:l[k]? =some (.int q.1 q.2):=by
   have:(l.drop k)[0]? =some (fZ q):=by refine H h ?_;rfl
   rwa [o9] at this
  have ap:l.drop (k+1)=R.map fZ:=by refine df (om ..) (H h ?_);rfl
  refine rM (ZZ w G J a3 bf aT k cO cb p.2 p.1 l q.1 q.2 a8 bc (by lia)) ?_;intro n t ah _ aN _ bx _;refine ⟨_,[(aN 2,I ((fa (gu q.1) λj=>aN (j+3)).map ad) (gu q.1).length)],_,_,_,_,?_,K0 (aT:=aT) (cb:=cb) R (k+1) (cO+1) q (a8++[.ref (aN 2)]) ap (by lia) (by refine H (ea ..) (H (ig ..) ?_);lia),λx _=>⟨pE x (aN 2) (λj=>aN (j+3)),rfl,rfl,rfl,?_,?_,trivial⟩⟩
  ·kernel_rfl
  ·have e:=zA q.1 (R.map (·.1)) x (aN 2) (λj=>aN (j+3))
   show [_,_,I (a8++[Value.ref (aN 2)]++_) (cO+1+R.length),_]=[_,_,I (a8++dF (λq=>Value.ref q.1) (fJ (q.1::R.map (·.1)) λk=>pE x (aN 2) (λj=>aN (j+3)) (k+3))) (cO+(R.length+1)),_];refine df e (H (f9 ..) (H (show cO+1+R.length=cO+(R.length+1) by lia) ?_));rfl
  ·have e:=zA q.1 (R.map (·.1)) x (aN 2) (λj=>aN (j+3))
   unfold tV;show _ =((fJ (q.1::R.map (·.1)) λk=>pE x (aN 2) (λj=>aN (j+3)) (k+3)).map g0);refine df e (H (hd ..) ?_);show _ =(aN 2,I _ (fa _ _).length)::_;refine H (sI ..) ?_;rfl
noncomputable def zl (x:y->y)(k a:y)(f:y->y) :y->y:=hP [x 0,x 1,k,a,f 0,f 1,f 2] λk=>x (k+3)
theorem ZV {G J a3 bf aT:y}{l:B ag}{q:ai×y}{R:B (ai×y)}(h:l=(q::R).map fZ)(al:R.length<999999) :
  b0 w 4 (aau G J a3 bf) none [(J,b4 "list_iterator" aT 0),(aT,I l 0),(a3,I [] 0),(bf,iT)] (λ_=>.ok .next)
   (λas=>[ee "list_iterator" l.length,I l 0,I (zB ((q::R).map (·.1)) λk=>as (k+3)) (R.length+1),tX w.params (as 2) (zv q R).1 (zv q R).2]) (λas=>tV ((q::R).map (·.1)) λk=>as (k+3)) (λ_=>bZ):=by
 refine yB (by kernel_rfl) (r2 (aT:=aT) (k:=0) (cY ..)) ?_;have bc:l[0]? =some (.int q.1 q.2):=by refine H h ?_;rfl
 have ap:l.drop 1=R.map fZ:=by refine H h ?_;rfl
 have bK:1+R.length=l.length:=by refine H h (H (de ..) (H (ed ..) ?_));lia
 refine rM (ZX w G J a3 bf aT 0 0 l q.1 q.2 [] bc (by decide)) ?_;intro n t ah _ aN _ bx _;refine ⟨_,[(aN 2,I ((fa (gu q.1) λj=>aN (j+3)).map ad) (gu q.1).length)],_,_,_,_,?_,K0 (aT:=aT) (cb:=ah 1) R 1 1 q [.ref (aN 2)] ap bK (by refine H (ig ..) ?_;lia),λx _=>⟨zl x (ah 1) (aN 2) (λj=>aN (j+3)),rfl,rfl,rfl,?_,?_,trivial⟩⟩
 ·kernel_rfl
 ·have e:=zA q.1 (R.map (·.1)) x (aN 2) (λj=>aN (j+3))
  have ev:(fJ (q.1::R.map (·.1)) λk=>zl x (ah 1) (aN 2) (λj=>aN (j+3)) (k+3))=(fJ (q.1::R.map (·.1)) λk=>pE x (aN 2) (λj=>aN (j+3)) (k+3)):=rfl;show [_,_,I ([Value.ref (aN 2)]++_) (1+R.length),_]=[_,_,I (dF (λq=>Value.ref q.1) (fJ (q.1::R.map (·.1)) λk=>zl x (ah 1) (aN 2) (λj=>aN (j+3)) (k+3))) (R.length+1),_];refine H ev (df e (H (show 1+R.length=R.length+1 by lia) ?_));rfl
 ·have e:=zA q.1 (R.map (·.1)) x (aN 2) (λj=>aN (j+3))
  unfold tV;show _ =((fJ (q.1::R.map (·.1)) λk=>pE x (aN 2) (λj=>aN (j+3)) (k+3)).map g0);refine df e (H (hd ..) ?_);show _ =(aN 2,I _ (fa _ _).length)::_;refine H (sI ..) ?_;rfl
end
noncomputable def Ry (w:aG)(G J a3 bf aT:y)(l:B ag)(q:ai×y)(R:B (ai×y))(h:l=(q::R).map fZ)(al:R.length<999999) :hy w:=ec.mk (ZV (w:=w) (G:=G) (J:=J) (a3:=a3) (bf:=bf) (aT:=aT) h al).Pa
end
section
variable {w:aG}
theorem ec.EC {dg:aK (B cE)}{bj:y}{code:cn}{ap:aK ag}{pre:B (aM×ao)}{bB:(y->y)->cD}{cB:(y->y)->B ao}{bV:(y->y)->B (aM×ao)}{gr nB:(y->y)->B bN}{cond:(y->y)->Prop}(h:ec w dg bj code ap pre [bP []] bB cB bV gr cond)(aQ:∀ x,(gr x).flatten=(nB x).flatten) :ec w dg bj code ap pre [] bB cB bV nB cond:=λA s aS has bU=>by
 refine gR (h A s aS has bU) ?_;rintro r an ⟨x,az,aJ,bg,cS,dI⟩;refine ⟨x,az,aJ,bg,cS,⟨dI.len,?_,?_,?_,dI.eD⟩⟩
 ·refine df (aQ ..) ?_;exact dI.has
 ·refine df (aQ ..) ?_;exact dI.e8
 ·refine df (aQ ..) ?_;exact dI.fresh
noncomputable abbrev k9 (aC:B f8)(K:y)(bq:cp (aK ag)) :ao:={cls:=.type "frame",data:=.dict ⟨aC⟩ K,slots:=bq}
noncomputable abbrev lY (e:cE)(k:y) :cp (aK ag):=(kQ e (yn k) (eM [] 0)).slots
theorem B4 {aC:B f8}{K:y}{f:aM}{bq:cp (aK ag)} :eg [(ek f,f,k9 aC K bq)]:=by intro c aX;rcases dN.mp aX with rfl;exact ⟨⟨rfl,by kernel_rfl,by kernel_rfl⟩,rfl⟩
theorem aaX {f:aM}{aC:B f8}{K:y}(c:y) :[bP (eR c [(ek f,f,eM aC K)])].flatten=(f,k9 aC K (lY (ek f) c))::([] :B bN).flatten:=by kernel_rfl
theorem aaY {f:aM}{aC:B f8}{K k:y}(c:y) :[bP (eR c [(ek f,f,k9 aC K (lY (ek f) k))])].flatten=(f,k9 aC K (lY (ek f) k))::([] :B bN).flatten:=by kernel_rfl
noncomputable def RT (w:aG)(af:B y)(db m:y)(toks:B (B y))(f:y)(aC:B f8)(K:y)(bM:af.length<1000000)(h:iD m af=some toks)(aU:m<1000) :hy w:=
 ec.mk (((OO (w:=w) (db:=db) (ch:=[(ek f,f,eM aC K)]) B4 bM h aU).xK (o':=λx=>k9 aC K (lY (ek f) (x 4))) (nB:=λ_=>[]) λx=>aaX (x 4)).EC (nB:=λ_=>[]) λ_=>rfl)
noncomputable def B3 (w:aG)(af:B y)(db m:y)(toks:B (B y))(f k:y)(aC:B f8)(K:y)(bM:af.length<1000000)(h:iD m af=some toks)(aU:m<1000) :hy w:=
 ec.mk (((OO (w:=w) (db:=db) (ch:=[(ek f,f,k9 aC K (lY (ek f) k))]) B4 bM h aU).xK (o':=λx=>k9 aC K (lY (ek f) k)) (nB:=λ_=>[]) λx=>aaY (x 4)).EC (nB:=λ_=>[]) λ_=>rfl)
theorem aaZ {f:aM}{aC:B f8}{K k:y} :∀ (c:y) (b:bN),[bP (gC [(ek f,f,k9 aC K (lY (ek f) k))] c),b].flatten=(f,k9 aC K (lY (ek f) k))::([b] :B bN).flatten
 | 0,b=>rfl
 | c+1,b=>by kernel_rfl
noncomputable def Rh (w:aG)(z:cs)(h:ai)(bR ar au:y)(Z:y->ai)(aE:y->y)(aa:y->B (y×y))(K:y->y)(gk k:y)(aC:B f8)(g3:y)(cJ:B y)(b:bW)(a7:g5 aa 60 [] (fH 0 12)=some (b,cJ))(cm:∀ i<12,∀ p∈aa i,p.1<12)(q:B (y×y))(aZ:B (B (y×y)))(hx:a6×y)(f:hA)(p:y×y)(R:B (y×y))(L:eI z.cb Z 0 12=p::R)(ap:iY h aa (q::aZ) ⟨Z,eI z.cb Z 0 12,[],0,0,hx⟩ f)(al:(q::aZ).length<999999) :hy w:=
 ec.mk (((SG (w:=w) (z:=z) (h:=h) (bR:=bR) (ar:=ar) (au:=au) (Z:=Z) (aE:=aE) (aa:=aa) (K:=K) (r:=[(ek gk,gk,k9 aC g3 (lY (ek gk) k))]) a7 cm B4 L ap al).xK (o':=λx=>k9 aC g3 (lY (ek gk) k)) (nB:=λx=>[lP (λk=>x (k+25)) (q::aZ)]) λx=>aaZ (x 20) _).EC (nB:=λx=>[lP (λk=>x (k+25)) (q::aZ)]) λ_=>rfl)
noncomputable def agE (S:B ai) :B ai:=S.take 6++[11,42,71]
end
section
variable {w:aG}
theorem s5 (n:y) :(lA n).all (λ_=>true)=true:=x1.mpr λ_ _=>rfl
theorem Cv {A:c9}{s:aR}{cZ eZ:B (y×y)}(h:cZ.map (·.1)=eZ.map (·.1))(j:y)(az:j<(⟨cZ.map ad⟩ :cp ag).size)(aJ:j<(⟨eZ.map ad⟩ :cp ag).size) :Hn A s (⟨cZ.map ad⟩ :cp ag)[j] (⟨eZ.map ad⟩ :cp ag)[j] true:=by
 have ab:j<cZ.length:=by simpa using az
 have ae:j<eZ.length:=by simpa using aJ
 have e:(cZ[j]).1=(eZ[j]).1:=by
  have a1:(cZ.map (·.1))[j]? =some (cZ[j]).1:=by refine H (mL ..) (H (nr ab ..) ?_);rfl
  have a2:(eZ.map (·.1))[j]? =some (eZ[j]).1:=by refine H (mL ..) (H (nr ae ..) ?_);rfl
  rw [h,a2] at a1;exact (x9 a1).symm
 have fB:(⟨cZ.map ad⟩ :cp ag)[j]= .str (ay (cZ[j]).1) (cZ[j]).2:=by simp
 have im:(⟨eZ.map ad⟩ :cp ag)[j]= .str (ay (eZ[j]).1) (eZ[j]).2:=by simp
 refine H fB (H im (H e ?_));have:=(SeqRoads2.EqGives.str (ay (eZ[j]).1) (ay (eZ[j]).1) (cZ[j]).2 (eZ[j]).2).at A s;rwa [BP] at this
end
theorem QK {w:aG}{s bs aw M ab ae ak ar au K am:y}{aC:B fG}{x:a6}(bu:ef aC x=none)(al:aC.length<1000) :
  b0 w 3 (.call (.ref 138) ⟨[.ref s,.str x am],[]⟩) none [(s,el bs),(bs,en w.params M ab ae ak aw .none 0 ar 0 au),(aw,bT w.params aC K)] (λ_=>.ok (.ret .none))
   (λas=>[el bs,en w.params M ab ae ak aw .none 0 ar 0 au,bT w.params (aC++[(x,am,.ref (as 2))]) (K+1)]) (λas=>[(as 2,fP x am 0 (as 3) (as 4) (as 5)),(as 5,I [] 0)]) (λ_=>bZ):=by
 exact dy (QJ w s bs aw M ab ae ak ar au K am aC x bu (by refine H bu ?_;rfl) al) (λn t X a b=>ca a b [X 0 0+1,X 1 1+5,X 0 0,X 0 0+3]) λn t X a b=>⟨by kernel_rfl,rfl,trivial⟩
noncomputable def HM (w:aG)(s bs aw M ab ae ak ar au K am:y)(aC:B fG)(x:a6)(bu:ef aC x=none)(al:aC.length<1000) :cV w:=⟨3,_,none,_,_,_,_,_,QK (w:=w) (s:=s) (bs:=bs) (aw:=aw) (M:=M) (ab:=ab) (ae:=ae) (ak:=ak) (ar:=ar) (au:=au) (K:=K) (am:=am) bu al⟩
noncomputable def FP:=pu (ew 44).2.1[2]?
noncomputable abbrev sD (G J:aM) :cn:=.forLoop FP.1 (.ref J) FP.2.2.1 FP.2.2.2 (ek G)
structure gx where
 (G dE d2 s M ab ae:y)
noncomputable abbrev r7 (P:bp)(D:gx) :B f8:=[aj P z2 D.M (.ref D.dE),aj P w0 D.ab (.ref D.d2),aj P so D.ae (.ref D.s)]
noncomputable abbrev Ld (P:bp)(D:gx) :ao:=eM (r7 P D) 3
noncomputable abbrev oQ (P:bp)(D:gx)(ak:y)(p:y×y) :ao:=eM (r7 P D++[aj P nY ak (ad p)]) 4
section
section
variable (w:aG)(D:gx)(ak:y)(p:y×y)(bs aw fo fD eF fO ar au K J aT k bw i a:y)(aC:B fG)(l:B ag)(bc:l[k]? =some (ad (i,a)))(bu:ef aC (ay i)=none)(al:aC.length<1000)
noncomputable def aeo (n t:y) :bb w:=
  .ax [2,2] [0,0,2] 0 (jO w J aT bw k l (.str (ay i) a) none bc) [1,2] λah=>.ax (aY 0x101540000400040004111) [2] 0 (HM w D.s bs aw fo fD eF fO ar au K a aC (ay i) bu al) [3,4,5] λaN=>.bd [] [3] 0 (.dr (sD D.G J)) [(0,{cls:=(.type "frame"),data:=(.dict ⟨[aj w.params z2 D.M (.ref D.dE),aj w.params w0 D.ab (.ref D.d2),aj w.params so D.ae (.ref D.s),aj w.params nY (ah 1) (.str (ay i) a)]⟩ 4)}),(1,b4 "list_iterator" aT (k+1)),(2,ht "list" l bw),(3,el bs),(4,en w.params fo fD eF fO aw PySem.Value.none 0 ar 0 au),(5,bT w.params (aC++[(ay i,a,PySem.Value.ref (aN 2))]) (K+1)),(6,fP (ay i) a 0 (aN 3) (aN 4) (aN 5)),(7,I [] 0)]
theorem aep:b2 w 4 none ([(D.G,Ld w.params D),(J,b4 "list_iterator" aT k),(aT,I l bw),(D.s,el bs),(bs,en w.params fo fD eF fO aw .none 0 ar 0 au),(aw,bT w.params aC K)]) (sD D.G J) (aeo w D bs aw fo fD eF fO ar au K J aT k bw i a aC l bc bu al):=c6
noncomputable def aeq (n t:y) :bb w:=
  .ax [2,2] [0,0,2] 0 (jO w J aT bw k l (.str (ay i) a) none bc) [1,2] λah=>.ax (aY 0x101540000400040004111) [2] 0 (HM w D.s bs aw fo fD eF fO ar au K a aC (ay i) bu al) [3,4,5] λaN=>.bd [] [3] 0 (.dr (sD D.G J)) [(0,{cls:=(.type "frame"),data:=(.dict ⟨[aj w.params z2 D.M (.ref D.dE),aj w.params w0 D.ab (.ref D.d2),aj w.params so D.ae (.ref D.s),aj w.params nY ak (.str (ay i) a)]⟩ 4)}),(1,b4 "list_iterator" aT (k+1)),(2,ht "list" l bw),(3,el bs),(4,en w.params fo fD eF fO aw PySem.Value.none 0 ar 0 au),(5,bT w.params (aC++[(ay i,a,PySem.Value.ref (aN 2))]) (K+1)),(6,fP (ay i) a 0 (aN 3) (aN 4) (aN 5)),(7,I [] 0)]
theorem aer:b2 w 4 none ([(D.G,oQ w.params D ak p),(J,b4 "list_iterator" aT k),(aT,I l bw),(D.s,el bs),(bs,en w.params fo fD eF fO aw .none 0 ar 0 au),(aw,bT w.params aC K)]) (sD D.G J) (aeq w D ak bs aw fo fD eF fO ar au K J aT k bw i a aC l bc bu al):=c6
section
variable (bc:l.length=k)
noncomputable def aes (n t:y) :bb w:=
  .ax [2,2] [0,0,2] 0 (nC w J aT bw k l bc) [1,2] λah=>.bd [7] [0] 0 (.ret (.ok .next)) [(0,oQ w.params D ak p),(1,ee "list_iterator" k),(2,ht "list" l bw),(3,el bs),(4,en w.params fo fD eF fO aw PySem.Value.none 0 ar 0 au),(5,bT w.params aC K)]
theorem aet:b2 w 4 none ([(D.G,oQ w.params D ak p),(J,b4 "list_iterator" aT k),(aT,I l bw),(D.s,el bs),(bs,en w.params fo fD eF fO aw .none 0 ar 0 au),(aw,bT w.params aC K)]) (sD D.G J) (aes w D ak p bs aw fo fD eF fO ar au K J aT k bw aC l bc):=c6
end
end
theorem abv:∀ i<12,∀ j<i,(ay j==ay i)=false:=by decide+kernel
noncomputable def Cu (a:y) :y->y->(y->y)->B fG
 | _,0,_=>[]
 | i,m+1,f=>(ay i,a+i,.ref (f 0))::Cu a (i+1) m λk=>f (k+4)
noncomputable def EE (a:y) :y->y->(y->y)->B (aM×ao)
 | _,0,_=>[]
 | i,m+1,f=>(f 0,fP (ay i) (a+i) 0 (f 1) (f 2) (f 3))::(f 3,I [] 0)::EE a (i+1) m λk=>f (k+4)
noncomputable def zw (a:y)(p:y×y) :y->y×y
 | 0=>p
 | _ +1=>(11,a+11)
theorem aaa {aC:B fG}{i:y}(aF:i<12)(h:∀ e∈aC,∃ j<i,e.1=ay j) :ef aC (ay i)=none:=by
 unfold ef;rw [A8.mpr]
 ·rfl
 ·intro e he
  obtain ⟨j,dB,a5⟩:=h e he;refine H a5 (H (abv i aF j dB ..) ?_);exact xV
theorem JB {aC:B fG}{i a b:y}(h:∀ e∈aC,∃ j<i,e.1=ay j) :∀ e∈aC++[(ay i,a,Value.ref b)],∃ j<i+1,e.1=ay j:=by
 intro e he;rcases dU.mp he with he | he
 ·obtain ⟨j,dB,a5⟩:=h e he
  exact ⟨j,Bl dB,a5⟩
 ·rcases dN.mp he with rfl
  exact ⟨i,pd i,rfl⟩
theorem Li {a i:y}(h:i<12) :((lm a).map ad)[i]? =some (ad (i,a+i)):=by refine H (mL ..) (H (Lh h ..) ?_);rfl
section
variable {w:aG}
theorem OK {D:gx}{ak bs aw fo fD eF fO ar au J aT bw a:y} :∀ (m i K:y) (p:y×y) (aC:B fG),i+m=12->aC.length=i->(∀ e∈aC,∃ j<i,e.1=ay j)->
  b0 w 4 (sD D.G J) none [(D.G,oQ w.params D ak p),(J,b4 "list_iterator" aT i),(aT,I ((lm a).map ad) bw),(D.s,el bs),(bs,en w.params fo fD eF fO aw .none 0 ar 0 au),(aw,bT w.params aC K)] (λ_=>.ok .next)
   (λas=>[oQ w.params D ak (zw a p m),ee "list_iterator" 12,I ((lm a).map ad) bw,el bs,en w.params fo fD eF fO aw .none 0 ar 0 au,bT w.params (aC++Cu a i m λk=>as (k+3)) (K+m)]) (λas=>EE a i m λk=>as (k+3)) (λ_=>bZ)
 | 0,i,K,p,aC,aF,al,a7=>by have aF:i=12:=aF;subst aF;refine mf (aet w D ak p bs aw fo fD eF fO ar au K J aT 12 bw aC ((lm a).map ad) rfl) ?_;intro n t ah _ u v;refine ⟨ca u v [],rfl,rfl,rfl,?_,rfl,trivial⟩;show _ =d4 _ [_,_,_,_,_,bT w.params (aC++[]) K]++_;rw [d9];kernel_rfl
 | m+1,i,K,p,aC,aF,al,a7=>by
  have g6:i<12:=by omega
  refine rM (aer w D ak p bs aw fo fD eF fO ar au K J aT i bw i (a+i) aC ((lm a).map ad) (Li g6) (aaa g6 a7) (by omega)) ?_;intro n t ah _ aN _;refine ⟨_,[(aN 2,fP (ay i) (a+i) 0 (aN 3) (aN 4) (aN 5)),(aN 5,I [] 0)],_,_,_,_,?_,OK (ak:=ak) (bs:=bs) (aw:=aw) (fo:=fo) (fD:=fD) (eF:=eF) (fO:=fO) (ar:=ar) (au:=au) (aT:=aT) (bw:=bw) (a:=a) m (i+1) (K+1) (i,a+i) (aC++[(ay i,a+i,.ref (aN 2))]) (by omega) (by refine H (ea ..) (H al ?_);rfl) (JB a7),λx _=>⟨pE x (aN 2) (λj=>aN (j+3)),rfl,rfl,rfl,?_,rfl,trivial⟩⟩
  ·kernel_rfl
  ·have e:zw a (i,a+i) m=zw a p (m+1):=by
    induction m with
    | zero=>
     have:i=11:=by omega
     subst this;rfl
    | succ m=>rfl
   show [oQ w.params D ak (zw a (i,a+i) m),_,_,_,_,bT w.params (aC++[(ay i,a+i,Value.ref (aN 2))]++_) (K+1+m)]=_;refine H e (H (f9 ..) (H (show K+1+m=K+(m+1) by omega) ?_));rfl
theorem aeu {D:gx}{bs aw fo fD eF fO ar au J aT bw a:y} :
  b0 w 4 (sD D.G J) none [(D.G,Ld w.params D),(J,b4 "list_iterator" aT 0),(aT,I ((lm a).map ad) bw),(D.s,el bs),(bs,en w.params fo fD eF fO aw .none 0 ar 0 au),(aw,bT w.params [] 0)] (λ_=>.ok .next)
   (λas=>[oQ w.params D (as 2) (11,a+11),ee "list_iterator" 12,I ((lm a).map ad) bw,el bs,en w.params fo fD eF fO aw .none 0 ar 0 au,bT w.params (Cu a 0 12 λk=>as (k+3)) 12]) (λas=>EE a 0 12 λk=>as (k+3)) (λ_=>bZ):=by
 exact rN (aep w D bs aw fo fD eF fO ar au 0 J aT 0 bw 0 (a+0) [] ((lm a).map ad) (Li (by decide)) rfl (by decide)) (bH:=λn t X=>[(X 1 2,fP (ay 0) (a+0) 0 (X 1 3) (X 1 4) (X 1 5)),(X 1 5,I [] 0)]) (by intro n t X;kernel_rfl) (λn t X=>OK (ak:=X 0 1) (bs:=bs) (aw:=aw) (fo:=fo) (fD:=fD) (eF:=eF) (fO:=fO) (ar:=ar) (au:=au) (aT:=aT) (bw:=bw) (a:=a) 11 1 1 (0,a+0) [(ay 0,a+0,.ref (X 1 2))] rfl rfl (JB (aC:=[]) λ_ h=>(c4 h).elim)) (λn t X x=>zl x (X 0 1) (X 1 2) (λj=>X 1 (j+3))) λn t X x _=>⟨rfl,rfl,rfl,rfl,rfl,trivial⟩
end
noncomputable def RR (w:aG)(D:gx)(bs aw fo fD eF fO ar au J aT bw a:y) :cV w:=⟨4,_,none,_,_,_,_,_,aeu (w:=w) (D:=D) (bs:=bs) (aw:=aw) (fo:=fo) (fD:=fD) (eF:=eF) (fO:=fO) (ar:=ar) (au:=au) (J:=J) (aT:=aT) (bw:=bw) (a:=a)⟩
end
section
noncomputable def oN:=pu (ew 44).2.1[3]?
noncomputable abbrev lS (G J:aM) :cn:=.forLoop oN.1 (.ref J) oN.2.2.1 oN.2.2.2 (ek G)
noncomputable abbrev iU (P:bp)(D:gx)(ak aD a0 c:y)(p:y×y)(a b:y) :ao:=k9 (r7 P D++[aj P nY ak (ad p),aj P sr aD (.ref a),aj P sh a0 (.ref b)]) 6 (lY (ek D.G) c)
section
variable {w:aG}
theorem Cx {dg:aK (B cE)}{bj:y}{ap:aK ag}{code:cn}{pre:B (aM×ao)}{il:aM×ao}{fN:B bN}{bB:(y->y)->cD}{cB:(y->y)->B ao}{bV:(y->y)->B (aM×ao)}{gr:(y->y)->B bN}{cond:(y->y)->Prop}{bI:y->y->bb w}
  (E:j8 w dg bj ap (pre++[il]) [] code bI)(aX:il∈fN.flatten)(left:∀ n t,l3 (λdw du=>∃ uG:B (aM×ao),(dw,du,uG.map (·.1))=(gP.dr code,uG++[il],pre.map (·.1))/\ec w dg bj code ap uG fN bB cB bV gr cond) (bI n t) ((pre++[il]).map (·.1)) (pre++[il]).length n []) :
  ec w dg bj code ap pre fN bB cB bV gr cond:=λA s aS has bU=>by
 have qy:=bU.e8;rw [c0] at qy;obtain ⟨fB,im,jT⟩:=fA.mp qy;have BR:il.1∈fN.flatten.map (·.1):=ep aX;have yX:ie ((pre++[il]).map (·.1)):=by
  refine ⟨?_,λa bY=>bU.free a ?_⟩
  ·rw [c0]
   refine fA.mpr ⟨fB,(by simp),λa bY b aQ e=>?_⟩;rw [G3,dN] at aQ;exact jT a bY _ BR (e.trans aQ)
  ·rw [c0] at bY ⊢
   rcases dU.mp bY with bY | bY
   ·exact eS _ bY
   ·rw [G3,dN] at bY
    exact eJ _ (bY▸BR)
 have qF:∀ a∈(pre++[il]).map (·.1),a∈(pre++fN.flatten).map (·.1):=λa bY=>by
  rw [c0] at bY ⊢;rcases dU.mp bY with bY | bY
  ·exact eS _ bY
  ·rw [G3,dN] at bY
   exact eJ _ (bY▸BR)
 have Db:dX s.heap (pre++[il]):=λp L=>by
  rcases dU.mp L with L | L
  ·exact has p (eS _ L)
  ·rw [dN.mp L]
   exact has il (eJ _ aX)
 refine Ao (af:=[]) 100000 (bI s.heap.objs.size s.toks) aS (by rw [h2,d9];exact Db) (by rw [h2,d9];exact yX) (E _ _ _) (left _ _) ?_;rintro dw du eo ⟨uG,he,bO⟩ b1 aV;obtain ⟨a5,bt⟩:=je he;obtain ⟨cd,aU⟩:=je bt;subst a5;subst cd;rw [h2,d9] at b1 aV;show codeAny _ _ _ _ _;have XC:dX eo.heap (uG++fN.flatten):=λp L=>by
  rcases dU.mp L with L | L
  ·exact b1.has p (eS _ L)
  ·by_cases Dx:p.1=il.1
   ·have a5:=has p (eJ _ L)
    have bt:=has il (eJ _ aX);rw [Dx,bt] at a5;have cd:=b1.has il (eJ _ (dN.mpr rfl));rw [Dx,cd];exact a5
   ·refine aV.eO _ _ (has p (eJ _ L)) λaU=>?_
    rw [c0] at aU;rcases dU.mp aU with h | h
    ·exact jT _ h _ (ep L) rfl
    ·exact Dx (dN.mp h)
 have zb:(uG++fN.flatten).map (·.1)=(pre++fN.flatten).map (·.1):=by exact H (c0 ..) (H (c0 ..) (H aU rfl))
 have bO:=bO A eo (aS.moves aV yX.free) XC (by refine H zb ?_;exact bU);refine gR bO ?_;rintro r an ⟨x,rfl,aX,bG,az,a7⟩;rw [aU] at a7;refine ⟨x,rfl,aX,bG,az,⟨a7.len,a7.has,a7.e8,λp L=>(a7.fresh p L).imp id λh=>gh aV.size h,?_⟩⟩;have J5:=a7.eD;rw [<- c0] at J5 ⊢;exact (aV.sH qF).trans J5 λb aQ=>.inl aQ
end
end

noncomputable def Kt (o:aK c5) :cT×CmpOp×cT×c2×B c5×c2:=(hq (kP o 0) 0,.NotEq,hq (kP o 0) 1,kO (kP o 0),q2 o 0,oX o)
noncomputable def qR:=Kt oN.2.2.1[1]?
noncomputable def zF:B c5:=oN.2.2.1.drop 2
noncomputable def zG:c5:=mD oN.2.2.1 0
theorem aah (G J:aM) :lS G J= .forLoop oN.1 (.ref J) (zG::.If (.Compare qR.1 [.NotEq] [qR.2.2.1] qR.2.2.2.1) qR.2.2.2.2.1 [] qR.2.2.2.2.2::zF) [] (ek G):=by kernel_rfl
theorem aai:l7 .NotEq qR.2.2.1=false:=by kernel_rfl
noncomputable abbrev aay (P:bp)(D:gx)(ak aD a0:y)(p:y×y)(a b:y) :B f8:=r7 P D++[aj P nY ak (ad p),aj P sr aD (.ref a),aj P sh a0 (.ref b)]
noncomputable abbrev aax (P:bp)(D:gx)(ak aD:y)(p:y×y)(a:y) :B f8:=r7 P D++[aj P nY ak (ad p),aj P sr aD (.ref a)]
section
section
variable (w:aG)(D:gx)(ak aD a0 c:y)(p:y×y)(i2 fl J aT k bw bl e:y)(z:cs)(S:cU)(dT:j7 S)(bD cf dJ:y×y)(az:bD.1<12)(aJ:cf.1<12)(bg:dJ.1<12)(e6:cf.1≠dJ.1)(l:B ag)(bh:aK y)(R:B (y×y))(toks:B (B y))(m:y)(bc:l[k]? =some (.ref bl))(bJ:∀ p∈R,p.1<12)(eC:R.length<1000)(bM:(hn R).length<1000000)(bu:iD m (hn R)=some toks)(aU:m<1000)
noncomputable def aab (n t:y) :bb w:=
  .ax [2,2] [0,2] 0 (jO w J aT bw k l (.ref bl) none bc) [1,2] λah=>.ax (aY 0x1010011) [2] 0 (yq w bl e bh R bJ eC) [4,3] λaN=>.fF [0] [2] 0 (RT w (hn R) (aN 2) m toks D.G (aax w.params D ak (ah 1) p bl) 5 bM bu aU) [0] [] λbx=>.bd [1,1] [] 0 (.ret (.ok .next)) (d4 qV ([iU w.params D ak (ah 1) (bx 1) (bx 4) p bl (bx 2),b4 "list_iterator" aT (k+1),I l bw,ez (some (aN 3)),I (R.map ad) e,I (kp toks λk=>bx (k+6)) (bx 3)]))
theorem aac:eu w (some [ek D.G]) 10 none ([(D.G,oQ w.params D ak p),(J,b4 "list_iterator" aT k),(aT,I l bw),(894,ez bh),(bl,I (R.map ad) e)]) ([]) (lS D.G J) (mY oN.1 (.ref J) zG (ek D.G)) (aab w D ak p J aT k bw bl e l bh R toks m bc bJ eC bM bu aU):=c6
noncomputable def aad (n t:y) :bb w:=
  .ax [2,2] [0,2] 0 (jO w J aT bw k l (.ref bl) none bc) [1,2] λah=>.ax (aY 0x1010011) [2] 0 (yq w bl e bh R bJ eC) [4,3] λaN=>.fF [0] [2] 0 (B3 w (hn R) (aN 2) m toks D.G c (aay w.params D ak aD a0 p bl fl) 6 bM bu aU) [0] [] λbx=>.bd [1,1] [] 0 (.ret (.ok .next)) (d4 qV ([iU w.params D ak aD a0 c p bl (bx 2),b4 "list_iterator" aT (k+1),I l bw,ez (some (aN 3)),I (R.map ad) e,I (kp toks λk=>bx (k+6)) (bx 3)]))
theorem aae:eu w (some [ek D.G]) 10 none ([(D.G,iU w.params D ak aD a0 c p i2 fl),(J,b4 "list_iterator" aT k),(aT,I l bw),(894,ez bh),(bl,I (R.map ad) e)]) ([]) (lS D.G J) (mY oN.1 (.ref J) zG (ek D.G)) (aad w D ak aD a0 c p fl J aT k bw bl e l bh R toks m bc bJ eC bM bu aU):=c6
noncomputable def aal (n t:y) :bb w:=
  .bd [1] [] 0 (.ret (.ok (.ret (.ref fl)))) [(0,iU w.params D ak aD a0 c p i2 fl)]
theorem aam:eu w none 1 none ([(D.G,iU w.params D ak aD a0 c p i2 fl)]) ([]) (lS D.G J) (fQ qR.1 (ek D.G)) (aal w D ak aD a0 c p i2 fl):=c6
noncomputable def aaj (n t:y) :bb w:=
  .bd [1] [] 0 (.ret (.ok (.ret (.ref i2)))) [(0,iU w.params D ak aD a0 c p i2 fl)]
theorem aak:eu w none 1 none ([(D.G,iU w.params D ak aD a0 c p i2 fl)]) ([]) (lS D.G J) (fQ qR.2.2.1 (ek D.G)) (aaj w D ak aD a0 c p i2 fl):=c6
section
variable (al:∀ m,(S.aa m).length<1000)(gq:0<1000000)(h1:2<1000000)
noncomputable def aan (n t:y) :bb w:=
  .ax (aY 0x12100004033000000300031) [0,0,0,0,2] 2 (pk w (n+1) fl 0 e [] [.str (ay bD.fst) bD.snd,.str (ay cf.fst) cf.snd] [.str (ay bD.fst) bD.snd,.str (ay cf.fst) cf.snd] none gq h1 rfl) [30,1] λah=>.ax [31,30,0,30] [0,2] 0 (Re w z S bD.1 cf.1 bD.2 cf.2 dT az aJ al) (dW 2 27) λaN=>.ax NI [0,0,2] 0 (HL w z (ky S bD.fst bD.snd (aN 2) [cf.fst]) bD.fst bD.snd (Hx dT bD.fst bD.snd (aN 2) [cf.fst]) az) (dW 2 27) λbx=>.bd [] [] 0 (.ret (.ok .next)) (d4 (dW 0 29) ([iU w.params {D with s:=z.s} ak aD a0 c p i2 fl,I ([bD,cf].map ad) e]++(bX w.params z (ky (ky S bD.1 bD.2 (aN 2) [cf.1]) bD.1 bD.2 (bx 2) [])).map (·.2)))
theorem aao:eu w none 4 none ([(D.G,iU w.params {D with s:=z.s} ak aD a0 c p i2 fl),(fl,I ([bD,cf].map ad) e)]++bX w.params z S) ([]) (lS D.G J) (j1 zF (ek D.G)) (aan w D ak aD a0 c p i2 fl e z S dT bD cf az aJ al gq h1):=c6
end
section
variable (al:∀ m,(S.aa m).length<1000)(gq:0<1000000)(h1:3<1000000)
noncomputable def aap (n t:y) :bb w:=
  .ax (aY 0x12100004033000000300031) [0,0,0,0,2] 2 (pk w (n+1) fl 0 e [] [.str (ay bD.fst) bD.snd,.str (ay cf.fst) cf.snd,.str (ay dJ.fst) dJ.snd] [.str (ay bD.fst) bD.snd,.str (ay cf.fst) cf.snd,.str (ay dJ.fst) dJ.snd] none gq h1 rfl) [30,1] λah=>.ax [31,30,0,30] [0,2] 0 (Rf w z S bD.1 cf.1 dJ.1 bD.2 cf.2 dJ.2 dT az aJ bg e6 al) (dW 2 27) λaN=>.ax NI [0,0,2] 0 (HL w z (ky S bD.fst bD.snd (aN 2) [cf.fst,dJ.fst]) bD.fst bD.snd (Hx dT bD.fst bD.snd (aN 2) [cf.fst,dJ.fst]) az) (dW 2 27) λbx=>.bd [] [] 0 (.ret (.ok .next)) (d4 (dW 0 29) ([iU w.params {D with s:=z.s} ak aD a0 c p i2 fl,I ([bD,cf,dJ].map ad) e]++(bX w.params z (ky (ky S bD.1 bD.2 (aN 2) [cf.1,dJ.1]) bD.1 bD.2 (bx 2) [])).map (·.2)))
theorem aaq:eu w none 4 none ([(D.G,iU w.params {D with s:=z.s} ak aD a0 c p i2 fl),(fl,I ([bD,cf,dJ].map ad) e)]++bX w.params z S) ([]) (lS D.G J) (j1 zF (ek D.G)) (aap w D ak aD a0 c p i2 fl e z S dT bD cf dJ az aJ bg e6 al gq h1):=c6
end
end
end
theorem abp {w:aG}{A:c9}{s:aR}{a b cO bw:y}{cZ eZ:B (y×y)}{Q:bW->aR->Prop}(h:cZ.map (·.1)=eZ.map (·.1))(bY:s.heap.get? a=some (I (cZ.map ad) cO))(aQ:s.heap.get? b=some (I (eZ.map ad) bw))(eG:A.units<cLine)(a4:Q false s) :
  wpAny (model aL w) A (mc .NotEq (.ref a) (.ref b)) (λc bi=>wpAny (model aL w) A (pY c) Q (λ_ _=>dm) bi) (λ_ _=>dm) s:=by
 show wpAny (model aL w) A (Am .NotEq (.ref a) (.ref b)) _ _ s;have al:s.heap.IsList a (⟨cZ.map ad⟩ :cp ag):=⟨_,bY,rfl,_,rfl⟩;have a9:s.heap.IsList b (⟨eZ.map ad⟩ :cp ag):=⟨_,aQ,rfl,_,rfl⟩;have i9:(⟨cZ.map ad⟩ :cp ag).size=(⟨eZ.map ad⟩ :cp ag).size:=by have:=fV rk h;simpa using this
 refine Qv (e:=λ_=>true) al a9 i9 eG (Cv h) _ _ _ _ ?_;refine H (s5 ..) ?_;exact xQ a4
theorem Az:∀ (R:B (y×y)) (f:y->y),kp (R.map λp=>fK p.1) f=(fa (R.map (·.1)) f).map ad
 | [],_=>rfl
 | p::R,f=>by show _::kp (R.map λp=>fK p.1) (λk=>f (k+1))=_::(fa (R.map (·.1)) λk=>f (k+1)).map ad;refine H (Az R ..) ?_;rfl
theorem n9:∀ (li:B y) (f:y->y),(fa li f).map (·.1)=li
 | [],_=>rfl
 | k::r,f=>fV (k::·) (n9 r _)
theorem VE {A:c9}{s:aR}{a b cO bw:y}{cZ eZ:B (y×y)}(h:cZ.map (·.1)=eZ.map (·.1))(e6:a≠b)(bY:s.heap.get? a=some (I (cZ.map ad) cO))(aQ:s.heap.get? b=some (I (eZ.map ad) bw))(eG:A.units<cLine) :Hn A s (.ref a) (.ref b) true:=by
 have al:s.heap.IsList a (⟨cZ.map ad⟩ :cp ag):=⟨_,bY,rfl,_,rfl⟩;have a9:s.heap.IsList b (⟨eZ.map ad⟩ :cp ag):=⟨_,aQ,rfl,_,rfl⟩;have i9:(⟨cZ.map ad⟩ :cp ag).size=(⟨eZ.map ad⟩ :cp ag).size:=by have:=fV rk h;simpa using this
 refine Qu e6 ?_;have:=BE (A:=A) (e:=λ_=>true) al a9 i9 eG (Cv h);rwa [s5] at this
noncomputable abbrev dK:=aM×B (y×y)
noncomputable def dR (T:B dK) :B ag:=T.map λq=>.ref q.1
theorem VD {A:c9}{s:aR}{a b cO bw:y}{cw e1:B dK}(h:cw.map (λq=>q.2.map (·.1))=e1.map (λq=>q.2.map (·.1)))(e6:a≠b)(bY:s.heap.get? a=some (I (dR cw) cO))(aQ:s.heap.get? b=some (I (dR e1) bw))
  (az:∀ q∈cw,∃ e,s.heap.get? q.1=some (I (q.2.map ad) e))(aJ:∀ q∈e1,∃ e,s.heap.get? q.1=some (I (q.2.map ad) e))(ap:∀ p∈cw,∀ q∈e1,p.1≠q.1)(eG:A.units<cLine)(DL:A.in1.units<cLine) :Hn A s (.ref a) (.ref b) true:=by
 have al:s.heap.IsList a (⟨dR cw⟩ :cp ag):=⟨_,bY,rfl,_,rfl⟩;have a9:s.heap.IsList b (⟨dR e1⟩ :cp ag):=⟨_,aQ,rfl,_,rfl⟩;have hlen:cw.length=e1.length:=by simpa using fV rk h
 have i9:(⟨dR cw⟩ :cp ag).size=(⟨dR e1⟩ :cp ag).size:=by simp [dR,hlen]
 refine Qu e6 ?_;have:=BE (A:=A) (s:=s) (e:=λ_=>true) al a9 i9 eG ?_
 ·rwa [s5] at this
 ·intro j D4 D5
  have ab:j<cw.length:=by simpa [dR] using D4
  have ae:j<e1.length:=by simpa [dR] using D5
  have fB:(⟨dR cw⟩ :cp ag)[j]= .ref (cw[j]).1:=by simp [dR]
  have im:(⟨dR e1⟩ :cp ag)[j]= .ref (e1[j]).1:=by simp [dR]
  refine H fB (H im ?_);obtain ⟨a5,cI⟩:=az _ (pa ab);obtain ⟨bt,cy⟩:=aJ _ (pa ae);refine VE ?_ (ap _ (pa ab) _ (pa ae)) cI cy DL;have a1:(cw.map (λq=>q.2.map (·.1)))[j]? =some ((cw[j]).2.map (·.1)):=by refine H (mL ..) (H (nr ab ..) ?_);rfl
  have a2:(e1.map (λq=>q.2.map (·.1)))[j]? =some ((e1[j]).2.map (·.1)):=by refine H (mL ..) (H (nr ae ..) ?_);rfl
  rw [h,a2] at a1;exact (x9 a1).symm
theorem abo {w:aG}{A:c9}{s:aR}{u v a b cO bw:y}{ring:bW}{cw e1:B dK}{Q:bW->aR->Prop}(h:cw.map (λq=>q.2.map (·.1))=e1.map (λq=>q.2.map (·.1)))(DL:s.heap.get? u=some (di [.ref a,.bool ring]))(YJ:s.heap.get? v=some (di [.ref b,.bool ring]))(e6:a≠b)(bY:s.heap.get? a=some (I (dR cw) cO))(aQ:s.heap.get? b=some (I (dR e1) bw))
  (az:∀ q∈cw,∃ e,s.heap.get? q.1=some (I (q.2.map ad) e))(aJ:∀ q∈e1,∃ e,s.heap.get? q.1=some (I (q.2.map ad) e))(ap:∀ p∈cw,∀ q∈e1,p.1≠q.1)(eG:A.units+2<cLine)(a4:Q false s) :
  wpAny (model aL w) A (mc .NotEq (.ref u) (.ref v)) (λc bi=>wpAny (model aL w) A (pY c) Q (λ_ _=>dm) bi) (λ_ _=>dm) s:=by
 show wpAny (model aL w) A (Am .NotEq (.ref u) (.ref v)) _ _ s;have al:s.heap.IsTuple u (⟨[.ref a,.bool ring]⟩ :cp ag):=⟨_,DL,rfl,_,rfl⟩;have a9:s.heap.IsTuple v (⟨[.ref b,.bool ring]⟩ :cp ag):=⟨_,YJ,rfl,_,rfl⟩;refine SeqAt.RcNeAt.tuples (e:=λ_=>true) al a9 (iK (jx _ 2) eG) ?_ _ _ _ _ ?_
 ·intro j D4 D5
  match j,D4,D5 with
  | 0,_,_=>exact VD (A:=A.in1) h e6 bY aQ az aJ ap (vq eG) eG
  | 1,_,_=>exact SeqAt.EqAt.same (.bool ring)
 ·exact xQ a4
section
section
variable {w:aG}{A:c9}{s:aR}{a b cO bw:y}{l:B ag}{Q:bW->aR->Prop}
theorem abn {l:B ag}(bY:s.heap.get? a=some (I l cO))(aQ:s.heap.get? b=some (I [] bw))(eG:A.units<cLine)(a4:Q (!l.isEmpty) s) :
  wpAny (model aL w) A (mc .NotEq (.ref a) (.ref b)) (λc bi=>wpAny (model aL w) A (pY c) Q (λ_ _=>dm) bi) (λ_ _=>dm) s:=by
 show wpAny (model aL w) A (Am .NotEq (.ref a) (.ref b)) _ _ s;have al:s.heap.IsList a (⟨l⟩ :cp ag):=⟨_,bY,rfl,_,rfl⟩;have a9:s.heap.IsList b (⟨[]⟩ :cp ag):=⟨_,aQ,rfl,_,rfl⟩
 induction l with
 | nil=>refine Qv (e:=λ_=>true) al a9 rfl eG (λj az _=>absurd az (x8 j)) _ _ _ _ ?_;refine H (s5 ..) ?_;exact xQ a4
 | cons x l=>exact SeqAt.RcNeAt.lists_lengths al a9 rfl eG _ _ _ _ (xQ a4)
theorem VC {l:B ag}(bY:s.heap.get? a=some (I l cO))(aQ:s.heap.get? b=some (I [] bw))(eG:A.units<cLine)(a4:Q l.isEmpty s) :
  wpAny (model aL w) A (mc .Eq (.ref a) (.ref b)) (λc bi=>wpAny (model aL w) A (pY c) Q (λ_ _=>dm) bi) (λ_ _=>dm) s:=by
 show wpAny (model aL w) A (Am .Eq (.ref a) (.ref b)) _ _ s;have al:s.heap.IsList a (⟨l⟩ :cp ag):=⟨_,bY,rfl,_,rfl⟩;have a9:s.heap.IsList b (⟨[]⟩ :cp ag):=⟨_,aQ,rfl,_,rfl⟩
 induction l with
 | nil=>refine BE (e:=λ_=>true) al a9 rfl eG (λj az _=>absurd az (x8 j)) _ _ _ _ ?_;refine H (s5 ..) ?_;exact xQ a4
 | cons x l=>exact SeqAt.RcAt.lists_lengths al a9 rfl eG _ _ _ _ (xQ a4)
theorem IX {cZ eZ:B (y×y)}{Q:ag->aR->Prop}(h:cZ.map (·.1)=eZ.map (·.1))(bY:s.heap.get? a=some (I (cZ.map ad) cO))(aQ:s.heap.get? b=some (I (eZ.map ad) bw))(eG:A.units<cLine)(a4:Q (.bool true) s) :
  wpAny (model aL w) A (mc .Eq (.ref a) (.ref b)) Q (λ_ _=>dm) s:=by
 show wpAny (model aL w) A (Am .Eq (.ref a) (.ref b)) _ _ s;have al:s.heap.IsList a (⟨cZ.map ad⟩ :cp ag):=⟨_,bY,rfl,_,rfl⟩;have a9:s.heap.IsList b (⟨eZ.map ad⟩ :cp ag):=⟨_,aQ,rfl,_,rfl⟩;have i9:(⟨cZ.map ad⟩ :cp ag).size=(⟨eZ.map ad⟩ :cp ag).size:=by have:=fV rk h;simpa using this
 refine BE (e:=λ_=>true) al a9 i9 eG (Cv h) _ _ _ _ ?_;refine H (s5 ..) ?_;exact a4
end
end
theorem Lq {i j:y}(aF:i<12)(dB:j<12) :((ay i).cps.toList==(ay j).cps.toList)=(i==j):=by
 have:∀ i<12,∀ j<12,((ay i).cps.toList==(ay j).cps.toList)=(i==j):=by decide+kernel
 exact this i aF j dB
noncomputable def h0 (k:y)(R:B (y×y)) :bW:=R.any λp=>p.1==k
theorem HE {k:y}(aV:k<12) :∀ R:B (y×y),(∀ p∈R,p.1<12)->(R.map ad).any (λas=>match as with | .str aq _=>aq.cps.toList==(ay k).cps.toList | _=>false)=h0 k R
 | [],_=>rfl
 | p::R,h=>by have e:=Lq (h p (cY ..)) aV;have bO:=HE aV R λq a4=>h q (dG _ a4);show (((ay p.1).cps.toList==(ay k).cps.toList)||(R.map ad).any _)=((p.1==k)||h0 k R);exact H e (H bO rfl)
theorem ZQ {w:aG}{a cO k t:y}{R:B (y×y)}{b:bW}{ap:aK ag}(aV:k<12)(bJ:∀ p∈R,p.1<12)(aQ:h0 k R=b) :
  b0 w 0 (.builtin "list.__contains__" ⟨[.ref a,.str (ay k) t],[]⟩) ap [(a,I (R.map ad) cO)] (λ_=>.ok (.ret (.bool b))) (λ_=>[I (R.map ad) cO]) (λ_=>[]) (λ_=>bZ):=by
 refine nj (v:=λ_=>.bool b) λA s aS has=>?_;have bY:=has (a,I (R.map ad) cO) (cY ..);refine H9 F.entry_list_contains ?_;refine H (rf (by decide+kernel) _ ..) ?_;refine SeqAt.list_containsAt a _ cO none #[] (.str (ay k) t) (λas=>match as with | .str aq _=>aq.cps.toList==(ay k).cps.toList | _=>false) aL w A (λr an=>∃ be:y,r=(.ok (.ret (.bool b)) :cD)/\vu s an) s ⟨bY,?_,?_⟩
 ·intro as c3
  have c3:as∈R.map ad:=by simpa using c3
  obtain ⟨p,L,rfl⟩:=fC.mp c3;exact (SeqRoads2.EqGives.str (ay p.1) (ay k) p.2 t).at A.in1 s
 ·refine df (Array.any_toList ..) (H (HE aV R bJ ..) (H aQ ?_))
  exact ⟨0,rfl,rfl,rfl,rfl⟩
noncomputable def yr (w:aG)(a cO k t:y)(R:B (y×y))(b:bW)(ap:aK ag)(aV:k<12)(bJ:∀ p∈R,p.1<12)(aQ:h0 k R=b) :cV w:=⟨0,_,ap,_,_,_,_,_,ZQ (w:=w) (a:=a) (cO:=cO) (t:=t) (ap:=ap) aV bJ aQ⟩
section
section
variable (w:aG)
noncomputable def afb (n t:y) :bb w:=
  .bd (aY 0x131110200020202000231110200020202000231110200020202000231110200020202000233333000000202000000000000000000000) (aY 0x100000000100000) 4 (.ret (.ok (.ret (.ref (n+1))))) [(1,{cls:=(.ref 188),data:=.plain,dict:=(some n)}),(0,{cls:=(.type "dict"),data:=(.dict ⟨[aj w.params Ny (t+3) (.ref (n+3)),aj w.params Np (t+5) .none,aj w.params Nt (t+8) (.int 0 (t+6)),aj w.params Nx (t+11) (.int 0 (t+9))]⟩ 4)}),(3,{cls:=(.type "dict"),data:=(.dict ⟨[]⟩ 0)})]
theorem afc:b2 w 3 none ([]) (.call (.ref 188) ⟨[],[]⟩) (afb w):=c6
end
theorem afd {w:aG} :b0 w 3 (.call (.ref 188) ⟨[],[]⟩) none [] (λx=>.ok (.ret (.ref (x 2)))) (λ_=>[]) (λx=>[(x 2,el (x 3)),(x 3,en w.params (x 5) (x 6) (x 7) (x 8) (x 4) .none 0 (x 9) 0 (x 10)),(x 4,bT w.params [] 0)]) (λ_=>bZ):=by exact dy (afc w) (λn t X a b=>ca a b [n+1,n,n+3,t+3,t+5,t+8,t+11,t+6,t+9]) λn t X a b=>⟨by kernel_rfl,rfl,trivial⟩
noncomputable def RY (w:aG) :cV w:=⟨3,_,none,_,_,_,_,_,afd (w:=w)⟩
end
section
section
variable (w:aG)(a b9:y)(gq:0<1000000)(h1:12<1000000)
noncomputable def aev (n t:y) :bb w:=
  .ax [] [0,0,2] 1 (pk w n a 0 0 [] [.str (ay 0) b9,.str (ay 1) (b9+1),.str (ay 2) (b9+2),.str (ay 3) (b9+3),.str (ay 4) (b9+4),.str (ay 5) (b9+5),.str (ay 6) (b9+6),.str (ay 7) (b9+7),.str (ay 8) (b9+8),.str (ay 9) (b9+9),.str (ay 10) (b9+10),.str (ay 11) (b9+11)] [.str (ay 0) b9,.str (ay 1) (b9+1),.str (ay 2) (b9+2),.str (ay 3) (b9+3),.str (ay 4) (b9+4),.str (ay 5) (b9+5),.str (ay 6) (b9+6),.str (ay 7) (b9+7),.str (ay 8) (b9+8),.str (ay 9) (b9+9),.str (ay 10) (b9+10),.str (ay 11) (b9+11)] none gq h1 rfl) [1,0] λah=>.bd (aY 0x133333333332) (aY 0x100000000000000000000000000000000000000000000000000000000000000) 3 (.ret (.ok (.ret (.ref (ah 0))))) [(0,I (dF ad (lm b9)) 0),(2,{cls:=(.type "list"),data:=(.seq ⟨[.str (ay 1) (b9+1),.str (ay 3) (b9+3),.str (ay 10) (b9+10),.str (ay 6) (b9+6),.str (ay 7) (b9+7),.str (ay 5) (b9+5),.str (ay 8) (b9+8),.str (ay 0) b9,.str (ay 2) (b9+2),.str (ay 11) (b9+11),.str (ay 4) (b9+4),.str (ay 9) (b9+9)]⟩ 2)})]
theorem aew:b2 w 3 none ([(a,I ((lm b9).map ad) 0)]) (.builtin "sorted" ⟨[.ref a],[]⟩) (aev w a b9 gq h1):=by revert w;exact cX
end
noncomputable def FQ (a:y) :B (y×y):=[(1,a+1),(3,a+3),(10,a+10),(6,a+6),(7,a+7),(5,a+5),(8,a+8),(0,a),(2,a+2),(11,a+11),(4,a+4),(9,a+9)]
theorem aez {w:aG}{a b9:y} :b0 w 3 (.builtin "sorted" ⟨[.ref a],[]⟩) none [(a,I ((lm b9).map ad) 0)] (λx=>.ok (.ret (.ref (x 2)))) (λ_=>[I ((lm b9).map ad) 0]) (λx=>[(x 2,I ((FQ b9).map ad) (x 3))]) (λ_=>bZ):=by exact dy (aew w a b9 (by decide) (by decide)) (λn t X u v=>ca u v [X 0 0,2]) λn t X u v=>⟨by kernel_rfl,by kernel_rfl,trivial⟩
noncomputable def RS (w:aG)(a b9:y) :cV w:=⟨3,_,none,_,_,_,_,_,aez (w:=w) (a:=a) (b9:=b9)⟩
end
theorem ael (m:B ag)(v:ag) :At ⟨m++[v]⟩ none (some (-1)) none=⟨m⟩:=by have h:=slicePick_butLast (⟨m++[v]⟩ :cp ag) 1 (fk 1);refine h.trans ?_;simp
noncomputable def RQ (w:aG)(a b cO t:y)(m:B ag)(v:ag)(ap:aK ag)(al:(m++[v]).length<1000000) :cV w:=
 ⟨0,_,ap,_,_,_,_,_,FO (w:=w) (a:=a) (b:=b) (cO:=cO) (l:=m++[v]) (n6:=.none) (n7:=.int (-1) t) (ap:=ap) al .none (.int _ _) (ael m v)⟩
section
variable {w:aG}
theorem fy.same {s an:aR}{aB fm:B aM}(h:fy s an aB)(hs:∀ a∈aB,a∈fm∨∃ o,s.heap.get? a=some o/\an.heap.get? a=some o) :fy s an fm:=by
 refine ⟨λb o e aQ=>?_,h.size,h.os,h.gens⟩;by_cases aU:b∈aB
 ·rcases hs b aU with az | ⟨o',a5,bt⟩
  ·exact absurd az aQ
  ·rw [e] at a5
   (injection a5 with d8;subst d8)
   exact bt
 ·exact h.eO b o e aU
theorem fy.drop {s an:aR}{a:aM}{o:ao}{aB fm:B aM}(k:fy s an (aB++a::fm))(e:s.heap.get? a=some o)(ev:an.heap.get? a=some o) :fy s an (aB++fm):=k.same λb aQ=>by
 rcases dU.mp aQ with aQ | aQ
 ·exact .inl (eS _ aQ)
 ·rcases dx.mp aQ with rfl | aQ
  ·exact .inr ⟨o,e,ev⟩
  ·exact .inl (eJ _ aQ)
theorem dX.abO {h:gg}{a:aM}{o:ao}{l:B (aM×ao)}(az:dX h ((a,o)::l)) :h.get? a=some o:=az (a,o) (cY ..)
theorem XB {h:gg}{a:aM}{o:ao}(e:h.get? a=some o) :dX h [(a,o)]:=λp L=>by refine H (dN.mp L ..) ?_;exact e
theorem wb {h:gg}{a:aM}{o:ao}{l:B (aM×ao)}(e:h.get? a=some o)(k:dX h l) :dX h ((a,o)::l):=λp L=>by
 rcases dx.mp L with rfl | L
 ·exact e
 ·exact k p L
noncomputable def ou (S:cU)(R:B (y×y))(ab ae:y) :cU:=match R with
 | []=>S
 | q::r=>ky (ky S q.1 q.2 ab (r.map (·.1))) q.1 q.2 ae []
noncomputable def hB (R:B (y×y)) :Prop:=(∀ p∈R,p.1<12)/\(R.length=2∨R.length=3)/\(R.map (·.1)).tail.Nodup
theorem W4 {R:B (y×y)}(aI:hB R)(f:y->y) :hB (fa (R.map (·.1)) f):=by obtain ⟨fB,im,jT⟩:=aI;refine ⟨λp L=>?_,by refine H (sI ..) (H (de ..) ?_);exact im,by refine H (n9 ..) ?_;exact jT⟩;have aU:p.1∈(fa (R.map (·.1)) f).map (·.1):=ep L;rw [n9] at aU;obtain ⟨q,a4,e⟩:=fC.mp aU;exact e▸fB q a4
noncomputable def jM:cU->B dK->(y->y)->cU
 | S,[],_=>S
 | S,q::r,f=>jM (ou S (fa (q.2.map (·.1)) f) (f 3) (f 4)) r λk=>f (k+5)
noncomputable def tS (a:y)(T:B dK) :y:=T.foldl (λ_ q=>q.1) a
theorem BK {S:cU}(h:j7 S) :∀ (R:B (y×y)) (ab ae:y),j7 (ou S R ab ae)
 | [],_,_=>h
 | _::_,_,_=>h
theorem Od {v:y×y} :∀ (ey:B y) (f:y->B (y×y)) (m:y),((ey.foldl (λf j=>cF f j (f j++[v])) f) m).length<=(f m).length+ey.length
 | [],_,_=>fk _
 | j::ey,f,m=>by
  refine gh (Od ey _ m) ?_;have:(cF f j (f j++[v]) m).length<=(f m).length+1:=by
   by_cases h:m=j
   ·refine H h (H (gB ..) (H (ea ..) ?_));exact fk _
   ·refine H (jc _ _ h ..) ?_;exact rp _
  refine H (ed ..) (H (lB ey.length ..) (df (pb ..) ?_));exact vo this _
theorem Hu (S:cU) :∀ (R:B (y×y)) (ab ae m:y),((ou S R ab ae).aa m).length<=(S.aa m).length+R.length
 | [],_,_,_=>fk _
 | q::r,_,_,m=>by have:=Od (v:=(q.1,q.2)) (r.map (·.1)) S.aa m;rw [de] at this;exact gh this (Bk (rp _) _)
theorem KY {R:B (y×y)}(aI:hB R) :R.length<1000/\(hn R).length<1000000/\iD R.length (hn R)=some (R.map λp=>fK p.1):=by
 have h:R.length<=3:=by rcases aI.2.1 with h | h <;> lia
 have aJ:=zo R;refine ⟨by lia,by lia,Eg R aI.1 λe=>?_⟩;rcases aI.2.1 with h | h <;> rw [e] at h <;> injection h
section
variable (w:aG)(D:gx)(J aT k bw:y)(l:B ag)(bc:l.length=k)
noncomputable def aaf (n t:y) :bb w:=
  .ax [1,1] [0,0,2] 0 (nC w J aT bw k l bc) [0,1] λah=>.bd [3] [0] 0 (.ret (.ok .next)) [(0,ee "list_iterator" k),(1,I l bw)]
theorem aag:b2 w 11 none [(J,b4 "list_iterator" aT k),(aT,I l bw)] (lS D.G J) (aaf w J aT k bw l bc):=c6
end
structure A2 where
 (J aT bw:y)
 l:B ag
 cC:bN
structure A3 where
 (aD a0 c bh b bw:y)
 f:y->y
noncomputable def wE (P:bp)(D:gx)(C:A2)(z:cs)(S:cU)(rZ:ao)(bh:aK y)(eM:ao) :B bN:=[C.cC,[(D.G,eM)],[(C.J,rZ)],[(C.aT,I C.l C.bw)],[(894,ez bh)],bX P z S]
noncomputable def qQ (P:bp)(D:gx)(C:A2)(z:cs)(S:cU)(k ak:y)(p:y×y)(bl:y)(R:B (y×y))(q:A3) :B bN:=[(q.b,I ((fa (R.map (·.1)) q.f).map ad) q.bw)]::wE P D C z S (b4 "list_iterator" C.aT (k+1)) (some q.bh) (iU P {D with s:=z.s} ak q.aD q.a0 q.c p bl q.b)
section
variable {b:aR}{aB:B aM}{D:gx}{C:A2}{z:cs}{S:cU}{A:c9}{Q:cD->aR->Prop}
theorem aas {s:aR}{E:ag->aR->Prop}{k ak bl:y}{p:y×y}{R:B (y×y)}{q:A3}(dT:j7 S)(al:∀ m,(S.aa m).length<1000)(C0:hB R)(aS:eb w none 4 A none b)(o:bz b aB s (qQ w.params D C z S k ak p bl R q))
  (cq:∀ an ab ae,bz b aB an (qQ w.params D C z (ou S (fa (R.map (·.1)) q.f) ab ae) k ak p bl R q)->Q (.ok .next) an) :
  wpOwn (model aL w) A (lS D.G C.J) (j1 zF (ek D.G)) (postC aL w A Q) E s:=by
 have JJ:=W4 C0 q.f;unfold qQ at o cq;generalize fa (R.map (·.1)) q.f=W at o cq JJ;obtain ⟨g6,Xi,rY⟩:=JJ;rcases Xi with aJ | aJ
 ·obtain ⟨bD,cf,rfl⟩:=wA aJ
  exact o.fL [2,0,6] (af:=[]) (R:=[C.cC,[(C.J,b4 "list_iterator" C.aT (k+1))],[(C.aT,I C.l C.bw)],[(894,ez (some q.bh))]]) ⟨rfl,by kernel_rfl,by kernel_rfl⟩ aS (aao w D ak q.aD q.a0 q.c p bl q.b C.J q.bw z S dT bD cf (g6 _ (cY ..)) (g6 _ (dG _ (cY ..))) al (by decide) (by decide)) (f:=λ_ _ _=>.next)
   (cv:=λn t X=>[[(D.G,iU w.params {D with s:=z.s} ak q.aD q.a0 q.c p bl q.b)],[(q.b,I ([bD,cf].map ad) q.bw)],bX w.params z (ou S [bD,cf] (X 1 2) (X 2 2))]) (by intro n t X;kernel_rfl)
   λn t X an o=>cq an _ _ (o.eQ (aY 0x12654031) rfl rfl)
 ·obtain ⟨bD,cf,dJ,rfl⟩:=wB aJ
  exact o.fL [2,0,6] (af:=[]) (R:=[C.cC,[(C.J,b4 "list_iterator" C.aT (k+1))],[(C.aT,I C.l C.bw)],[(894,ez (some q.bh))]]) ⟨rfl,by kernel_rfl,by kernel_rfl⟩ aS (aaq w D ak q.aD q.a0 q.c p bl q.b C.J q.bw z S dT bD cf dJ (g6 _ (cY ..)) (g6 _ (dG _ (cY ..))) (g6 _ (dG _ (dG _ (cY ..)))) (λe=>(gy.mp rY).1 (dN.mpr e)) al (by decide) (by decide)) (f:=λ_ _ _=>.next)
   (cv:=λn t X=>[[(D.G,iU w.params {D with s:=z.s} ak q.aD q.a0 q.c p bl q.b)],[(q.b,I ([bD,cf,dJ].map ad) q.bw)],bX w.params z (ou S [bD,cf,dJ] (X 1 2) (X 2 2))]) (by intro n t X;kernel_rfl)
   λn t X an o=>cq an _ _ (o.eQ (aY 0x12654031) rfl rfl)
theorem K8 {s:aR}{k ak:y}{p:y×y}{eM:ao}{bh:aK y}{cw:dK}{bk:hR->A3}{bI:y->y->bb w}(dT:j7 S)(al:∀ m,(S.aa m).length<1000)(C0:hB cw.2)(aU:g0 cw∈C.cC)(aS:eb w (some [ek D.G]) 11 A none b)
  (E:eu w (some [ek D.G]) 10 none [(D.G,eM),(C.J,b4 "list_iterator" C.aT k),(C.aT,I C.l C.bw),(894,ez bh),g0 cw] [] (lS D.G C.J) (mY oN.1 (.ref C.J) zG (ek D.G)) bI)
  (left:∀ n t X,nW [(D.G,eM),(C.J,b4 "list_iterator" C.aT k),(C.aT,I C.l C.bw),(894,ez bh),g0 cw] [] bI n t X=(.ret (.ok .next),[(D.G,iU w.params {D with s:=z.s} ak (bk X).aD (bk X).a0 (bk X).c p cw.1 (bk X).b),(C.J,b4 "list_iterator" C.aT (k+1)),(C.aT,I C.l C.bw),(894,ez (some (bk X).bh)),g0 cw,((bk X).b,I (kp (cw.2.map λp:y×y=>fK p.1) (bk X).f) (bk X).bw)]))
  (o:bz b aB s (wE w.params D C z S (b4 "list_iterator" C.aT k) bh eM))
  (next:∀ an X ab ae,bz b aB an (wE w.params D C z (ou S (fa (cw.2.map (·.1)) (bk X).f) ab ae) (b4 "list_iterator" C.aT (k+1)) (some (bk X).bh) (iU w.params {D with s:=z.s} ak (bk X).aD (bk X).a0 (bk X).c p cw.1 (bk X).b))->codeAny (model aL w) A (lS D.G C.J) Q an) :
  codeAny (model aL w) A (lS D.G C.J) Q s:=by
 have DN:A.units<cLine:=by have:=aS.units;unfold cLine;lia
 refine Wq (aah D.G C.J) (P:=λaA=>∃ X,bz b aB aA (qQ w.params D C z S k ak p cw.1 cw.2 (bk X))) (eZ:=λr aA=>∃ X,r= .ok (.ret (.ref (bk X).b))/\bz b aB aA (qQ w.params D C z S k ak p cw.1 cw.2 (bk X)))
  (iL:=λa r aA=>r= .ok (.ret (.ref cw.1))/\∃ X,a= .ref (bk X).b/\bz b aB aA (qQ w.params D C z S k ak p cw.1 cw.2 (bk X))) (qf:=λaA=>∃ X,bz b aB aA (qQ w.params D C z S k ak p cw.1 cw.2 (bk X))) aai ?_ ?_ ?_ ?_ ?_
 ·obtain ⟨af,cI,ix⟩:=o.open aU
  exact cI.fL [2,3,4,5,0] (af:=[]) (R:=[af,bX w.params z S]) ⟨rfl,by kernel_rfl,by kernel_rfl⟩ (aS.eW (by decide) λ_ h=>h) E (f:=λ_ _ _=>.next)
   (cv:=λn t X=>[[(D.G,iU w.params {D with s:=z.s} ak (bk X).aD (bk X).a0 (bk X).c p cw.1 (bk X).b)],[(C.J,b4 "list_iterator" C.aT (k+1))],[(C.aT,I C.l C.bw)],[(894,ez (some (bk X).bh))],[g0 cw],[((bk X).b,I (kp (cw.2.map λp:y×y=>fK p.1) (bk X).f) (bk X).bw)]]) left
   λn t X aA cy=>⟨rfl,X,(ix aA _ (cy.eQ (aY 0x157321064) rfl rfl)).eQ uj rfl (by unfold qQ;refine df (Az ..) ?_;rfl)⟩
 ·rintro aA ⟨X,o⟩
  exact o.sv [2] ⟨rfl,by kernel_rfl⟩ (aS.eW (by decide) λ_ h=>by cases h) (aam w {D with s:=z.s} ak (bk X).aD (bk X).a0 (bk X).c p cw.1 (bk X).b C.J) (f:=λ_ _ _=>.ret (.ref (bk X).b)) (N:=λ_ _ _=>[]) (by intro n t X;kernel_rfl) λn t Y bi o=>⟨X,rfl,o⟩
 ·rintro a aA ⟨X,h,o⟩
  rcases h with _ | _;exact o.sv [2] ⟨rfl,by kernel_rfl⟩ (aS.eW (by decide) λ_ h=>by cases h) (aak w {D with s:=z.s} ak (bk X).aD (bk X).a0 (bk X).c p cw.1 (bk X).b C.J) (f:=λ_ _ _=>.ret (.ref cw.1)) (N:=λ_ _ _=>[]) (by intro n t X;kernel_rfl) λn t Y bi o=>⟨rfl,X,rfl,o⟩
 ·rintro a v aA ⟨h,X,rfl,o⟩
  rcases h with _ | _;have J8:aA.heap.get? cw.1=some (I (cw.2.map ad) cw.2.length):=o.s7 1 rfl (g0 cw) aU
  exact abp (n9 _ _) (o.get 0 rfl) J8 DN ⟨rfl,X,o⟩
 ·rintro aA ⟨X,o⟩
  exact aas dT al C0 (aS.eW (by decide) λ_ h=>by injection h) o λan ab ae o=>⟨rfl,next an X ab ae (o.eQ (dW 1 6) rfl rfl)⟩
theorem K7 {ak aD a0 c:y}{p:y×y}(aS:eb w (some [ek D.G]) 11 A none b) :∀ (aW:B dK) (k bh i2 fl:y) (S:cU) (s:aR),C.l.drop k=dR aW->k+aW.length=C.l.length->(∀ q∈aW,g0 q∈C.cC)->(∀ q∈aW,hB q.2)->j7 S->(∀ m,(S.aa m).length+3 * aW.length<1000)->
  bz b aB s (wE w.params D C z S (b4 "list_iterator" C.aT k) (some bh) (iU w.params {D with s:=z.s} ak aD a0 c p i2 fl))->
  (∀ an mP pV f,bz b aB an (wE w.params D C z (jM S aW f) (ee "list_iterator" C.l.length) (some pV) (iU w.params {D with s:=z.s} ak aD a0 c p (tS i2 aW) mP))->Q (.ok .next) an)->codeAny (model aL w) A (lS D.G C.J) Q s
 | [],k,bh,i2,fl,S,s,h,aV,aU,b3,dT,hs,o,dh=>by
  have e:C.l.length=k:=aV.symm;subst e;exact o.code [2,3] (af:=[]) (R:=[C.cC,[(D.G,iU w.params {D with s:=z.s} ak aD a0 c p i2 fl)],[(894,ez (some bh))],bX w.params z S]) ⟨rfl,by kernel_rfl,by kernel_rfl⟩ (aS.eW (by decide) λ_ h=>by injection h) (aag w D C.J C.aT C.l.length C.bw C.l rfl) (dw:=λ_ _ _=>.ret (.ok .next))
   (cv:=λn t X=>[[(C.J,ee "list_iterator" C.l.length)],[(C.aT,I C.l C.bw)]]) (by intro n t X;kernel_rfl) λn t X an o=>dh an fl bh (λ_=>0) (o.eQ (aY 0x1541032) rfl rfl)
 | q::aW,k,bh,i2,fl,S,s,h,aV,aU,b3,dT,hs,o,dh=>by
  rw [ed] at aV;have hs:∀ m,(S.aa m).length+3 * (aW.length+1)<1000:=hs;have a4:=cY (a:=q) (l:=aW);have bc:C.l[k]? =some (.ref q.1):=by
   have:(C.l.drop k)[0]? =some (.ref q.1):=by refine H h ?_;rfl
   rwa [o9] at this
  have ap:C.l.drop (k+1)=dR aW:=by refine df (om ..) (H h ?_);rfl
  obtain ⟨ah,aN,bx⟩:=KY (b3 q a4);have jW:q.2.length<=3:=by rcases (b3 q a4).2.1 with h | h <;> lia
  refine K8 (ak:=ak) (p:=p) (cw:=q) (bk:=λX=>⟨aD,a0,c,X 1 3,X 2 2,X 2 3,λk=>X 2 (k+6)⟩) dT (λm=>by have:=hs m;lia) (b3 q a4) (aU q a4) aS (aae w {D with s:=z.s} ak aD a0 c p i2 fl C.J C.aT k C.bw q.1 q.2.length C.l (some bh) q.2 (q.2.map λp=>fK p.1) q.2.length bc (b3 q a4).1 ah aN bx ah) (by intro n t X;kernel_rfl) o ?_;intro an X ab ae o;refine K7 aS aW (k+1) _ _ _ _ an ap (by lia) (λkm h=>aU km (dG _ h)) (λkm h=>b3 km (dG _ h)) (BK dT _ _ _) (λm=>?_) o λbi mP pV f o=>dh bi mP pV (λk=>match k with | 0=>X 2 6 | 1=>X 2 7 | 2=>X 2 8 | 3=>ab | 4=>ae | k+5=>f k) ?_
  ·refine iK (vo (Hu S _ ab ae m) _) ?_
   refine H (sI ..) (H (de ..) ?_);have:=hs m;lia
  ·have e:fa (q.2.map (·.1)) (λk=>match k with | 0=>X 2 6 | 1=>X 2 7 | 2=>X 2 8 | 3=>ab | 4=>ae | k+5=>f k)=fa (q.2.map (·.1)) λk=>X 2 (k+6):=AE λj dB=>by
    rw [de] at dB
    match j,on dB jW with
    | 0,_=>rfl
    | 1,_=>rfl
    | 2,_=>rfl
    | j+3,h=>exact absurd h (j9.mpr (G9 3 j))
   unfold jM tS;refine H e ?_;exact o
end
theorem aar {D:gx}{z:cs}{S:cU}{J aT bw ak:y}{l:B ag}{cC:bN}{p:y×y}{bh:aK y}{q:dK}{aW:B dK}(al:l=dR (q::aW))(aU:∀ km∈q::aW,g0 km∈cC)(b3:∀ km∈q::aW,hB km.2)(dT:j7 S)(hs:∀ m,(S.aa m).length+3 * (aW.length+1)<1000) :
  ec w (some [ek D.G]) 11 (lS D.G J) none ([(D.G,oQ w.params {D with s:=z.s} ak p),(J,b4 "list_iterator" aT 0),(aT,I l bw),(894,ez bh)]++bX w.params z S) [cC] (λ_=>.ok .next)
   (λx=>[iU w.params {D with s:=z.s} ak (x 4) (x 5) (x 6) p (tS q.1 aW) (x 2),ee "list_iterator" l.length,I l bw,ez (some (x 3))]++(bX w.params z (jM S (q::aW) λk=>x (k+7))).map (·.2)) (λ_=>[]) (λ_=>[cC]) (λ_=>bZ):=λA s aS has bU=>by
 have o:=bz.pj (S:=[[(D.G,oQ w.params {D with s:=z.s} ak p)],[(J,b4 "list_iterator" aT 0)],[(aT,I l bw)],[(894,ez bh)],bX w.params z S,cC]) (by kernel_rfl) has bU;have a4:=cY (a:=q) (l:=aW);have bc:l[0]? =some (.ref q.1):=by refine H al ?_;rfl
 have ap:l.drop 1=dR aW:=by refine H al ?_;rfl
 have bK:1+aW.length=l.length:=by rw [al,dR,de,ed,lB]
 obtain ⟨ah,aN,bx⟩:=KY (b3 q a4);have jW:q.2.length<=3:=by rcases (b3 q a4).2.1 with h | h <;> lia
 refine K8 (C:=⟨J,aT,bw,l,cC⟩) (ak:=ak) (p:=p) (cw:=q) (bk:=λX=>⟨X 0 1,X 2 1,X 2 4,X 1 3,X 2 2,X 2 3,λk=>X 2 (k+6)⟩) dT (λm=>by have:=hs m;lia) (b3 q a4) (aU q a4) aS (aac w {D with s:=z.s} ak p J aT 0 bw q.1 q.2.length l bh q.2 (q.2.map λp=>fK p.1) q.2.length bc (b3 q a4).1 ah aN bx ah) (by intro n t X;kernel_rfl) (o.eQ (aY 0x1432105) rfl rfl) ?_;intro an X ab ae o;refine K7 (C:=⟨J,aT,bw,l,cC⟩) aS aW 1 _ _ _ _ an ap bK (λkm h=>aU km (dG _ h)) (λkm h=>b3 km (dG _ h)) (BK dT _ _ _) (λm=>?_) o ?_
 ·refine iK (vo (Hu S _ ab ae m) _) ?_
  refine H (sI ..) (H (de ..) ?_);have:=hs m;lia
 ·intro bi mP pV f o
  have e:fa (q.2.map (·.1)) (λj=>hP [bi.heap.objs.size,bi.toks,mP,pV,X 0 1,X 2 1,X 2 4,X 2 6,X 2 7,X 2 8,ab,ae] f (j+7))=fa (q.2.map (·.1)) λk=>X 2 (k+6):=AE λj dB=>by
   rw [de] at dB
   match j,on dB jW with
   | 0,_=>rfl
   | 1,_=>rfl
   | 2,_=>rfl
   | j+3,h=>exact absurd h (j9.mpr (G9 3 j))
  have gG:jM S (q::aW) (λk=>hP [bi.heap.objs.size,bi.toks,mP,pV,X 0 1,X 2 1,X 2 4,X 2 6,X 2 7,X 2 8,ab,ae] f (k+7))=jM (ou S (fa (q.2.map (·.1)) λk=>X 2 (k+6)) ab ae) aW f:=by rw [jM,e];rfl
  refine ⟨hP [bi.heap.objs.size,bi.toks,mP,pV,X 0 1,X 2 1,X 2 4,X 2 6,X 2 7,X 2 8,ab,ae] f,rfl,trivial,rfl,rfl,?_⟩;show jI s bi _ _ ([iU w.params {D with s:=z.s} ak (X 0 1) (X 2 1) (X 2 4) p (tS q.1 aW) mP,ee "list_iterator" l.length,I l bw,ez (some pV)]++(bX w.params z (jM S (q::aW) λk=>hP [bi.heap.objs.size,bi.toks,mP,pV,X 0 1,X 2 1,X 2 4,X 2 6,X 2 7,X 2 8,ab,ae] f (k+7))).map (·.2)) [] [cC];refine H gG ?_;exact bz.ny (o.eQ (aY 0x1054321) rfl rfl) rfl (by kernel_rfl)
noncomputable def RA (w:aG)(D:gx)(z:cs)(S:cU)(J aT bw ak:y)(l:B ag)(cC:bN)(p:y×y)(bh:aK y)(q:dK)(aW:B dK)(hI:D.s=z.s)(al:l=dR (q::aW))(aU:∀ km∈q::aW,(km.1,I (km.2.map ad) km.2.length)∈cC)(b3:∀ km∈q::aW,hB km.2)(dT:j7 S)(hs:∀ m,(S.aa m).length+3 * (aW.length+1)<1000) :hy w:=ec.mk (aar (w:=w) (D:=D) (z:=z) (J:=J) (aT:=aT) (bw:=bw) (ak:=ak) (p:=p) (bh:=bh) al aU b3 dT hs)
end
section
variable {w:aG}
theorem Jm (af:bN) :([af] :B bN).flatten=af:=by exact H (fz ..) (H (h2 ..) (H (d9 ..) rfl))
noncomputable def mE:B (ai×y)->ai->ai
 | [],a=>a
 | p::r,a=>mE r (a+p.1)
theorem O3 {A:c9}{ac:cD->aR->Prop}{J aT S e:y}{l:B ag}(dC:A.handled=none)(az:J≠aT)(aJ:S≠J)(bg:S≠aT) :∀ (R:B (ai×y)) (i:y) (s:aR) (a:ai) (uY c:y) (U:ai),(U=0∨U=2)->l.drop i=R.map fZ->i+R.length=l.length->
  s.heap.IsListIter J aT i->s.heap.get? aT=some (I l e)->s.heap.get? S=some (I [.int a uY] c)->
  (∀ an js,(∀ b o,b≠J->b≠S->s.heap.get? b=some o->an.heap.get? b=some o)->(∃ o,an.heap.get? S=some o)->an.os=s.os->an.gens=s.gens->ac (.ok (.ret (.int (mE R a) js))) an)->
  codeAny (model aL w) A (.builtin "sum.loop" ⟨[.ref J,.ref S,rawInt U,rawInt 0],[]⟩) ac s
 | [],i,s,a,uY,c,U,m8,ap,al,aF,zg,dT,cq=>by
  refine h5 F.entry_sum_loop λei Q E gG dh kA iB=>?_;rw [rf vh _] at gG;subst gG;show wpAny _ A.in1 (xJ (.ref S) >>= _) _ _ s;refine bE (u8 dT rfl ?_);show wpAny _ A.in1 (tryCatch (pO (.ref J)) _ >>= _) _ _ s;refine bE (Gj (afT dC aF (tR zg) ?_ λct he=>?_))
  ·have:l.length=i:=al.symm
   subst this;exact Array.getElem?_size
  ·exact wpAny_pure (dh _ _ (cq _ uY (λb o x _ h=>he b o x h) ⟨_,he S _ aJ dT⟩ rfl rfl))
 | p::R,i,s,a,uY,c,U,m8,ap,al,aF,zg,dT,cq=>by
  have bc:l[i]? =some (fZ p):=by
   have:(l.drop i)[0]? =some (fZ p):=by refine H ap ?_;rfl
   rwa [o9] at this
  have Dd:l.drop (i+1)=R.map fZ:=by refine df (om ..) (H ap ?_);rfl
  rw [ed] at al;refine h5 F.entry_sum_loop λei Q E gG dh kA iB=>?_;rw [rf vh _] at gG;subst gG;show wpAny _ A.in1 (xJ (.ref S) >>= _) _ _ s;refine bE (u8 dT rfl ?_);show wpAny _ A.in1 (tryCatch (pO (.ref J)) _ >>= _) _ _ s;refine bE (Gj (afU aF (tR zg) (x:=fZ p) (by simpa using bc) λct kB he=>?_));have pw:ct.get? S=some (I [.int a uY] c):=he.extBut S _ aJ dT;have zf:ct.get? aT=some (I l e):=he.extBut aT _ (ih az) zg;have next:∀ (pS:ai) (ff js be:y) (oC:gg),(pS=0∨pS=2)->Heap.ExtBut S ct oC->oC.get? S=some (I [.int (a+p.1) js] ff)->codeAny (model aL w) A (.builtin "sum.loop" ⟨[.ref J,.ref S,rawInt pS,rawInt 0],[]⟩) ac {s with heap:=oC,toks:=be}:=λpS ff js be oC y1 bu Xx=>by refine O3 (l:=l) (aT:=aT) (e:=e) dC az aJ bg R (i+1) _ (a+p.1) js ff pS y1 Dd (by omega) (kB.at λo gj=>bu J o (ih aJ) gj) (bu aT _ (ih bg) zf) Xx ?_;intro bi ar ab ae ak aD;exact cq bi ar (λb o x as gj=>ab b o x as (bu b o as (he.extBut b o x gj))) ae ak aD
  rcases m8 with rfl | rfl
  ·show wpAny _ A.in1 (if (_:bW)=true then (mkInt (a+p.1) >>= _) else _) _ _ _
   split
   ·refine bE (p4 ?_)
    show wpAny _ A.in1 (rb S (λ_=>#[.int (a+p.1) s.toks]) >>= _) _ _ _;refine bE ?_;exact ob pw rfl (wpAny_pure (kA _ _ ⟨uE vh _,next 0 _ _ _ _ (.inl rfl) (hQ ..).extBut (hc _ pw rfl)⟩))
   ·refine bE (wpAny_rule ?_)
    refine bE (wpAny_attempt (oa (wpAny_add_int ?_)));show wpAny _ A.in1 (rb S (λ_=>#[.int (a+p.1) s.toks]) >>= _) _ _ _;refine bE (ob pw rfl ?_);have oD:=hc (e4 λ_=>#[Value.int (a+p.1) s.toks]) pw rfl;refine bE (u7 ?_);exact bE (ob oD rfl (wpAny_pure (kA _ _ ⟨uE vh _,next 2 _ _ _ _ (.inr rfl) ((hQ ..).extBut.trans (hQ ..).extBut) (hc _ oD rfl)⟩)))
  ·show wpAny _ A.in1 ((holding [Value.int p.1 p.2] (vD .Add (.int a uY) (.int p.1 p.2))).attempt >>= _) _ _ _
   refine bE (wpAny_attempt (oa (wpAny_add_int ?_)));show wpAny _ A.in1 (rb S (λ_=>#[.int (a+p.1) s.toks]) >>= _) _ _ _;refine bE (ob pw rfl ?_);have oD:=hc (e4 λ_=>#[Value.int (a+p.1) s.toks]) pw rfl;refine bE (u7 ?_);exact bE (ob oD rfl (wpAny_pure (kA _ _ ⟨uE vh _,next 2 _ _ _ _ (.inr rfl) ((hQ ..).extBut.trans (hQ ..).extBut) (hc _ oD rfl)⟩)))
theorem aeY {a e:y}{R:B (ai×y)} :b0 w 0 (.builtin "sum" ⟨[.ref a],[]⟩) none [(a,I (R.map fZ) e)] (λx=>.ok (.ret (.int (mE R 0) (x 2)))) (λ_=>[I (R.map fZ) e]) (λ_=>[]) (λ_=>bZ):=λA s aS has bU=>by
 have bY:s.heap.get? a=some (I (R.map fZ) e):=has.abO;refine h5 F.entry_sum λei Q E gG dh dC iB=>?_;rw [rf F.plain_sum _] at gG;subst gG;show wpAny _ A.in1 (Builtin.«sum» ⟨[.ref a],[]⟩) _ _ s;unfold Builtin.«sum»;simp only [ed,nt];rw [dt (by decide)];refine bE (xP (show Builtin.Builtins.bindParams "sum" ["start"] 0 {}=pure [none] from rfl) ?_);refine bE (wpAny_pyIter_list (tR bY) ?_);refine bE (p4 ?_);refine bE (wpAny_pure ?_);simp only [List.forIn_cons,List.forIn_nil];refine bE (bE (bE (Pz (T:="int") (b:=false) (Pg _ _ _) PySem.sub_int_str ?_)));simp only [rg,qJ];refine wpAny_pure (bE (bE (Pz (T:="int") (b:=false) (Pg _ _ _) PySem.sub_int_bytes ?_)));simp only [rg,qJ];refine wpAny_pure (bE (bE (Pz (T:="int") (b:=false) (Pg _ _ _) PySem.sub_int_bytearray ?_)));simp only [rg,qJ];refine wpAny_pure (wpAny_pure ?_);refine bE (sJ ?_);have al:=hC bY;have oG:(s.heap.push {cls:=.type "list_iterator",data:=.fields #[.ref a,.int 0 0]}).get? s.heap.objs.size=some (b4 "list_iterator" a 0):=nq _ rfl;have hz:(s.heap.push {cls:=.type "list_iterator",data:=.fields #[.ref a,.int 0 0]}).objs.size=s.heap.objs.size+1:=ku ..;refine wpAny_pure (dC _ _ ⟨uE vh _,O3 (l:=R.map fZ) (aT:=a) (e:=e) (i:=0) aS.handled (pe al) (by rw [hz];exact Nat.succ_ne_self _) (by rw [hz];exact pe (Bl al)) R _ 0 _ _ 0 (.inl rfl) rfl (by exact H (de ..) (H (jd ..) rfl)) ⟨_,iv _ oG,rfl,rfl⟩ (iv _ (iv _ bY)) (nq _ rfl) ?_⟩);intro an js ab ae ak aD;have zr:∀ b o,s.heap.get? b=some o->an.heap.get? b=some o:=λb o gj=>by have aQ:=hC gj;exact ab b o (k0 aQ) (by refine H hz ?_;exact k0 (Bl aQ)) (iv _ (iv _ gj))
 have i9:s.heap.objs.size<=an.heap.objs.size:=by obtain ⟨o,b1⟩:=ae;have:=hC b1;rw [hz] at this;exact Ha (fh (pd _) this)
 refine ⟨ca an.heap.objs.size an.toks [js],rfl,trivial,rfl,rfl,⟨rfl,λq a4=>?_,λ_ h=>((c4 h).elim),mO,λ_ h=>((c4 h).elim),⟨λb o gj _=>zr b o gj,i9,ak,[],by refine H aD ?_;simp,λ_ h=>((c4 h).elim)⟩⟩⟩;refine H (dN.mp a4 ..) ?_;exact zr _ _ bY
noncomputable def RW (w:aG)(a e:y)(R:B (ai×y)) :cV w:=⟨0,_,none,_,_,_,_,_,aeY (w:=w) (a:=a) (e:=e) (R:=R)⟩
end
noncomputable abbrev iE (G:aM) :cn:=.func (ew 44).2.1 (ek G)
noncomputable def Et:B c5:=(ew 44).2.1.take 5
noncomputable abbrev pH (P:bp)(dE M:y) :ao:=eM [aj P z2 M (.ref dE)] 1
noncomputable def t7 (S:B (ai×y))(a:y) :B (ai×y):=S.take 6++[(11,a),(42,a+1),(71,a+2)]
noncomputable def rU (S:B (ai×y))(a:y) :ai×y:=(t7 S a).headD (0,0)
noncomputable def lv (S:B (ai×y))(a:y) :B (ai×y):=(t7 S a).tail
theorem Kp (S:B (ai×y))(a:y) :rU S a::lv S a=t7 S a:=by
 unfold rU lv
 induction h:t7 S a with
 | nil=>exact absurd (vl.mp h).2 (λe=>(by injection e))
 | cons q R=>rfl
theorem rR (S:B (ai×y))(a:y) :(S.map fZ).take 6++[.int 11 a,.int 42 (a+1),.int 71 (a+2)]=(rU S a::lv S a).map fZ:=by rw [Kp,t7,c0,Ba];rfl
theorem zt (S:B (ai×y))(a:y) :(lv S a).length<9:=by
 have h:(rU S a::lv S a).length<=9:=by rw [Kp,t7,ea,G0];exact vo (Nat.min_le_left ..) 3
 rw [ed] at h;omega
theorem Zp (S:B (ai×y))(a:y) :(lv S a).length<999999:=fh (zt S a) (by decide)
theorem W3 (x:ai)(f:y->y) :hB (fa (gu x) f):=by
 refine ⟨λp L=>?_,?_,?_⟩
 ·have:p.1∈(fa (gu x) f).map (·.1):=ep L
  rw [n9] at this;exact fh (KM _ this) (by decide)
 ·rw [sI]
  unfold gu;cases (x.fdiv 64).fmod 2==1
  ·exact .inl rfl
  ·exact .inr rfl
 ·rw [n9]
  unfold gu;cases (x.fdiv 64).fmod 2==1
  ·exact gW
  ·refine gy.mpr ⟨λh=>?_,gW⟩
   have h:=dN.mp h;have a:=qw (x.fdiv 8);have b:=qw (x.fdiv 8+3);have e:(x.fdiv 8).fmod 8=(x.fdiv 8+3).fmod 8:=by exact H a.1 (H b.1 (H h rfl))
   rw [P1 _ (by decide),P1 _ (by decide)] at e;omega
theorem Ei:∀ (l:B ai) (f:y->y),∀ q∈fJ l f,hB q.2
 | [],_,_,h=>(c4 h).elim
 | x::r,f,q,h=>by
  rcases dx.mp h with rfl | h
  ·exact W3 x λj=>f (j+1)
  ·exact Ei r _ q h
theorem ZU (l:B ai)(f:y->y) :∀ q∈fJ l f,(q.1,I (q.2.map ad) q.2.length)∈tV l f:=λq a4=>ep (f:=g0) a4
theorem zC:∀ (l:B ai) (f:y->y),(fJ l f).length=l.length
 | [],_=>rfl
 | x::r,f=>fV Nat.succ (zC r _)
noncomputable def hW (S:B (ai×y))(a:y) :B ai:=(rU S a::lv S a).map (·.1)
noncomputable def wx (s bs aw fo fD eF fO a:y)(f:y->y) :cs:=⟨s,bs,aw,fo,fD,eF,fO,λi=>f (4 * i),λi=>f (4 * i+2),λi=>f (4 * i+3),λi=>a+i⟩
noncomputable def e9 (ar au:y)(f:y->y) :cU:=⟨.none,0,ar,0,au,λ_=>0,λi=>f (4 * i+1),λ_=>[],λ_=>0⟩
theorem OQ (ar au:y)(f:y->y) :j7 (e9 ar au f):=⟨rfl,rfl,rfl⟩
theorem aeC {ar au:y}{f:y->y}{S:B (ai×y)}{a:y}{aI:y->y}(m:y) :((e9 ar au f).aa m).length+3 * ((fJ ((lv S a).map (·.1)) aI).length+1)<1000:=by have:=zt S a;refine H (zC ..) (H (de ..) ?_);show 0+_ <_;omega
noncomputable def RB (w:aG)(D:gx)(bs aw fo fD eF fO ar au a:y)(f:y->y)(J aT bw ak:y)(p:y×y)(bh:aK y)(S:B (ai×y))(b:y)(aI:y->y) :hy w:=
 RA w D (wx D.s bs aw fo fD eF fO a f) (e9 ar au f) J aT bw ak (zB (hW S b) aI) (tV (hW S b) aI) p bh (aI 0,fa (gu (rU S b).1) λj=>aI (j+1)) (fJ ((lv S b).map (·.1)) λk=>aI (k+4)) rfl rfl (ZU (hW S b) aI) (Ei (hW S b) aI) (OQ ar au f) aeC
noncomputable abbrev Le (P:bp)(D:gx)(ak aD a0 b7 c:y)(p:y×y)(a b:y)(i:ai)(t:y) :ao:=k9 (r7 P D++[aj P nY ak (ad p),aj P sr aD (.ref a),aj P sh a0 (.ref b),aj P qX b7 (.int i t)]) 7 (lY (ek D.G) c)
noncomputable def aaF (w:aG)(G dE M e:y)(S:B (ai×y))(al:(S.map fZ).length<1000000)(bh:aK y)(n t:y) :bb w:=
  .ax [1,2,2,2,2] [0,2] 1 (B2 w dE n e t 6 6 (dF fZ S) none rfl al) [1,3] λah=>.ax [5,6,5,5] [0,2] 1 (rx w (ah 2) (ah 0) 0 0 (List.take 6 (dF fZ S)) [.int 11 (ah 1),.int 42 (ah 1+1),.int 71 (ah 1+2)] (List.take 6 (dF fZ S)++
 [PySem.Value.int 11 (ah 1+0),PySem.Value.int 42 (ah 1+1),PySem.Value.int 71 (ah 1+2)]) none (by first | omega | (simp;done) | (simp;omega)) rfl) [4,5] λaN=>.fF [7,7,7,8] [0,0,2] 3 (Ry w G (aN 0) (aN 0+1) (aN 0+2) (aN 2) (List.take 6 (dF fZ S)++
 [PySem.Value.int 11 (ah 1+0),PySem.Value.int 42 (ah 1+0+1),PySem.Value.int 71 (ah 1+0+2)]) (rU S (ah 1+0)) (lv S (ah 1+0)) (rR S (ah 1+0)) (Zp S (ah 1+0))) [7,6,8,9] [] λbx=>.ax (aY 0x1000aaa11) [2] 0 (RY w) [] λcj=>.ax [1,1,0,0] [2] 0 (ry w) [] λcg=>.ax [14,14,14,15] [0,0,2] 1 (RR w ⟨G,dE,aN 0+1,cj 2,M,bx 1,cj 1⟩ (cj 3) (cj 4) (cj 5) (cj 6) (cj 7) (cj 8) (cj 9) (cj 10) (cg 0) (cg 2) 0 (cg 3)) (aY 0x1cbade0) λfc=>.fF [1,9,9,9,40] [0,0,2] 1 (RB w ⟨G,dE,aN 0+1,cj 2,M,bx 1,cj 1⟩ (cj 3) (cj 4) (cj 5) (cj 6) (cj 7) (cj 8) (cj 9) (cj 10) (cg 3) (λk=>fc (k+3)) (fc 0) (aN 0+1) ((lv S (ah 1)).length+1) (fc 2) (11,cg 3+11) bh S (ah 1) (λk=>bx (k+3))) [0,39,8,2,10,11,12,15,17,19,21,23,25,27,29,31,33,35,37,16,18,20,22,24,26,28,30,32,34,36,38] [true] λfS=>.ax [0,0,1] [0,2] 0 (RW w dE e S) [1] λjH=>.ax [] [0,0,0,2] 0 (jN w ((mE S 0).fmod 3) 1 ((mE S 0).fmod 3+1) (jH 1+1) (jH 1+2) none rfl) [] λoc=>.bd [1,1] [] 0 (.ret (.ok .next)) (d4 [0,1,2,8,10,11,12,15,17,19,21,23,25,27,29,31,33,35,37,16,18,20,22,24,26,28,30,32,34,36,38] ([Le w.params ⟨G,dE,aN 0+1,cj 2,M,bx 1,cj 1⟩ (fc 2) (fS 4) (fS 5) (oc 1) (fS 6) (11,cg 3+11) (tS (bx 3) (fJ ((lv S (ah 1)).map (·.1)) λk=>bx (k+7))) (fS 2) ((mE S 0).fmod 3+1) (oc 2),I (S.map fZ) e,ez (some (fS 3)),I (zB (hW S (ah 1)) λk=>bx (k+3)) ((lv S (ah 1)).length+1)]++(bX w.params (wx (cj 2) (cj 3) (cj 4) (cj 5) (cj 6) (cj 7) (cj 8) (cg 3) λk=>fc (k+3)) (jM (e9 (cj 9) (cj 10) λk=>fc (k+3)) (fJ (hW S (ah 1)) λk=>bx (k+3)) λk=>fS (k+7))).map (·.2)))
theorem aaG (w:aG)(G dE M e:y)(S:B (ai×y))(al:(S.map fZ).length<1000000)(bh:aK y) :eu w (some []) 12 none ([(G,pH w.params dE M),(dE,I (S.map fZ) e),(894,ez bh)]) ([]) (iE G) (xw Et (ek G)) (aaF w G dE M e S al bh):=by revert w;exact cX
noncomputable def to:B c5:=(ew 43).2.1
noncomputable def qp:=sG to[1]?
noncomputable def qo:=pu qp.2.1[1]?
noncomputable abbrev IJ:a6:=U uA
noncomputable abbrev KF:a6:=U [107,110,111,119,110]
noncomputable abbrev KG:a6:=U nY
noncomputable abbrev jQ (G bF bv:aM) :cE:={mT (ew 43) IJ 929 928 G with cells:=[(KG,bv),(KF,bF)]}
noncomputable abbrev pp (G bF bv:aM) :cn:=.whileLoop qp.1 qp.2.1 qp.2.2 (jQ G bF bv)
noncomputable abbrev lH (G bF bv J:aM) :cn:=.forLoop qo.1 (.ref J) qo.2.2.1 qo.2.2.2 (jQ G bF bv)
structure i0 where
 (G bF bv d2 bA bR M ab ae ak:y)
 h:ai
noncomputable abbrev IG (P:bp)(D:i0)(cr:y) :B f8:=[aj P w0 D.M (.ref D.d2),aj P qX D.ab (.int D.h D.bR),aj P uf D.ae (.ref D.bA),aj P [102,114,101,101] D.ak (.ref cr)]
noncomputable abbrev yF (P:bp)(D:i0)(cr:y) :ao:=eM (IG P D cr) 4
noncomputable abbrev hj (P:bp)(D:i0)(cr aD cW:y) :ao:=eM (IG P D cr++[aj P [119,97,105,116,115] aD (.ref cW)]) 5
noncomputable def yE:cT:=Ga qo.2.2.1[0]?
noncomputable def IL:c5:=mD qo.2.2.1 0
noncomputable abbrev Cl (G bF bv bf:aM) :cE:={scope:=vH (uR yE),locals:=bf,globals:=3,cells:=[(KG,bv),(KF,bF)],qual:=IJ++".<locals>.",func:=none,code:=.ref 928,frame:=some G,builtins:=0}
noncomputable def pG (P:bp)(eE bl:y) :aK (y×y×y)->ao
 | none=>{cls:=.type "dict",data:=.dict ⟨[aj P sr eE (.ref bl)]⟩ 1}
 | some (ki,p)=>{cls:=.type "dict",data:=.dict ⟨[aj P sr eE (.ref bl),aj P [119,111,114,100] ki (ad p)]⟩ 2}
noncomputable def r4 (o:aK (y×y×y))(t:y) :y:=match o with
 | none=>t
 | some (ki,_)=>ki
noncomputable abbrev tq (G bF bv J a3 bf:aM) :cn:=.compLoop yE 0 (.ref J) (.ref a3) (Cl G bF bv bf)
noncomputable abbrev UF (G bF bv J a3 bf:aM) :cn:=.compStart yE 0 (.ref J) (.ref a3) (Cl G bF bv bf)
noncomputable abbrev tp (G bF bv J a3 bf:aM) :cn:=.compLoop yE 1 (.ref J) (.ref a3) (Cl G bF bv bf)
section
section
variable {w:aG}
theorem Sw {A:c9}{s:aR}{R:cD->aR->Prop}{yJ:cT}{qx:ri}{hO kh:cT}{zi:B cT}{aW:B ri}{scope:l4}{pos:c2}{J a3:ag}{env:cE}
  (bG:codeAny (model aL w) A (.compLoop (.ListComp yJ (qx::⟨hO,kh,zi,0⟩::aW) scope pos) 1 J a3 env) R s)
  (h:wpAny (model aL w) A (q0 J) (λD2 an=>codeAny (model aL w) A (.compLoop (.ListComp yJ (qx::⟨hO,kh,zi,0⟩::aW) scope pos) 1 D2 a3 env) R an)
   (notedBy (model aL w) A env λx an=>R (.error x) an) s) :
  codeAny (model aL w) A (.compStart (.ListComp yJ (qx::⟨hO,kh,zi,0⟩::aW) scope pos) 1 J a3 env) R s:=by
 refine Ia ?_;show wpAny _ _ ((compStart (.ListComp yJ (qx::⟨hO,kh,zi,0⟩::aW) scope pos) 1 J a3 env).onRaise (λx=>do oT x env;standAt theWindowsPlace)) _ _ s;refine wpAny_notedAt ?_;unfold compStart;show wpAny _ _ (ask >>= _) _ _ s;refine bE (wpAny_askSetting (wpAny_ite ?_));split
 ·first
   | exact bE (wpAny_pure (wpAny_pure (And.intro rfl bG)))
   | exact wpAny_pure (And.intro rfl bG)
 ·first
   | exact bE (wpAny_rule (bE (AF (bE (Gh h (λD2 an ct=>wpAny_pure (And.intro rfl ct)) λ_ _ x=>x)))))
   | (refine bE (wpAny_rule ?_);show wpAny _ _ (standAt kh.pos >>= _) _ _ s;exact bE (AF (bE (Gh h (λD2 an ct=>wpAny_pure (And.intro rfl ct)) λ_ _ x=>x))))
noncomputable def ZA:cT->cT×ri×cT×cT×B cT×B ri×l4×c2
 | .ListComp e (aI::⟨t,i,c,_⟩::r) s p=>(e,aI,t,i,c,r,s,p)
 | _=>default
noncomputable abbrev Zz (q:cT×ri×cT×cT×B cT×B ri×l4×c2) :cT:=.ListComp q.1 (q.2.1::⟨q.2.2.1,q.2.2.2.1,q.2.2.2.2.1,0⟩::q.2.2.2.2.2.1) q.2.2.2.2.2.2.1 q.2.2.2.2.2.2.2
theorem Ib {bj:y}{e:cT}{J:y}{a3:ag}{env:cE}{pre:B (aM×ao)}{bB:(y->y)->cD}{cB:(y->y)->B ao}{bV:(y->y)->B (aM×ao)}{cond:(y->y)->Prop}
  (he:e=Zz (ZA e))(aF:∀ (A:c9) s (Q:ag->aR->Prop) E,dX s.heap pre->Q (.ref J) s->wpAny (model aL w) A (q0 (.ref J)) Q E s)
  (h:b0 w bj (.compLoop e 1 (.ref J) a3 env) none pre bB cB bV cond) :b0 w bj (.compStart e 1 (.ref J) a3 env) none pre bB cB bV cond:=λA s aS has bU=>by
 have aV:=h A s aS has bU;rw [he] at aV ⊢;exact Sw aV (aF _ _ _ _ has aV)
end
section
variable (w:aG)(G bF bv J a3 bf aT k bQ cK eE bl cA:y)(z:B ag)(ac:B (y×y))(a8:B ag)(q:y×y)(o:aK (y×y×y))(bc:z[k]? =some (ad q))(a4:q.1<12)(cq:∀ p∈ac,p.1<12)(aQ:h0 q.1 ac=true)
noncomputable def Uv (n t:y) :bb w:=
  .ax [1,1] [0,0,2] 0 (jO w J aT 0 k z (ad q) none bc) [0,1] λah=>.ax (aY 0x16665444) [0,2] 0 (yr w bQ cK q.1 q.2 ac true none a4 cq aQ) [5] λaN=>.bd [] [3] 0 (.dr (tp G bF bv J a3 bf)) (d4 qV [b4 "list_iterator" aT (k+1),I z 0,I a8 cA,pG w.params eE bl (some (r4 o (ah 1),q)),cx (.ref bQ),I (ac.map ad) cK])
theorem Uw:b2 w 3 none ([(J,b4 "list_iterator" aT k),(aT,I z 0),(a3,I a8 cA),(bf,pG w.params eE bl o),(bF,cx (.ref bQ)),(bQ,I (ac.map ad) cK)]) (tp G bF bv J a3 bf) (Uv w G bF bv J a3 bf aT k bQ cK eE bl cA z ac a8 q o bc a4 cq aQ):=by revert w;refine nk λw fe fI hE hF=>?_;rcases fe with _ | _ <;> rcases o with _ | _ <;> (intro F n t;kernel_rfl)
section
variable (aQ:h0 q.1 ac=false)(cM:a8.length<1000000)
noncomputable def Ut (n t:y) :bb w:=
  .ax [1,1] [0,0,2] 0 (jO w J aT 0 k z (ad q) none bc) [0,1] λah=>.ax (aY 0x16665444) [0,2] 0 (yr w bQ cK q.1 q.2 ac false none a4 cq aQ) [5] λaN=>.ax [4,3] [0,2] 0 (hS w a3 cA a8 (a8++[PySem.Value.str (ay q.fst) q.snd]) (.str (ay q.fst) q.snd) none cM rfl) [2] λbx=>.bd [] [3] 0 (.dr (tp G bF bv J a3 bf)) (d4 qV [b4 "list_iterator" aT (k+1),I z 0,I (a8++[ad q]) (cA+1),pG w.params eE bl (some (r4 o (ah 1),q)),cx (.ref bQ),I (ac.map ad) cK])
theorem Uu:b2 w 3 none ([(J,b4 "list_iterator" aT k),(aT,I z 0),(a3,I a8 cA),(bf,pG w.params eE bl o),(bF,cx (.ref bQ)),(bQ,I (ac.map ad) cK)]) (tp G bF bv J a3 bf) (Ut w G bF bv J a3 bf aT k bQ cK eE bl cA z ac a8 q o bc a4 cq aQ cM):=by revert w;refine nk λw fe fI hE hF=>?_;rcases fe with _ | _ <;> rcases o with _ | _ <;> (intro F n t;kernel_rfl)
end
section
variable (o:ao)(bc:z.length=k)
noncomputable def Ur (n t:y) :bb w:=
  .ax [1,1] [0,0,2] 0 (nC w J aT 0 k z bc) [0,1] λah=>.bd [7] [] 0 (.ret (.ok .next)) (d4 qV [ee "list_iterator" k,I z 0,I a8 cA,o,cx (.ref bQ),I (ac.map ad) cK])
theorem Us:b2 w 3 none ([(J,b4 "list_iterator" aT k),(aT,I z 0),(a3,I a8 cA),(bf,o),(bF,cx (.ref bQ)),(bQ,I (ac.map ad) cK)]) (tp G bF bv J a3 bf) (Ur w J aT k bQ cK cA z ac a8 o bc):=c6
end
end
noncomputable def jp (ac R:B (y×y)) :B (y×y):=R.filter λq=>!h0 q.1 ac
noncomputable def na (o:aK (y×y×y))(R:B (y×y))(t:y) :aK (y×y×y):=R.foldl (λo q=>some (r4 o t,q)) o
theorem zx:∀ (R:B (y×y)) (ki:y) (p:y×y) (t u:y),na (some (ki,p)) R t=na (some (ki,p)) R u
 | [],_,_,_,_=>rfl
 | q::R,ki,p,t,u=>zx R ki q t u
section
variable {w:aG}
theorem Co {G bF bv J a3 bf aT bQ cK eE bl:y}{z:B ag}{ac:B (y×y)}(cq:∀ p∈ac,p.1<12) :∀ (R:B (y×y)) (k cA:y) (o:aK (y×y×y)) (a8:B ag),z.drop k=R.map ad->k+R.length=z.length->a8.length+R.length<1000000->(∀ q∈R,q.1<12)->
  b0 w 3 (tp G bF bv J a3 bf) none [(J,b4 "list_iterator" aT k),(aT,I z 0),(a3,I a8 cA),(bf,pG w.params eE bl o),(bF,cx (.ref bQ)),(bQ,I (ac.map ad) cK)] (λ_=>.ok .next)
   (λx=>[ee "list_iterator" z.length,I z 0,I (a8++(jp ac R).map ad) (x 2),pG w.params eE bl (na o R (x 3)),cx (.ref bQ),I (ac.map ad) cK]) (λ_=>[]) (λ_=>bZ)
 | [],k,cA,o,a8,h,aV,al,bJ=>by have e:z.length=k:=aV.symm;subst e;refine mf (Us w G bF bv J a3 bf aT z.length bQ cK cA z ac a8 _ rfl) ?_;intro n t ah _ a b;refine ⟨ca a b [cA,0],rfl,rfl,rfl,?_,rfl,trivial⟩;show _ =d4 _ [_,_,I (a8++[]) _,_,_,_]++_;refine H (d9 a8 ..) ?_;kernel_rfl
 | q::R,k,cA,o,a8,h,aV,al,bJ=>by
  rw [ed] at aV al;have bc:z[k]? =some (ad q):=by
   have:(z.drop k)[0]? =some (ad q):=by refine H h ?_;rfl
   rwa [o9] at this
  have ap:z.drop (k+1)=R.map ad:=by refine df (om ..) (H h ?_);rfl
  have a4:=bJ q (cY ..)
  induction aQ:h0 q.1 ac with
  | true=>
   have gj:jp ac (q::R)=jp ac R:=by unfold jp;refine H (sS ..) (H aQ ?_);rfl
   refine rM (Uw w G bF bv J a3 bf aT k bQ cK eE bl cA z ac a8 q o bc a4 cq aQ) ?_;intro n t ah _ aN _;refine ⟨_,[],_,_,_,_,?_,Co cq (aT:=aT) (bQ:=bQ) (eE:=eE) (bl:=bl) (cK:=cK) R (k+1) cA (some (r4 o (ah 1),q)) a8 ap (by omega) (by omega) λp L=>bJ p (dG _ L),λx _=>⟨hP [x 0,x 1,x 2,ah 1] x,rfl,rfl,rfl,?_,rfl,trivial⟩⟩
   ·kernel_rfl
   ·refine H gj (H (zx R _ q (x 3) (ah 1) ..) ?_)
    rfl
  | false=>
   have gj:jp ac (q::R)=q::jp ac R:=by unfold jp;refine H (sS ..) (H aQ ?_);rfl
   refine rM (Uu w G bF bv J a3 bf aT k bQ cK eE bl cA z ac a8 q o bc a4 cq aQ (by omega)) ?_;intro n t ah _ aN _ bx _;refine ⟨_,[],_,_,_,_,?_,Co cq (aT:=aT) (bQ:=bQ) (eE:=eE) (bl:=bl) (cK:=cK) R (k+1) (cA+1) (some (r4 o (ah 1),q)) (a8++[ad q]) ap (by omega) (by refine H (ea ..) (H (ig ..) ?_);omega) λp L=>bJ p (dG _ L),λx _=>⟨hP [x 0,x 1,x 2,ah 1] x,rfl,rfl,rfl,?_,rfl,trivial⟩⟩
   ·kernel_rfl
   ·refine H gj (H (zx R _ q (x 3) (ah 1) ..) (H (f9 ..) ?_))
    rfl
end
noncomputable def Rm (w:aG)(G bF bv J a3 bf aT bQ cK eE bl cA:y)(z:B ag)(ac:B (y×y))(o:aK (y×y×y))(a8:B ag)(R:B (y×y))(cq:∀ p∈ac,p.1<12)(ej:z=R.map ad)(al:a8.length+R.length<1000000)(bJ:∀ q∈R,q.1<12) :cV w:=
 ⟨3,_,none,_,_,_,_,_,Ib (w:=w) (by kernel_rfl) (r2 (aT:=aT) (k:=0) (cY ..)) (Co (w:=w) (G:=G) (bF:=bF) (bv:=bv) (J:=J) (a3:=a3) (bf:=bf) (aT:=aT) (bQ:=bQ) (cK:=cK) (eE:=eE) (bl:=bl) cq R 0 cA o a8 ej (by exact H ej (H (de ..) (H (jd ..) rfl))) al bJ)⟩
end
section
noncomputable def qO (P:bp) :aK (y×y×aK (y×y×y))->ao
 | none=>iT
 | some (eE,bl,o)=>pG P eE bl o
noncomputable def jE (v:aK (y×y×aK (y×y×y))) :aK (y×y×y):=match v with
 | none=>none
 | some (_,_,o)=>o
noncomputable def oL (v:aK (y×y×aK (y×y×y)))(t:y) :y:=match v with
 | none=>t
 | some (eE,_)=>eE
section
variable (w:aG)(G bF bv J a3 bf aT k bQ cK bl cA bw e i a:y)(z:B ag)(ac:B (y×y))(a8:B ag)(o:ao)(cC:bN)(q:y×y)(R:B (y×y))(v:aK (y×y×aK (y×y×y)))(bc:z[k]? =some (.ref bl))(gq:0<1000000)(aQ:((ay q.1).cps.toList==(ay i).cps.toList)=false)
noncomputable def UD (n t:y) :bb w:=
  .ax [1,1] [0,0,2] 0 (jO w J aT bw k z (.ref bl) none bc) [0,1] λah=>.ax (aY 0x18888444) [0,2] 0 (ka w bl e (ah 1+1) 0 0 ((q::R).map ad) (ad q) none rfl gq rfl) [7] λaN=>.ax [6] [0,2] 0 (iO w (ay q.1) (ay i) q.2 a false none aQ) [] λbx=>.bd [] [3] 0 (.dr (tq G bF bv J a3 bf)) (d4 (dW 0 8) [b4 "list_iterator" aT (k+1),I z bw,I a8 cA,qO w.params (some (oL v (ah 1),bl,jE v)),cx (.ref bQ),cx (ad (i,a)),I (ac.map ad) cK,I ((q::R).map ad) e])
theorem UE:b2 w 4 none ([(J,b4 "list_iterator" aT k),(aT,I z bw),(a3,I a8 cA),(bf,qO w.params v),(bF,cx (.ref bQ)),(bv,cx (ad (i,a))),(bQ,I (ac.map ad) cK),(bl,I ((q::R).map ad) e)]) (tq G bF bv J a3 bf) (UD w G bF bv J a3 bf aT k bQ cK bl cA bw e i a z ac a8 q R v bc gq aQ):=by revert w;refine nk λw fe fI hE hF=>?_;rcases fe with _ | _ <;> rcases v with _ | ⟨eE,zu,_ | ⟨ki,p⟩⟩ <;> (intro F n t;kernel_rfl)
section
variable (aQ:((ay q.1).cps.toList==(ay i).cps.toList)=true)(cq:∀ p∈ac,p.1<12)(bJ:∀ p∈R,p.1<12)(al:a8.length+R.length<1000000)(eC:((q::R).map ad).length<1000000)
noncomputable def UG (n t:y) :bb w:=
  .ax [1,1] [0,0,2] 0 (jO w J aT bw k z (.ref bl) none bc) [0,1] λah=>.ax (aY 0x18888444) [0,2] 0 (ka w bl e (ah 1+1) 0 0 ((q::R).map ad) (ad q) none rfl gq rfl) [7] λaN=>.ax [6] [0,2] 0 (iO w (ay q.1) (ay i) q.2 a true none aQ) [] λbx=>.ax [4,8,8,8,8] [0,2] 1 (HY w bl (bx 0) e (bx 1) 1 1 ((q::R).map ad) none rfl eC) [7,8] λcj=>.ax [10,10,10,11] [0,0,2] 1 (Rm w G bF bv (cj 0) a3 bf (cj 2) bQ cK (oL v (ah 1)) bl cA (R.map ad) ac (jE v) a8 R cq rfl al bJ) (aY 0x164329a) λcg=>.bd [] [3] 0 (.dr (tq G bF bv J a3 bf)) (d4 (dW 0 8) [b4 "list_iterator" aT (k+1),I z bw,I (a8++(jp ac R).map ad) (cg 2),qO w.params (some (oL v (ah 1),bl,na (jE v) R (cg 3))),cx (.ref bQ),cx (ad (i,a)),I (ac.map ad) cK,I ((q::R).map ad) e])
theorem UH:b2 w 4 none ([(J,b4 "list_iterator" aT k),(aT,I z bw),(a3,I a8 cA),(bf,qO w.params v),(bF,cx (.ref bQ)),(bv,cx (ad (i,a))),(bQ,I (ac.map ad) cK),(bl,I ((q::R).map ad) e)]) (tq G bF bv J a3 bf) (UG w G bF bv J a3 bf aT k bQ cK bl cA bw e i a z ac a8 q R v bc gq aQ cq bJ al eC):=by revert w;refine nk λw fe fI hE hF=>?_;rcases fe with _ | _ <;> rcases v with _ | ⟨eE,zu,_ | ⟨ki,p⟩⟩ <;> (intro F n t;kernel_rfl)
end
section
variable (bc:z.length=k)
noncomputable def UB (n t:y) :bb w:=
  .ax [1,1] [0,0,2] 0 (nC w J aT bw k z bc) [0,1] λah=>.bd [8] [] 0 (.ret (.ok .next)) [(0,ee "list_iterator" k),(1,ht "list" z bw),(2,I a8 cA),(3,o),(4,cx (PySem.Value.ref bQ)),(5,cx (ad (i,a))),(6,I (dF ad ac) cK)]
theorem UC:j8 w none 4 none ([(J,b4 "list_iterator" aT k),(aT,I z bw),(a3,I a8 cA),(bf,o),(bF,cx (.ref bQ)),(bv,cx (ad (i,a))),(bQ,I (ac.map ad) cK)]) [cC] (tq G bF bv J a3 bf) (UB w J aT k bQ cK cA bw i a z ac a8 o bc):=c6
end
end
noncomputable def n8 (ac:B (y×y))(i:y) :B (y×y)->B (y×y)
 | []=>[]
 | q::R=>bif q.1==i then jp ac R else []
noncomputable def hv (ac:B (y×y))(i:y) :B dK->B (y×y)
 | []=>[]
 | q::r=>n8 ac i q.2++hv ac i r
noncomputable def XU (i:y) :B (y×y)->bW
 | []=>false
 | q::_=>q.1==i
noncomputable def pC (i:y) :B dK->bW
 | []=>false
 | q::r=>XU i q.2||pC i r
theorem KL (R:B (y×y))(o:aK (y×y×y))(t:y)(h:R≠[]∨o.isSome=true) :(na o R t).isSome=true:=by
 induction R with
 | nil=>exact h.resolve_left λh=>h rfl
 | cons q R=>
  have:∀ (R:B (y×y)) (p:y×y×y),(na (some p) R t).isSome=true:=λR=>by
   induction R with
   | nil=>intro p;rfl
   | cons q R bO=>intro p;exact bO _
  exact this R _
theorem ab0 (ac R:B (y×y)) :(jp ac R).length<=R.length:=Qh ..
noncomputable def ow (x:y->y) :aK (y×y×aK (y×y×y)):=match x 9 with
 | 0=>none
 | _=>some (x 3,x 4,match x 5 with | 0=>none | _=>some (x 6,x 7,x 8))
noncomputable def me (a b c:y)(v:aK (y×y×aK (y×y×y))) :y->y:=match v with
 | none=>ca a b [c,0,0,0,0,0,0,0]
 | some (eE,bl,none)=>ca a b [c,eE,bl,0,0,0,0,1]
 | some (eE,bl,some (ki,p))=>ca a b [c,eE,bl,1,ki,p.1,p.2,1]
theorem IS (a b c:y)(v:aK (y×y×aK (y×y×y))) :me a b c v 0=a/\me a b c v 1=b/\me a b c v 2=c/\ow (me a b c v)=v:=by rcases v with _ | ⟨eE,zu,_ | ⟨ki,p⟩⟩ <;> exact ⟨rfl,rfl,rfl,rfl⟩
theorem IT {a b c:y}{v:aK (y×y×aK (y×y×y))} :me a b c v 5=bif (false||(jE v).isSome) then 1 else 0:=by rcases v with _ | ⟨eE,zu,_ | ⟨ki,p⟩⟩ <;> rfl
theorem IU {a b c:y} :∀ {v:aK (y×y×aK (y×y×y))},v≠none->me a b c v 9=1
 | none,h=>absurd rfl h
 | some (_,_,none),_=>rfl
 | some (_,_,some _),_=>rfl
noncomputable def Ek (P:bp)(b:bW)(x:y->y) :ao:=match b with
 | true=>pG P (x 3) (x 4) (some (x 6,x 7,x 8))
 | false=>pG P (x 3) (x 4) none
theorem Z7 (P:bp)(x:y->y) :∀ b:bW,x 9=1/\x 5=(bif b then 1 else 0)->qO P (ow x)=Ek P b x
 | true,h=>by unfold ow;refine H h.1 (H h.2 ?_);rfl
 | false,h=>by unfold ow;refine H h.1 (H h.2 ?_);rfl
section
variable {w:aG}
theorem Cp {G bF bv J a3 bf aT bQ cK bw i a:y}{z:B ag}{ac:B (y×y)}{cC:bN}{ld:bW}(aF:i<12)(cq:∀ p∈ac,p.1<12) :∀ (aW:B dK) (k cA:y) (v:aK (y×y×aK (y×y×y))) (a8:B ag),z.drop k=dR aW->k+aW.length=z.length->a8.length+3 * aW.length<1000000->(∀ q∈aW,hB q.2)->(∀ q∈aW,(q.1,I (q.2.map ad) q.2.length)∈cC)->(aW≠[]∨v≠none)->(pC i aW||(jE v).isSome)=ld->
  ec w none 4 (tq G bF bv J a3 bf) none [(J,b4 "list_iterator" aT k),(aT,I z bw),(a3,I a8 cA),(bf,qO w.params v),(bF,cx (.ref bQ)),(bv,cx (ad (i,a))),(bQ,I (ac.map ad) cK)] [cC] (λ_=>.ok .next)
   (λx=>[ee "list_iterator" z.length,I z bw,I (a8++(hv ac i aW).map ad) (x 2),qO w.params (ow x),cx (.ref bQ),cx (ad (i,a)),I (ac.map ad) cK]) (λ_=>[]) (λ_=>[cC]) (λx=>x 9=1/\x 5=bif ld then 1 else 0)
 | [],k,cA,v,a8,h,aV,al,b3,aU,e6,eT=>by have e:z.length=k:=aV.symm;subst e;refine Cw (bI:=_) (dg:=none) (fN:=[cC]) (UC w G bF bv J a3 bf aT z.length bQ cK cA bw i a z ac a8 _ cC rfl) ?_;intro n t ah _ c d;refine fp λfx dk=>?_;obtain ⟨g3,a5,bt,cd⟩:=IS c d cA v;refine dk ?_;refine ⟨me c d cA v,g3,a5,rfl,?_,rfl,⟨IU (e6.resolve_left λh=>h rfl),by rw [<- eT];exact IT⟩⟩;show _ =d4 _ [_,_,I (a8++[]) (me c d cA v 2),qO w.params (ow (me c d cA v)),_,_,_]++_;rw [bt,cd,d9 a8];kernel_rfl
 | (bl,Hh)::aW,k,cA,v,a8,h,aV,al,b3,aU,_,eT=>by
  rw [ed] at aV al;have bc:z[k]? =some (.ref bl):=by
   have:(z.drop k)[0]? =some (.ref bl):=by rw [h];rfl
   rwa [o9] at this
  have ap:z.drop (k+1)=dR aW:=by rw [<- om,h];rfl
  have wg:=b3 _ (cY ..);have wk:=aU _ (cY ..);have qA:∀ q∈aW,hB q.2:=λq a4=>b3 q (dG _ a4);have Ka:∀ q∈aW,(q.1,I (q.2.map ad) q.2.length)∈cC:=λq a4=>aU q (dG _ a4);cases Hh with
  | nil=>exact absurd wg.2.1 (λh=>by rcases h with h | h <;> cases h)
  | cons q R=>
   have a4:q.1<12:=wg.1 q (cY ..);have ago:R.length<=2:=by have bg:(q::R).length=2∨(q::R).length=3:=wg.2.1;rw [ed] at bg;omega
   have hw:a8++(hv ac i ((bl,q::R)::aW)).map ad=(a8++(n8 ac i (q::R)).map ad)++(hv ac i aW).map ad:=by show a8++(n8 ac i (q::R)++hv ac i aW).map ad=_;rw [c0,f9]
   rw [hw];have aQ:=Lq a4 aF;cases tM:q.1==i with
   | false=>
    have hH:n8 ac i (q::R)=[]:=by show (bif q.1==i then jp ac R else [])=_;rw [tM];rfl
    rw [hH];have Dk:(pC i aW||(jE v).isSome)=ld:=by have h:((q.1==i||pC i aW)||(jE v).isSome)=ld:=eT;rw [tM,Bool.false_or] at h;exact h
    refine Cx (UE w G bF bv J a3 bf aT k bQ cK bl cA bw (q::R).length i a z ac a8 q R v bc (by decide) (aQ.trans tM)) (Bb.mpr ⟨cC,dN.mpr rfl,wk⟩) ?_;intro n t ah _ aN _ bx _;refine ⟨_,?_,Cp (aT:=aT) (cK:=cK) (a:=a) aF cq aW (k+1) cA (some (oL v (ah 1),bl,jE v)) (a8++([] :B (y×y)).map ad) ap (by omega) (by rw [G2,d9];omega) qA Ka (.inr λh=>nomatch h) Dk⟩;rw [G2,d9];kernel_rfl
   | true=>
    have hH:n8 ac i (q::R)=jp ac R:=by show (bif q.1==i then jp ac R else [])=_;rw [tM];rfl
    rw [hH];have b1:=ab0 ac R;have Dk:true=ld:=by have h:((q.1==i||pC i aW)||(jE v).isSome)=ld:=eT;rw [tM,Bool.true_or,Bool.true_or] at h;exact h
    have Xw:R≠[]:=λe=>by have bg:(q::R).length=2∨(q::R).length=3:=wg.2.1;rw [e] at bg;rcases bg with h | h <;> rcases h with _ | _
    refine Cx (UH w G bF bv J a3 bf aT k bQ cK bl cA bw (q::R).length i a z ac a8 q R v bc (by decide) (aQ.trans tM) cq (λp L=>wg.1 p (dG _ L)) (by omega) (by refine H (de ..) (H (ed ..) ?_);omega)) (Bb.mpr ⟨cC,dN.mpr rfl,wk⟩) ?_;intro n t ah _ aN _ bx _ cj _ cg _;have DF:(jE (some (oL v (ah 1),bl,na (jE v) R (cg 3)))).isSome=true:=KL R _ _ (.inl Xw);refine ⟨_,?_,Cp (aT:=aT) (cK:=cK) (a:=a) aF cq aW (k+1) (cg 2) (some (oL v (ah 1),bl,na (jE v) R (cg 3))) (a8++(jp ac R).map ad) ap (by omega) (by refine H (ea ..) (H (de ..) ?_);omega) qA Ka (.inr λh=>(by injection h)) (by refine H (DF ..) (H (Bool.or_true ..) ?_);exact Dk)⟩;kernel_rfl
theorem Ic {dg:aK (B cE)}{bj:y}{e:cT}{J:y}{a3:ag}{env:cE}{pre:B (aM×ao)}{fN:B bN}{bB:(y->y)->cD}{cB:(y->y)->B ao}{bV:(y->y)->B (aM×ao)}{gr:(y->y)->B bN}{cond:(y->y)->Prop}
  (he:e=KP (KQ e))(aF:∀ (A:c9) s (Q:ag->aR->Prop) E,dX s.heap pre->Q (.ref J) s->wpAny (model aL w) A (q0 (.ref J)) Q E s)
  (h:ec w dg bj (.compLoop e 0 (.ref J) a3 env) none pre fN bB cB bV gr cond) :ec w dg bj (.compStart e 0 (.ref J) a3 env) none pre fN bB cB bV gr cond:=λA s aS has bU=>by
 have aV:=h A s aS has bU;rw [he] at aV ⊢;exact Ss aV (aF _ _ _ _ (λp L=>has p (eS _ L)) aV)
end
theorem aft {w:aG}{G bF bv J a3 bf aT bQ cK bw i a:y}{z:B ag}{ac:B (y×y)}{cC:bN}{T:B dK}{ld:bW}(aF:i<12)(cq:∀ p∈ac,p.1<12)(ej:z=dR T)(al:T.length<1000)(b3:∀ q∈T,hB q.2)(aU:∀ q∈T,(q.1,I (q.2.map ad) q.2.length)∈cC)(cM:T≠[])(eT:pC i T=ld) :
  ec w none 4 (UF G bF bv J a3 bf) none [(J,b4 "list_iterator" aT 0),(aT,I z bw),(a3,I [] 0),(bf,iT),(bF,cx (.ref bQ)),(bv,cx (ad (i,a))),(bQ,I (ac.map ad) cK)] [cC] (λ_=>.ok .next)
   (λx=>[ee "list_iterator" z.length,I z bw,I ((hv ac i T).map ad) (x 2),Ek w.params ld x,cx (.ref bQ),cx (ad (i,a)),I (ac.map ad) cK]) (λ_=>[]) (λ_=>[cC]) (λ_=>bZ):=λA s aS has bU=>by
 refine gR (Ic (w:=w) (by kernel_rfl) (r2 (aT:=aT) (k:=0) (cY ..)) (Cp (w:=w) (ld:=ld) (G:=G) (bF:=bF) (bv:=bv) (J:=J) (a3:=a3) (bf:=bf) (aT:=aT) (bQ:=bQ) (cK:=cK) (bw:=bw) (a:=a) aF cq T 0 0 none [] ej (by rw [ej,dR,de,jd]) (by refine H (nt ..) ?_;omega) b3 aU (.inl cM) (by refine H (show (jE none).isSome=false from rfl) (H (Bool.or_false ..) ?_);exact eT)) A s aS has bU) ?_;rintro r an ⟨x,az,aJ,bg,cS,dI⟩;refine ⟨x,az,trivial,bg,cS,?_⟩;show jI s an _ _ [ee "list_iterator" z.length,I z bw,I ((hv ac i T).map ad) (x 2),Ek w.params ld x,cx (.ref bQ),cx (ad (i,a)),I (ac.map ad) cK] [] [cC];refine df (Z7 _ x ld aJ ..) ?_;exact dI
noncomputable def R0 (w:aG)(G bF bv J a3 bf aT bQ cK bw i a:y)(z:B ag)(ac:B (y×y))(cC:bN)(T:B dK)(aF:i<12)(cq:∀ p∈ac,p.1<12)(ej:z=dR T)(al:T.length<1000)(b3:∀ q∈T,hB q.2)(aU:∀ q∈T,(q.1,I (q.2.map ad) q.2.length)∈cC)(cM:T≠[])(ld:bW)(eT:pC i T=ld) :hy w:=
 ec.mk (aft (w:=w) (G:=G) (bF:=bF) (bv:=bv) (J:=J) (a3:=a3) (bf:=bf) (aT:=aT) (bQ:=bQ) (cK:=cK) (bw:=bw) (a:=a) aF cq ej al b3 aU cM eT)
end

structure Gw where
 (x:a6)
 (hZ:c2)
 (l:cT)
 (fR:Bp)
 (a b:cT)
 (hT:c2)
 (eF:B cT)
 (t9:c2)
 (as aq:cT)
 (ml ik rs:c2)
noncomputable def Q7 (o:aK c5) :Gw:=let v:=kP o 0
 let i:=hq v 1
 let t:=hq i 0
 let c:=hq t 0
 ⟨Ft (kP o 1),kO (kP o 1),hq v 0,(oW v).2.2.2.2.1,hq c 0,hq c 1,kO c,(oW t).1.drop 1,kO t,hq i 1,hq i 2,kO i,kO v,oX o⟩
noncomputable def fE:Gw:=Q7 qo.2.2.1[1]?
theorem Ux (G bF bv J:aM) :lH G bF bv J= .forLoop qo.1 (.ref J) [IL,.Assign [.Name fE.x fE.hZ] (.BinOp fE.l fE.fR (.IfExp (.BoolOp .And (.Compare fE.a [.Eq] [fE.b] fE.hT::fE.eF) fE.t9) fE.as fE.aq fE.ml) fE.ik) fE.rs] [] (jQ G bF bv):=by kernel_rfl
theorem UA:l7 .Eq fE.b=false:=by kernel_rfl
theorem UY (G bF bv:aM) :swapsWith (.BinOp fE.l fE.fR (.IfExp (.BoolOp .And (.Compare fE.a [.Eq] [fE.b] fE.hT::fE.eF) fE.t9) fE.as fE.aq fE.ml) fE.ik) (some (.Name fE.x fE.hZ)) fE.rs.line (jQ G bF bv)=pure false:=by kernel_rfl
noncomputable def i6 (P:bp)(D:i0)(cr:y) :aK (y×y)->ao
 | none=>yF P D cr
 | some (aD,cW)=>hj P D cr aD cW
noncomputable def KE (v:aK (y×y))(t:y) :y:=match v with
 | none=>t
 | some (aD,_)=>aD
noncomputable abbrev mb (as:aK ag) :ao:={cls:=.type "cell",data:=.cell as}
noncomputable abbrev Cq (G bF bv:aM)(f7:ag)(t:bW) :e5 h3:=O8 fE.x fE.hZ fE.fR fE.eF fE.as fE.aq fE.ik (jQ G bF bv) f7 t
section
section
variable (w:aG)(D:i0)(cr aD cW:y)(v:aK (y×y))(J eL:y)(F:B (y×y))(dP:(F.map ad).length+([] :B ag).length<1000000)(aT k bQ cK c7 bw:y)(l z:B ag)(d5:y×y)(as:aK ag)(bc:l[k]? =some (ad d5))(ac:B (y×y))(T:B dK)(cC:bN)(aF:d5.1<12)(cq:∀ p∈ac,p.1<12)(ej:z=dR T)(al:T.length<1000)(b3:∀ q∈T,hB q.2)(aU:∀ q∈T,(q.1,I (q.2.map ad) q.2.length)∈cC)(cM:T≠[])(aQ:bW)(eT:pC d5.1 T=aQ)
noncomputable def UI (n t:y) :bb w:=
  .ax [4,4] [0,2] 0 (jO w J aT bw k l (ad d5) none bc) [3,4] λah=>.fF (aY 0x18777133) [0,0,2] 3 (R0 w D.G D.bF D.bv (ah 0) (ah 0+1) (ah 0+2) D.d2 bQ cK c7 d5.1 d5.2 z ac cC T aF cq ej al b3 aU cM aQ eT) (aY 0x15219867) [true] λaN=>.bd (1::1::bif aQ then (aY 0x1aaaaaa) else [10,10,10,10]) [] 0 (.ret (.ok .next)) (d4 (aY 0x186543210) [hj w.params D cr (KE v (aN 1)) (ah 0+1),cx (.ref bQ),cx (ad d5),b4 "list_iterator" aT (k+1),I l bw,I (ac.map ad) cK,I z c7,I ((hv ac d5.1 T).map ad) (aN 2)])
theorem UJ:eu w none 5 none [(D.G,i6 w.params D cr v),(D.bF,cx (.ref bQ)),(D.bv,mb as),(J,b4 "list_iterator" aT k),(aT,I l bw),(bQ,I (ac.map ad) cK),(D.d2,I z c7)] [cC] (lH D.G D.bF D.bv J) (mY qo.1 (.ref J) IL (jQ D.G D.bF D.bv)) (UI w D cr v J aT k bQ cK c7 bw l z d5 bc ac T cC aF cq ej al b3 aU cM aQ eT):=by revert w;refine nk λw fe fI hE hF=>?_;rcases fe with _ | _ <;> rcases aQ with _ | _ <;> rcases v with _ | ⟨aD,cW⟩ <;> (intro F n t;kernel_rfl)
noncomputable def UK (n t:y) :bb w:=
  .bd [1] [] 0 (.ret (.ok (.ret (.ref cr)))) [(0,hj w.params D cr aD cW)]
theorem UL:eu w none 1 none ([(D.G,hj w.params D cr aD cW)]) ([]) (lH D.G D.bF D.bv J) (fQ fE.l (jQ D.G D.bF D.bv)) (UK w D cr aD cW):=c6
noncomputable def UM (n t:y) :bb w:=
  .bd [1] [] 0 (.ret (.ok (.ret (.ref cW)))) [(0,hj w.params D cr aD cW)]
theorem UN:eu w none 1 none ([(D.G,hj w.params D cr aD cW)]) ([]) (lH D.G D.bF D.bv J) (fQ fE.a (jQ D.G D.bF D.bv)) (UM w D cr aD cW):=c6
noncomputable def UO (n t:y) :bb w:=
  .bd [] [] 1 (.ret (.ok (.ret (.ref n)))) [(0,{cls:=(.type "list"),data:=(.seq ⟨[]⟩ 0)})]
theorem UP:eu w none 1 none ([]) ([]) (lH D.G D.bF D.bv J) (fQ fE.b (jQ D.G D.bF D.bv)) (UO w):=c6
noncomputable def UQ (n t:y) :bb w:=
  .ax [2,3,2,2] [0,2] 1 (rx w cr n eL 0 (F.map ad) [] (F.map ad++[]) none dP rfl) [1,2] λah=>.bd [1,1] [] 0 (.ret (.ok .next)) (d4 [0,1,3] [hj w.params D (ah 2) aD cW,I (F.map ad) eL,I (F.map ad++[]) 0])
theorem UR:eu w none 2 none ([(D.G,hj w.params D cr aD cW),(cr,I (F.map ad) eL)]) ([]) (lH D.G D.bF D.bv J) (Cq D.G D.bF D.bv (.ref cr) false) (UQ w D cr aD cW eL F dP):=by revert w;exact cX
end
section
variable (w:aG)(D:i0)(cr aD cW J aT k bw:y)(l:B ag)(bc:l.length=k)(eL bQ cK:y)(F ac:B (y×y))(d5:y×y)(dP:(F.map ad).length+([] :B ag).length<1000000)(a4:d5.1<12)(cq:∀ p∈ac,p.1<12)(aQ:h0 d5.1 ac=true)
noncomputable def US (n t:y) :bb w:=
  .ax [4,3,5,5,5] [0,2] 0 (yr w bQ cK d5.1 d5.2 ac true none a4 cq aQ) [4] λah=>.ax [2,6,2,2] [0,2] 1 (rx w cr (ah 0) eL 0 (F.map ad) [] (F.map ad++[]) none dP rfl) [1,5] λaN=>.bd [1,1] [] 0 (.ret (.ok .next)) (d4 (aY 0x1643210) [hj w.params D (aN 2) aD cW,I (F.map ad) eL,cx (.ref bQ),cx (ad d5),I (ac.map ad) cK,I (F.map ad++[]) 0])
theorem UT:eu w none 2 none ([(D.G,hj w.params D cr aD cW),(cr,I (F.map ad) eL),(D.bF,cx (.ref bQ)),(D.bv,cx (ad d5)),(bQ,I (ac.map ad) cK)]) ([]) (lH D.G D.bF D.bv J) (Cq D.G D.bF D.bv (.ref cr) true) (US w D cr aD cW eL bQ cK F ac d5 dP a4 cq aQ):=by revert w;exact cX
section
variable (dP:(F.map ad).length+[ad d5].length<1000000)(a4:d5.1<12)(cq:∀ p∈ac,p.1<12)(aQ:h0 d5.1 ac=false)
noncomputable def UU (n t:y) :bb w:=
  .ax [4,3,5,5,5] [0,2] 0 (yr w bQ cK d5.1 d5.2 ac false none a4 cq aQ) [4] λah=>.ax [4,2,6,2,2] [0,2] 1 (rx w cr (ah 0) eL 0 (F.map ad) [ad d5] (F.map ad++[ad d5]) none dP rfl) [1,5] λaN=>.bd [1,1] [] 0 (.ret (.ok .next)) (d4 (aY 0x1643210) [hj w.params D (aN 2) aD cW,I (F.map ad) eL,cx (.ref bQ),cx (ad d5),I (ac.map ad) cK,I (F.map ad++[ad d5]) 0])
theorem UV:eu w none 2 none ([(D.G,hj w.params D cr aD cW),(cr,I (F.map ad) eL),(D.bF,cx (.ref bQ)),(D.bv,cx (ad d5)),(bQ,I (ac.map ad) cK)]) ([]) (lH D.G D.bF D.bv J) (Cq D.G D.bF D.bv (.ref cr) true) (UU w D cr aD cW eL bQ cK F ac d5 dP a4 cq aQ):=by revert w;exact cX
end
noncomputable def Uy (n t:y) :bb w:=
  .ax [1,1] [0,0,2] 0 (nC w J aT bw k l bc) [0,1] λah=>.bd [3] [0] 0 (.ret (.ok .next)) [(0,ee "list_iterator" k),(1,I l bw)]
theorem Uz:b2 w 5 none [(J,b4 "list_iterator" aT k),(aT,I l bw)] (lH D.G D.bF D.bv J) (Uy w J aT k bw l bc):=c6
end
end
section
variable {w:aG}
noncomputable def jB (ac:B (y×y))(T:B dK)(n:y×y) :B (y×y):=bif (hv ac n.1 T).isEmpty&&!h0 n.1 ac then [n] else []
noncomputable def la (ac:B (y×y))(T:B dK) :B (y×y)->B (y×y)
 | []=>[]
 | n::r=>jB ac T n++la ac T r
theorem Jz (ac:B (y×y))(T:B dK)(n:y×y) :(jB ac T n).length<=1:=by
 unfold jB;rcases ((hv ac n.1 T).isEmpty&&!h0 n.1 ac) with _ | _
 ·exact k1 _
 ·exact fk _
structure yb where
 (J aT bQ cK c7 bw:y)
 (l z:B ag)
 ac:B (y×y)
 T:B dK
 (cC dO:bN)
structure yc (C:yb) :Prop where
 cq:∀ p∈C.ac,p.1<12
 ej:C.z=dR C.T
 al:C.T.length<1000
 b3:∀ q∈C.T,hB q.2
 aU:∀ q∈C.T,(q.1,I (q.2.map ad) q.2.length)∈C.cC
 cM:C.T≠[]
noncomputable def pq (D:i0)(C:yb)(eM:ao)(as:aK ag)(rZ:ao)(cr eL:y)(F:B (y×y)) :B bN:=[[(D.G,eM)],[(D.bF,cx (.ref C.bQ))],[(D.bv,mb as)],[(C.J,rZ)],[(C.aT,I C.l C.bw)],[(C.bQ,I (C.ac.map ad) C.cK)],[(D.d2,I C.z C.c7)],C.cC,[(cr,I (F.map ad) eL)],C.dO]
noncomputable def vQ (D:i0)(C:yb)(P:bp)(k:y)(d5:y×y)(cr eL:y)(F:B (y×y))(aD cW hH:y) :B bN:=[(cW,I ((hv C.ac d5.1 C.T).map ad) hH)]::pq D C (hj P D cr aD cW) (some (ad d5)) (b4 "list_iterator" C.aT (k+1)) cr eL F
section
variable {b:aR}{aB:B aM}{D:i0}{C:yb}{A:c9}{Q:cD->aR->Prop}
theorem IO {s:aR}{cr eL k:y}{v:aK (y×y)}{d5:y×y}{as:aK ag}{F:B (y×y)}(bF:yc C)(bc:C.l[k]? =some (ad d5))(aF:d5.1<12)(dP:F.length<900000)(aS:eb w none 6 A none b)(o:bz b aB s (pq D C (i6 w.params D cr v) as (b4 "list_iterator" C.aT k) cr eL F))
  (next:∀ an jA aD cW nG,bz b aB an ([(cr,I (F.map ad) eL)]::pq D C (hj w.params D jA aD cW) (some (ad d5)) (b4 "list_iterator" C.aT (k+1)) jA nG (F++jB C.ac C.T d5))->codeAny (model aL w) A (lH D.G D.bF D.bv C.J) Q an) :
  codeAny (model aL w) A (lH D.G D.bF D.bv C.J) Q s:=by
 have DN:A.units<cLine:=by have:=aS.units;unfold cLine;lia
 have JR:(F.map ad).length+([] :B ag).length<1000000:=by rw [de,nt];lia
 have Xo:(F.map ad).length+[ad d5].length<1000000:=by rw [de,ig];lia
 refine Ws (Ux D.G D.bF D.bv C.J) (P:=λaA=>∃ aD cW hH,bz b aB aA (vQ D C w.params k d5 cr eL F aD cW hH))
  (eZ:=λr aA=>r= .ok (.ret (.ref cr))/\∃ aD cW hH,bz b aB aA (vQ D C w.params k d5 cr eL F aD cW hH))
  (iL:=λf7 r aA=>f7= .ref cr/\∃ aD cW hH,r= .ok (.ret (.ref cW))/\bz b aB aA (vQ D C w.params k d5 cr eL F aD cW hH))
  (k2:=λf7 kq r aA=>f7= .ref cr/\∃ aD cW hH hY,kq= .ref cW/\r= .ok (.ret (.ref hY))/\bz b aB aA ([(hY,I [] 0)]::vQ D C w.params k d5 cr eL F aD cW hH))
  (qf:=λf7 t aA=>f7= .ref cr/\t=(hv C.ac d5.1 C.T).isEmpty/\∃ aD cW hH,bz b aB aA (vQ D C w.params k d5 cr eL F aD cW hH)) UA (UY _ _ _) ?_ ?_ ?_ ?_ ?_ ?_
 ·exact o.fL (dW 0 8) (af:=[C.cC]) (R:=[[(cr,I (F.map ad) eL)],C.dO]) ⟨rfl,by kernel_rfl,by kernel_rfl⟩ (aS.eW (by decide) λ_ h=>h) (UJ w D cr v C.J C.aT k C.bQ C.cK C.c7 C.bw C.l C.z d5 as bc C.ac C.T C.cC aF bF.cq bF.ej bF.al bF.b3 bF.aU bF.cM (pC d5.1 C.T) rfl) (f:=λ_ _ _=>.next)
   (cv:=λn t X=>[[(D.G,hj w.params D cr (KE v (X 1 1)) (X 0 0+1))],[(D.bF,cx (.ref C.bQ))],[(D.bv,mb (some (ad d5)))],[(C.J,b4 "list_iterator" C.aT (k+1))],[(C.aT,I C.l C.bw)],[(C.bQ,I (C.ac.map ad) C.cK)],[(D.d2,I C.z C.c7)],[(X 0 0+1,I ((hv C.ac d5.1 C.T).map ad) (X 1 2))],C.cC]) (by intro n t X;kernel_rfl)
   λn t X aA cI=>⟨rfl,_,_,_,cI.eQ (aY 0x1a9865432107) rfl rfl⟩
 ·rintro aA ⟨aD,cW,hH,o⟩
  exact o.sv [1] ⟨rfl,by kernel_rfl⟩ (aS.eW (by decide) λ_ h=>h) (UL w D cr aD cW C.J) (f:=λ_ _ _=>.ret (.ref cr)) (N:=λ_ _ _=>[]) (by intro n t X;kernel_rfl) λn t X bi o=>⟨rfl,aD,cW,hH,o⟩
 ·rintro f7 aA ⟨h,aD,cW,hH,o⟩
  cases h;exact o.sv [1] ⟨rfl,by kernel_rfl⟩ (aS.eW (by decide) λ_ h=>h) (UN w D cr aD cW C.J) (f:=λ_ _ _=>.ret (.ref cW)) (N:=λ_ _ _=>[]) (by intro n t X;kernel_rfl) λn t X bi o=>⟨rfl,aD,cW,hH,rfl,o⟩
 ·rintro f7 kq aA ⟨rfl,aD,cW,hH,h,o⟩
  cases h;exact o.sv [] ⟨rfl,rfl⟩ (aS.eW (by decide) λ_ h=>h) (UP w D C.J) (f:=λn _ _=>.ret (.ref n)) (N:=λn _ _=>[[(n,I [] 0)]]) (by intro n t X;kernel_rfl) λn t X bi o=>⟨rfl,aD,cW,hH,n,rfl,rfl,o⟩
 ·rintro f7 kq Gb aA ⟨rfl,aD,cW,hH,hY,rfl,h,o⟩
  cases h;refine VC (o.get 1 rfl) (o.get 0 rfl) DN ⟨rfl,?_,aD,cW,hH,o.eQ (dW 1 11) rfl rfl⟩;exact H (List.isEmpty_map ..) rfl
 ·rintro f7 t aA ⟨rfl,rfl,aD,cW,hH,o⟩
  have bd:∀ {bk:B (y×y)} {jA:y} {bi:aR},jB C.ac C.T d5=bk->bz b aB bi ([(cr,I (F.map ad) eL)]::pq D C (hj w.params D jA aD cW) (some (ad d5)) (b4 "list_iterator" C.aT (k+1)) jA 0 (F++bk))->codeAny (model aL w) A (lH D.G D.bF D.bv C.J) Q bi:=λe o=>next _ _ _ _ _ (e▸o)
  induction DQ:(hv C.ac d5.1 C.T).isEmpty with
  | false=>
   exact o.fL [1,9] (af:=[]) (R:=[[(cW,I ((hv C.ac d5.1 C.T).map ad) hH)],[(D.bF,cx (.ref C.bQ))],[(D.bv,mb (some (ad d5)))],[(C.J,b4 "list_iterator" C.aT (k+1))],[(C.aT,I C.l C.bw)],[(C.bQ,I (C.ac.map ad) C.cK)],[(D.d2,I C.z C.c7)],C.cC,C.dO]) ⟨rfl,by kernel_rfl,by kernel_rfl⟩ (aS.eW (by decide) λ_ h=>h) (UR w D cr aD cW C.J eL F JR) (f:=λ_ _ _=>.next)
    (cv:=λn t X=>[[(D.G,hj w.params D (X 0 2) aD cW)],[(cr,I (F.map ad) eL)],[(X 0 2,I (F.map ad++[]) 0)]]) (by intro n t X;kernel_rfl)
    λn t X bi o=>⟨rfl,bd (bk:=[]) (by unfold jB;refine H DQ ?_;rfl) (o.eQ (aY 0x1b2a98765401) rfl (by unfold pq;refine H (c0 ..) ?_;rfl))⟩
  | true=>
   induction wq:h0 d5.1 C.ac with
   | true=>
    exact o.fL [1,9,2,3,6] (af:=[]) (R:=[[(cW,I ((hv C.ac d5.1 C.T).map ad) hH)],[(C.J,b4 "list_iterator" C.aT (k+1))],[(C.aT,I C.l C.bw)],[(D.d2,I C.z C.c7)],C.cC,C.dO]) ⟨rfl,by kernel_rfl,by kernel_rfl⟩ (aS.eW (by decide) λ_ h=>h) (UT w D cr aD cW C.J eL C.bQ C.cK F C.ac d5 JR aF bF.cq wq) (f:=λ_ _ _=>.next)
     (cv:=λn t X=>[[(D.G,hj w.params D (X 1 2) aD cW)],[(cr,I (F.map ad) eL)],[(D.bF,cx (.ref C.bQ))],[(D.bv,mb (some (ad d5)))],[(C.bQ,I (C.ac.map ad) C.cK)],[(X 1 2,I (F.map ad++[]) 0)]]) (by intro n t X;kernel_rfl)
     λn t X bi o=>⟨rfl,bd (bk:=[]) (by unfold jB;refine H DQ (H wq ?_);rfl) (o.eQ (aY 0x1b5a94873201) rfl (by unfold pq;refine H (c0 ..) ?_;rfl))⟩
   | false=>
    exact o.fL [1,9,2,3,6] (af:=[]) (R:=[[(cW,I ((hv C.ac d5.1 C.T).map ad) hH)],[(C.J,b4 "list_iterator" C.aT (k+1))],[(C.aT,I C.l C.bw)],[(D.d2,I C.z C.c7)],C.cC,C.dO]) ⟨rfl,by kernel_rfl,by kernel_rfl⟩ (aS.eW (by decide) λ_ h=>h) (UV w D cr aD cW C.J eL C.bQ C.cK F C.ac d5 Xo aF bF.cq wq) (f:=λ_ _ _=>.next)
     (cv:=λn t X=>[[(D.G,hj w.params D (X 1 2) aD cW)],[(cr,I (F.map ad) eL)],[(D.bF,cx (.ref C.bQ))],[(D.bv,mb (some (ad d5)))],[(C.bQ,I (C.ac.map ad) C.cK)],[(X 1 2,I (F.map ad++[ad d5]) 0)]]) (by intro n t X;kernel_rfl)
     λn t X bi o=>⟨rfl,bd (bk:=[d5]) (by unfold jB;refine H DQ (H wq ?_);rfl) (o.eQ (aY 0x1b5a94873201) rfl (by unfold pq;refine H (c0 ..) ?_;rfl))⟩
theorem IH (bF:yc C)(aS:eb w none 6 A none b) :∀ (aW:B (y×y)) (k cr eL aD cW:y) (p:y×y) (F:B (y×y)) (s:aR),C.l.drop k=aW.map ad->k+aW.length=C.l.length->(∀ n∈aW,n.1<12)->F.length+aW.length<900000->bz b aB s (pq D C (hj w.params D cr aD cW) (some (ad p)) (b4 "list_iterator" C.aT k) cr eL F)->
  (∀ an jA nG aD cW p,bz b aB an (pq D C (hj w.params D jA aD cW) (some (ad p)) (ee "list_iterator" C.l.length) jA nG (F++la C.ac C.T aW))->Q (.ok .next) an)->codeAny (model aL w) A (lH D.G D.bF D.bv C.J) Q s
 | [],k,cr,eL,aD,cW,p,F,s,h,aV,g6,dP,o,dh=>by
  have e:C.l.length=k:=aV.symm;subst e;refine o.code [3,4] (af:=[]) (R:=[[(D.G,hj w.params D cr aD cW)],[(D.bF,cx (.ref C.bQ))],[(D.bv,mb (some (ad p)))],[(C.bQ,I (C.ac.map ad) C.cK)],[(D.d2,I C.z C.c7)],C.cC,[(cr,I (F.map ad) eL)],C.dO]) ⟨rfl,by kernel_rfl,by kernel_rfl⟩ (aS.eW (by decide) λ_ h=>h) (Uz w D C.J C.aT C.l.length C.bw C.l rfl) (dw:=λ_ _ _=>.ret (.ok .next))
   (cv:=λn t X=>[[(C.J,ee "list_iterator" C.l.length)],[(C.aT,I C.l C.bw)]]) (by intro n t X;kernel_rfl) λn t X an o=>dh an cr eL aD cW p (o.eQ (aY 0x19876510432) rfl ?_)
  refine H (show la C.ac C.T []=[] from rfl) (H (d9 ..) ?_);rfl
 | n::aW,k,cr,eL,aD,cW,p,F,s,h,aV,g6,dP,o,dh=>by
  rw [ed] at aV dP;have bc:C.l[k]? =some (ad n):=by
   have:(C.l.drop k)[0]? =some (ad n):=by refine H h ?_;rfl
   rwa [o9] at this
  have ap:C.l.drop (k+1)=aW.map ad:=by refine df (om ..) (H h ?_);rfl
  have hlen:=Jz C.ac C.T n;refine IO (v:=some (aD,cW)) bF bc (g6 n (cY ..)) (by lia) aS o ?_;intro aA CK Zf afq Ct cI;refine IH bF aS aW (k+1) CK Ct Zf afq n (F++jB C.ac C.T n) aA ap (by lia) (λq a4=>g6 q (dG _ a4)) (by refine H (ea ..) ?_;lia) (cI.eQ (dW 1 10) rfl rfl) ?_;intro an jA nG aD cW p o;rw [f9] at o;exact dh an jA nG aD cW p o
end
theorem Up {D:i0}{J aT bQ cK c7 bw cr:y}{v:aK (y×y)}{as:aK ag}{l z:B ag}{ac R:B (y×y)}{T:B dK}{cC:bN}{n:y×y}
  (cq:∀ p∈ac,p.1<12)(ej:z=dR T)(al:T.length<1000)(b3:∀ q∈T,hB q.2)(aU:∀ q∈T,(q.1,I (q.2.map ad) q.2.length)∈cC)(cM:T≠[])(bJ:l=(n::R).map ad)(g6:∀ kG∈n::R,kG.1<12)(jC:R.length<1000) :
  ec w none 6 (lH D.G D.bF D.bv J) none ([(D.G,i6 w.params D cr v),(D.bv,mb as),(J,b4 "list_iterator" aT 0)]++[(D.bF,cx (.ref bQ)),(aT,I l bw),(bQ,I (ac.map ad) cK),(D.d2,I z c7),(cr,I [] 0)]) [cC] (λ_=>.ok .next)
   (λx=>[hj w.params D (x 2) (x 3) (x 4),cx (ad (x 5,x 6)),ee "list_iterator" l.length,cx (.ref bQ),I l bw,I (ac.map ad) cK,I z c7,I [] 0]) (λx=>[(x 2,I ((la ac T (n::R)).map ad) (x 7))]) (λ_=>[cC]) (λ_=>bZ):=λA s aS has bU=>by
 have o:=bz.pj (S:=[[(D.G,i6 w.params D cr v)],[(D.bv,mb as)],[(J,b4 "list_iterator" aT 0)],[(D.bF,cx (.ref bQ))],[(aT,I l bw)],[(bQ,I (ac.map ad) cK)],[(D.d2,I z c7)],[(cr,I [] 0)],cC,[]]) (by kernel_rfl) has bU;have bF:yc ⟨J,aT,bQ,cK,c7,bw,l,z,ac,T,cC,[]⟩:=⟨cq,ej,al,b3,aU,cM⟩;have Sb:yc ⟨J,aT,bQ,cK,c7,bw,l,z,ac,T,cC,[(cr,I [] 0)]⟩:=⟨cq,ej,al,b3,aU,cM⟩;have agv:l.length=R.length+1:=by exact H bJ (H (de ..) (H (ed ..) rfl))
 refine IO (C:=⟨J,aT,bQ,cK,c7,bw,l,z,ac,T,cC,[]⟩) (v:=v) (k:=0) (d5:=n) (F:=[]) (eL:=0) bF (by show l[0]? =_;refine H bJ ?_;rfl) (g6 n (cY ..)) (by decide) aS (o.eQ (aY 0x19786542130) rfl rfl) ?_;intro aA CK aD cW Ct cI;have hlen:=Jz ac T n;refine IH (C:=⟨J,aT,bQ,cK,c7,bw,l,z,ac,T,cC,[(cr,I [] 0)]⟩) Sb aS R 1 CK Ct aD cW n ([]++jB ac T n) aA (by show l.drop 1=_;refine H bJ ?_;rfl) (by show 1+R.length=l.length;lia) (λq a4=>g6 q (dG _ a4)) (by refine H (List.nil_append ..) ?_;lia) (cI.eQ (aY 0x10987654321) rfl rfl) ?_;intro an jA nG aD cW p cy;exact ⟨ca an.heap.objs.size an.toks [jA,aD,cW,p.1,p.2,nG],rfl,trivial,rfl,rfl,bz.ny (cy.eQ (aY 0x17896541320) rfl rfl) rfl (by kernel_rfl)⟩
noncomputable def Rl (w:aG)(D:i0)(J aT bQ cK c7 bw cr:y)(v:aK (y×y))(as:aK ag)(l z:B ag)(ac R:B (y×y))(T:B dK)(cC:bN)(n:y×y)(cq:∀ p∈ac,p.1<12)(ej:z=dR T)(al:T.length<1000)(b3:∀ q∈T,hB q.2)(aU:∀ q∈T,(q.1,I (q.2.map ad) q.2.length)∈cC)(cM:T≠[])(bJ:l=(n::R).map ad)(g6:∀ kG∈n::R,kG.1<12)(jC:R.length<1000) :hy w:=
 ec.mk (Up (w:=w) (D:=D) (J:=J) (aT:=aT) (bQ:=bQ) (cK:=cK) (c7:=c7) (bw:=bw) (cr:=cr) (v:=v) (as:=as) cq ej al b3 aU cM bJ g6 jC)
end
noncomputable def sE (a:y) :B (y×y):=(FQ a).tail
theorem OL (a:y) :∀ n∈(1,a+1)::sE a,n.1<12:=by
 intro n bK;have h:n.1∈((1,a+1)::sE a).map (·.1):=ep bK;have h:n.1∈1::3::10::6::7::5::8::[0,2,11,4,9]:=h;revert h;generalize n.1=m;intro h;have:∀ m∈1::3::10::6::7::5::8::[0,2,11,4,9],m<12:=by decide
 exact this m h
theorem aey (a:y) :(sE a).length<1000:=by show 11<1000;decide
noncomputable def Rn (w:aG)(D:i0)(J aT bQ cK c7 bw cr:y)(v:aK (y×y))(as:aK ag)(z:B ag)(ac:B (y×y))(T:B dK)(cC:bN)(a:y)(cq:∀ p∈ac,p.1<12)(ej:z=dR T)(al:T.length<1000)(b3:∀ q∈T,hB q.2)(aU:∀ q∈T,(q.1,I (q.2.map ad) q.2.length)∈cC)(cM:T≠[]) :hy w:=
 Rl w D J aT bQ cK c7 bw cr v as ((FQ a).map ad) z ac (sE a) T cC (1,a+1) cq ej al b3 aU cM rfl (OL a) (aey a)
noncomputable def frees (ac:B (y×y))(T:B dK)(a:y) :B (y×y):=la ac T ((1,a+1)::sE a)
theorem CU (ac:B (y×y))(T:B dK) :∀ R:B (y×y),(la ac T R).length<=R.length
 | []=>fk _
 | n::r=>by have:=CU ac T r;show (jB ac T n++la ac T r).length<=_;refine H (ea ..) (H (ed ..) ?_);unfold jB;rcases ((hv ac n.1 T).isEmpty&&!h0 n.1 ac) with _ | _ <;> simp only [cond_true,cond_false,nt,ed] <;> omega
theorem JA (ac:B (y×y))(T:B dK)(a:y) :((frees ac T a).map ad).length<1000000:=by refine H (de ..) ?_;exact iK (CU ac T _) (show 12<1000000 by decide)
noncomputable abbrev yG:B c5:=qp.2.1
section
section
variable (w:aG)(D:i0)(cr bQ cK c7 cR q:y)(z a8:B ag)(v:aK (y×y))(as:aK ag)(ac:B (y×y))(T:B dK)(cC:bN)(cq:∀ p∈ac,p.1<12)(ej:z=dR T)(al:T.length<1000)(b3:∀ q∈T,hB q.2)(aU:∀ q∈T,(q.1,I (q.2.map ad) q.2.length)∈cC)(cM:T≠[])(a4:D.h=(q:ai))(mj:a8.length<1000000)(rS:∀ a,(ac.map ad).length+(((frees ac T a).map ad).take q).length<1000000)
noncomputable def U0 (n t:y) :bb w:=
  .ax (aY 0x1000011) [2] 1 (ry w) [] λah=>.ax [] [0,2] 0 (RS w (ah 2) (ah 3)) [7] λaN=>.fF [9,9,9,10] [0,0,2] 1 (Rn w D (aN 0) (aN 2) bQ cK c7 (aN 3) n v as z ac T cC (ah 3) cq ej al b3 aU cM) (aY 0x164381920) [true] λbx=>.ax (aY 0x1bbbb1166661) [0,2] 1 (B2 w (bx 2) (bx 0) (bx 7) D.bR q D.h ((frees ac T (ah 3)).map ad) none a4 (JA ac T (ah 3))) [10,11] λcj=>.ax [6] [0,2] 0 (hS w D.bA cR a8 (a8++[.ref (cj 2)]) (.ref (cj 2)) none mj rfl) [5] λcg=>.ax (aY 0x1bbbb112) [0,2] 1 (B2 w (bx 2) (cg 0) (bx 7) D.bR q D.h ((frees ac T (ah 3)).map ad) none a4 (JA ac T (ah 3))) [10,13] λfc=>.ax [4,15,4,4] [0,2] 0 (rx w bQ (fc 2) cK 0 (ac.map ad) (((frees ac T (ah 3)).map ad).take q) (ac.map ad++((frees ac T (ah 3)).map ad).take q) none (rS (ah 3)) rfl) [3,14] λfS=>.bd [2,2] [] 0 (.ret (.ok .next)) (d4 (aY 0x1fca543210) [hj w.params D (bx 2) (bx 3) (bx 4),cx (.ref (fS 2)),cx (ad (bx 5,bx 6)),I (ac.map ad) cK,I z c7,I (a8++[.ref (cj 2)]) (cR+1),I ((frees ac T (ah 3)).map ad) (bx 7),I (((frees ac T (ah 3)).map ad).take q) 0,I (ac.map ad++((frees ac T (ah 3)).map ad).take q) 0])
theorem U1:eu w none 7 none [(D.G,i6 w.params D cr v),(D.bF,cx (.ref bQ)),(D.bv,mb as),(bQ,I (ac.map ad) cK),(D.d2,I z c7),(D.bA,I a8 cR)] [cC] (pp D.G D.bF D.bv) (j1 yG (jQ D.G D.bF D.bv)) (U0 w D bQ cK c7 cR q z a8 v as ac T cC cq ej al b3 aU cM a4 mj rS):=by revert w;refine nk λw fe fI hE hF=>?_;rcases fe with _ | _ <;> rcases v with _ | ⟨aD,cW⟩ <;> (intro F n t;kernel_rfl)
end
noncomputable def Sq (e:cT) :cT×cT×c2:=(hq e 0,hq e 1,kO e)
noncomputable def tr:=Sq qp.1
theorem Uo (G bF bv:aM) :pp G bF bv= .whileLoop (.Compare tr.1 [.NotEq] [tr.2.1] tr.2.2) yG [] (jQ G bF bv):=by kernel_rfl
theorem UZ:l7 .NotEq tr.2.1=false:=by kernel_rfl
section
variable (w:aG)(D:i0)(cr:y)(v:aK (y×y))
noncomputable def U3 (n t:y) :bb w:=
  .bd [1] [] 0 (.ret (.ok (.ret (.ref cr)))) [(0,i6 w.params D cr v)]
theorem U4:eu w none 1 none [(D.G,i6 w.params D cr v)] [] (pp D.G D.bF D.bv) (fQ tr.1 (jQ D.G D.bF D.bv)) (U3 w D cr v):=by rcases v with _ | ⟨aD,cW⟩ <;> (intro F n t;kernel_rfl)
end
section
variable (w:aG)(D:i0)
noncomputable def U5 (n t:y) :bb w:=
  .bd [] [] 1 (.ret (.ok (.ret (.ref n)))) [(0,I [] 0)]
theorem U6:eu w none 1 none [] [] (pp D.G D.bF D.bv) (fQ tr.2.1 (jQ D.G D.bF D.bv)) (U5 w):=c6
end
end
noncomputable def lb (fT:B y)(T:B dK) :B y:=(frees (fT.map λi=>(i,0)) T 0).map (·.1)
theorem Pu {ac e0:B (y×y)}(h:ac.map (·.1)=e0.map (·.1))(k:y) :h0 k ac=h0 k e0:=by
 have e:∀ ac:B (y×y),h0 k ac=(ac.map (·.1)).any λi=>i==k:=λac=>by unfold h0;rw [List.any_map];rfl
 rw [e,e,h]
theorem ab1 {ac e0:B (y×y)}(h:ac.map (·.1)=e0.map (·.1))(R:B (y×y)) :jp ac R=jp e0 R:=by
 unfold jp;have:(λq:y×y=>!h0 q.1 ac)=λq=>!h0 q.1 e0:=funext λq=>by rw [Pu h]
 exact H this rfl
theorem afs {ac e0:B (y×y)}(h:ac.map (·.1)=e0.map (·.1))(i:y) :∀ R:B (y×y),n8 ac i R=n8 e0 i R
 | []=>rfl
 | q::R=>by
  show (bif q.1==i then jp ac R else [])=bif q.1==i then jp e0 R else []
  exact H (ab1 h ..) rfl
theorem Pl {ac e0:B (y×y)}(h:ac.map (·.1)=e0.map (·.1))(i:y) :∀ T:B dK,hv ac i T=hv e0 i T
 | []=>rfl
 | q::r=>by show n8 ac i q.2++hv ac i r=n8 e0 i q.2++hv e0 i r;exact H (afs h ..) (H (Pl h i r ..) rfl)
theorem Jy {ac e0:B (y×y)}(h:ac.map (·.1)=e0.map (·.1))(T:B dK) :∀ R pf:B (y×y),R.map (·.1)=pf.map (·.1)->(la ac T R).map (·.1)=(la e0 T pf).map (·.1)
 | [],[],_=>rfl
 | n::r,kG::cz,e=>by
  obtain ⟨a5,bt⟩:=A5 e;have a5:n.1=kG.1:=a5;have bO:=Jy h T r cz bt;show (jB ac T n++la ac T r).map (·.1)=(jB e0 T kG++la e0 T cz).map (·.1);rw [c0,c0,bO];unfold jB;rw [<- a5,Pl h,Pu h];cases (hv e0 n.1 T).isEmpty&&!h0 n.1 e0
  ·rfl
  ·show [n.1]++_ =[kG.1]++_
   exact H a5 rfl
theorem CX (ac:B (y×y))(T:B dK)(a:y) :(frees ac T a).map (·.1)=lb (ac.map (·.1)) T:=by
 have h:ac.map (·.1)=((ac.map (·.1)).map λi=>(i,0)).map (·.1):=by refine H (mM ..) ?_;exact (List.map_id' _).symm
 exact Jy h T ((1,a+1)::sE a) ((1,0+1)::sE 0) rfl
noncomputable def no (q:y)(T:B dK) :B y->B (B y)->Prop
 | fT,[]=>lb fT T=[]
 | fT,p::aZ=>lb fT T≠[]/\p=(lb fT T).take q/\no q T (fT++p) aZ
theorem Jx {ac:B (y×y)}{T:B dK} :∀ {R:B (y×y)},(∀ n∈R,n.1<12)->∀ p∈la ac T R,p.1<12
 | [],_,p,L=>(c4 L).elim
 | n::r,h,p,L=>by
  rcases dU.mp (show p∈jB ac T n++la ac T r from L) with L | L
  ·unfold jB at L
   induction e:(hv ac n.1 T).isEmpty&&!h0 n.1 ac with
   | true=>rw [e] at L;refine H (dN.mp L ..) ?_;exact h n (cY ..)
   | false=>rw [e] at L;exact (c4 L).elim
  ·exact Jx (λn bK=>h n (dG _ bK)) p L
noncomputable def II:B c5:=to.take 1
noncomputable def IK:B c5:=to.drop 2
noncomputable def U7:c2:=oX to[1]?
noncomputable abbrev Cm (G bF bv:aM) :cn:=.func to (jQ G bF bv)
theorem Uq:to=II++.While qp.1 qp.2.1 [] U7::IK:=by kernel_rfl
noncomputable abbrev Cn (P:bp)(d2 M ab:y)(h:ai)(bR:y) :ao:=eM [aj P w0 M (.ref d2),aj P qX ab (.int h bR)] 2
section
section
variable (w:aG)(D:i0)(cr bQ cK cR N:y)(v:aK (y×y))(a8:B ag)(aq:ag)(ac:B (y×y))(ex:(ac.map ad).length=N)(hl:N<1000000)(mj:(a8++[aq]).length<1000000)(G bF bv d2 M ab bR:y)(h:ai)
noncomputable def Um (n t:y) :bb w:=
  .bd (aY 0x1111122a887888888788888878888887888887777) z7 7 (.ret (.ok .next)) (d4 (aY 0x1354210) [yF w.params ⟨G,bF,bv,d2,n+1,bR,M,ab,t+1,t+2,h⟩ (n+2),cx (.ref n),ma,I [] 0,I ([(1,t)].map ad) 0,I [] 0])
theorem Un:eu w none 2 none [(G,Cn w.params d2 M ab h bR),(bF,ma),(bv,ma)] [] (Cm G bF bv) (xw II (jQ G bF bv)) (Um w G bF bv d2 M ab bR h):=by revert w;exact cX
noncomputable def UW (n t:y) :bb w:=
  .ax [1,4,4,4,4] [0,0,0,2] 1 (RQ w D.bA n cR (t+1) a8 aq none mj) [3,4] λah=>.ax [0,0,2] [0,2] 0 (kz w bQ cK (ac.map ad) N none ex hl) [2] λaN=>.bd [] [0,0] 1 (.ret (.ok (.ret (.ref (aN 0))))) (d4 (aY 0x1563210) [i6 w.params D cr v,cx (.ref bQ),I (ac.map ad) cK,I (a8++[aq]) cR,di [.ref (ah 2),.bool ((N:ai) != 12)],I a8 0])
theorem UX:eu w none 3 none [(D.G,i6 w.params D cr v),(D.bF,cx (.ref bQ)),(bQ,I (ac.map ad) cK),(D.bA,I (a8++[aq]) cR)] [] (Cm D.G D.bF D.bv) (j1 IK (jQ D.G D.bF D.bv)) (UW w D cr bQ cK cR N v a8 aq ac ex hl mj):=by revert w;refine nk λw fe fI hE hF=>?_;rcases fe with _ | _ <;> rcases v with _ | ⟨aD,cW⟩ <;> (intro F n t;kernel_rfl)
end
noncomputable def kU:B (B y)->(y->y)->B dK
 | [],_=>[]
 | li::r,f=>(f 0,fa li λj=>f (j+1))::kU r λk=>f (k+4)
noncomputable def mG (T:B dK) :bN:=T.map λq=>(q.1,I (q.2.map ad) 0)
theorem Pr:∀ (T:B dK),(∀ t∈T,t.2.length<=3)->∃ f,kU (T.map λq=>q.2.map (·.1)) f=T
 | [],_=>⟨λ_=>0,rfl⟩
 | t::r,h=>by
  obtain ⟨f,a7⟩:=Pr r λq a4=>h q (dG _ a4);have bg:=h t (cY ..);obtain ⟨a,R⟩:=t;have bg:R.length<=3:=bg;have ib:∀ (x as aq:y),fa (R.map (·.1)) (λj=>hP [a,x,as,aq] f (j+1))=R->∃ f,kU (((a,R)::r).map λq=>q.2.map (·.1)) f=(a,R)::r:=λx as aq e=>by refine ⟨hP [a,x,as,aq] f,?_⟩;show (a,fa (R.map (·.1)) λj=>hP [a,x,as,aq] f (j+1))::kU (r.map λq=>q.2.map (·.1)) (λk=>f k)=(a,R)::r;refine H e ?_;exact fV _ a7
  match R,bg,ib with
  | [],_,ib=>exact ib 0 0 0 rfl
  | [p],_,ib=>exact ib p.2 0 0 rfl
  | [p,q],_,ib=>exact ib p.2 q.2 0 rfl
  | [p,q,u],_,ib=>exact ib p.2 q.2 u.2 rfl
  | p::q::u::v::R,h,_=>exact absurd h (sV.mpr (by simp only [ed];omega))
end
section
variable {w:aG}
theorem Jp (S:B bN)(dO x:bN) :(S++[dO++x]).flatten=(S++[dO,x]).flatten:=by rw [kY,kY,Jm,fz,Jm]
structure ye where
 (c7 q:y)
 z:B ag
 T:B dK
 cC:bN
structure BG (D:i0)(C:ye) :Prop where
 ej:C.z=dR C.T
 al:C.T.length<1000
 b3:∀ q∈C.T,hB q.2
 aU:∀ q∈C.T,(q.1,I (q.2.map ad) q.2.length)∈C.cC
 cM:C.T≠[]
 a4:D.h=(C.q:ai)
structure yd where
 (bQ cK cr eL cR:y)
 as:aK ag
 a8:B ag
 (ac F:B (y×y))
noncomputable def IM (D:i0)(C:ye)(eM:ao)(cc:yd) :B bN:=[[(D.G,eM)],[(D.bF,cx (.ref cc.bQ))],[(D.bv,mb cc.as)],[(D.bA,I cc.a8 cc.cR)],[(D.d2,I C.z C.c7)],C.cC,[(cc.bQ,I (cc.ac.map ad) cc.cK)],[(cc.cr,I (cc.F.map ad) cc.eL)]]
noncomputable def mS (D:i0)(C:ye)(eM:ao)(cc:yd)(dO:bN) :B bN:=IM D C eM cc++[dO]
section
variable {b:aR}{aB:B aM}{D:i0}{C:ye}{cc:yd}{dO:bN}{A:c9}{Q:cD->aR->Prop}
theorem Cr {s:aR}{v:aK (y×y)}(aS:eb w none 8 A none b)(o:bz b aB s (mS D C (i6 w.params D cc.cr v) cc dO))
  (cS:cc.F=[]->∀ an,bz b aB an (mS D C (i6 w.params D cc.cr v) cc dO)->Q (.ok .next) an)
  (dI:cc.F≠[]->∀ an,bz b aB an (mS D C (i6 w.params D cc.cr v) cc dO)->wpOwn (model aL w) A (pp D.G D.bF D.bv) (j1 yG (jQ D.G D.bF D.bv)) (postC aL w A (λq bi=>q= .ok .next/\codeAny (model aL w) A (pp D.G D.bF D.bv) Q bi)) (λ_ _=>dm) an) :
  codeAny (model aL w) A (pp D.G D.bF D.bv) Q s:=by
 refine afD (Uo D.G D.bF D.bv) UZ (eZ:=λr aA=>r= .ok (.ret (.ref cc.cr))/\bz b aB aA (mS D C (i6 w.params D cc.cr v) cc dO)) (iL:=λa r aA=>a= .ref cc.cr/\∃ hY,r= .ok (.ret (.ref hY))/\bz b aB aA ([(hY,I [] 0)]::mS D C (i6 w.params D cc.cr v) cc dO)) (k2:=λt aA=>t=!cc.F.isEmpty/\bz b aB aA (mS D C (i6 w.params D cc.cr v) cc dO)) ?_ ?_ ?_ ?_ ?_
 ·exact o.sv [0] ⟨rfl,by kernel_rfl⟩ (aS.eW (by decide) λ_ h=>h) (U4 w D cc.cr v) (f:=λ_ _ _=>.ret (.ref cc.cr)) (N:=λ_ _ _=>[]) (by intro n t X;kernel_rfl) λn t X aA o=>⟨rfl,o⟩
 ·rintro a aA ⟨h,o⟩
  cases h;exact o.sv [] ⟨rfl,rfl⟩ (aS.eW (by decide) λ_ h=>h) (U6 w D) (f:=λn _ _=>.ret (.ref n)) (N:=λn _ _=>[[(n,I [] 0)]]) (by intro n t X;kernel_rfl) λn t X bi o=>⟨rfl,n,rfl,o⟩
 ·rintro a v aA ⟨rfl,hY,h,o⟩
  cases h;refine abn (o.get 8 rfl) (o.get 0 rfl) (by have:=aS.units;unfold cLine;lia) ⟨?_,o.eQ (dW 1 9) rfl rfl⟩;exact H (List.isEmpty_map ..) rfl
 ·rintro aA ⟨e,o⟩
  refine cS ?_ aA o
  induction dP:cc.F with
  | nil=>rfl
  | cons p F=>rw [dP] at e;injection e
 ·rintro aA ⟨e,o⟩
  refine dI (λh=>?_) aA o;rw [h] at e;injection e
theorem IN {s:aR}{E:ag->aR->Prop}{v:aK (y×y)}(bF:BG D C)(cq:∀ p∈cc.ac,p.1<12)(mj:cc.a8.length<900000)(rS:cc.ac.length<900000)(aS:eb w none 8 A none b)(o:bz b aB s (mS D C (i6 w.params D cc.cr v) cc dO))
  (next:∀ an jA aD cW p ww bq a eL,bz b aB an (mS D C (i6 w.params D jA (some (aD,cW))) ⟨ww,0,jA,eL,cc.cR+1,some (ad p),cc.a8++[.ref bq],cc.ac++(frees cc.ac C.T a).take C.q,frees cc.ac C.T a⟩ (dO++[(bq,I (((frees cc.ac C.T a).take C.q).map ad) 0)]))->Q (.ok .next) an) :
  wpOwn (model aL w) A (pp D.G D.bF D.bv) (j1 yG (jQ D.G D.bF D.bv)) (postC aL w A Q) E s:=by
 have XQ:∀ a,(frees cc.ac C.T a).length<=12:=λa=>CU cc.ac C.T _;refine o.fL (aY 0x15346210) (af:=[C.cC]) (R:=[[(cc.cr,I (cc.F.map ad) cc.eL)],dO]) ⟨rfl,by kernel_rfl,by kernel_rfl⟩ (aS.eW (by decide) λ_ h=>h) (U1 w D cc.cr cc.bQ cc.cK C.c7 cc.cR C.q C.z cc.a8 v cc.as cc.ac C.T C.cC cq bF.ej bF.al bF.b3 bF.aU bF.cM bF.a4 (fh mj (by decide)) (λa=>by refine H (de ..) (H (G0 ..) (H (de ..) ?_));have:=XQ a;lia)) (f:=λ_ _ _=>.next)
  (cv:=λn t X=>[[(D.G,hj w.params D (X 2 2) (X 2 3) (X 2 4))],[(D.bF,cx (.ref (X 6 2)))],[(D.bv,mb (some (ad (X 2 5,X 2 6))))],[(cc.bQ,I (cc.ac.map ad) cc.cK)],[(D.d2,I C.z C.c7)],[(D.bA,I (cc.a8++[.ref (X 3 2)]) (cc.cR+1))],[(X 2 2,I ((frees cc.ac C.T (X 0 3)).map ad) (X 2 7))],[(X 3 2,I (((frees cc.ac C.T (X 0 3)).map ad).take C.q) 0)],[(X 6 2,I (cc.ac.map ad++((frees cc.ac C.T (X 0 3)).map ad).take C.q) 0)],C.cC]) (by intro n t X;kernel_rfl) ?_
 intro n t X an o;refine next an (X 2 2) (X 2 3) (X 2 4) (X 2 5,X 2 6) (X 6 2) (X 3 2) (X 0 3) (X 2 7) ((o.kn (aY 0x17b68945210) rfl).cast ((Jp _ _ _).trans ?_))
 refine H (Ba ..) ?_;unfold IM;refine H (c0 ..) (H (Ba ..) ?_);kernel_rfl
theorem U2 (bF:BG D C)(aS:eb w none 8 A none b) :∀ (aZ:B (B y)) (v:aK (y×y)) (cc:yd) (pi:B dK) (s:aR),no C.q C.T (cc.ac.map (·.1)) aZ->cc.F≠[]->(∀ p∈cc.ac,p.1<12)->cc.a8.length+aZ.length<800000->cc.ac.length+aZ.flatten.length<800000->cc.a8=dR pi->
  bz b aB s (mS D C (i6 w.params D cc.cr v) cc (mG pi))->
  (∀ an aD cW p aq qj (iZ:B dK),bz b aB an (mS D C (i6 w.params D qj.cr (some (aD,cW))) qj (mG iZ++[(aq,I [] 0)]))->qj.as=some (ad p)->qj.a8=dR iZ++[.ref aq]->qj.ac.length=cc.ac.length+aZ.flatten.length->iZ.map (λq=>q.2.map (·.1))=pi.map (λq=>q.2.map (·.1))++aZ->Q (.ok .next) an)->codeAny (model aL w) A (pp D.G D.bF D.bv) Q s:=by
 intro aZ
 induction aZ with
 | nil=>
  intro v cc pi s ap dP cq mj rS cM o dh;refine Cr aS o (λh=>absurd h dP) λ_ aA cI=>?_;have YG:cc.a8.length<800000:=mj;have Xs:cc.ac.length<800000:=rS;refine IN bF cq (fh YG (by decide)) (fh Xs (by decide)) aS cI ?_;intro bi jA aD cW p ww bq a nG cy;have Kd:frees cc.ac C.T a=[]:=by have:=CX cc.ac C.T a;rw [show lb (cc.ac.map (·.1)) C.T=[] from ap] at this;exact G1.mp this
  refine ⟨rfl,Cr (cc:=⟨ww,0,jA,nG,cc.cR+1,some (ad p),cc.a8++[.ref bq],cc.ac++(frees cc.ac C.T a).take C.q,frees cc.ac C.T a⟩) (v:=some (aD,cW)) aS cy (λ_ dp dz=>?_) λh=>absurd Kd h⟩;rw [Kd,List.take_nil] at dz;exact dh dp aD cW p bq _ pi dz rfl (by rw [cM]) (by rw [d9];rfl) (d9 _).symm
 | cons jF aZ bO=>
  intro v cc pi s ap dP cq mj rS cM o dh;refine fp λfx dk=>?_;obtain ⟨e6,L,Dd⟩:=ap;refine dk ?_;rw [ed] at mj;rw [fz,ea] at rS;refine Cr aS o (λh=>absurd h dP) λ_ aA cI=>?_;refine IN bF cq (by lia) (by lia) aS cI ?_;intro bi jA aD cW p ww bq a nG cy;have tL:((frees cc.ac C.T a).take C.q).map (·.1)=jF:=by rw [L,Ba,CX]
  have hlen:((frees cc.ac C.T a).take C.q).length=jF.length:=by rw [<- tL,de]
  have g6:∀ r∈frees cc.ac C.T a,r.1<12:=Jx (OL a);have Vs:mG pi++[(bq,I (((frees cc.ac C.T a).take C.q).map ad) 0)]=mG (pi++[(bq,(frees cc.ac C.T a).take C.q)]):=by unfold mG;rw [c0];rfl
  rw [Vs] at cy;refine ⟨rfl,bO (some (aD,cW)) ⟨ww,0,jA,nG,cc.cR+1,some (ad p),cc.a8++[.ref bq],cc.ac++(frees cc.ac C.T a).take C.q,frees cc.ac C.T a⟩ (pi++[(bq,(frees cc.ac C.T a).take C.q)]) bi ?_ (λh=>e6 ?_) (λr a9=>?_) ?_ ?_ ?_ cy ?_⟩
  ·show no C.q C.T ((cc.ac++(frees cc.ac C.T a).take C.q).map (·.1)) aZ
   rw [c0,tL];exact Dd
  ·have h:frees cc.ac C.T a=[]:=h
   rw [<- CX cc.ac C.T a,h];rfl
  ·rcases dU.mp a9 with h | h
   ·exact cq r h
   ·exact g6 r (List.mem_of_mem_take h)
  ·show (cc.a8++[Value.ref bq]).length+_ <_
   rw [ea,ig];lia
  ·show (cc.ac++(frees cc.ac C.T a).take C.q).length+_ <_
   rw [ea,hlen];lia
  ·show cc.a8++[Value.ref bq]=_
   rw [cM];unfold dR;rw [c0];rfl
  ·intro an aD cW p aq qj iZ az aJ bg cS dI
   refine dh an aD cW p aq qj iZ az aJ bg ?_ ?_
   ·have cS:qj.ac.length=(cc.ac++(frees cc.ac C.T a).take C.q).length+aZ.flatten.length:=cS
    rw [cS,ea,hlen,fz,ea,pb]
   ·rw [dI,c0,f9]
    show _++(((frees cc.ac C.T a).take C.q).map (·.1)::aZ)=_;exact H tL rfl
end
theorem GD {q:y}{T:B dK}(a4:q<=3) :∀ {aZ:B (B y)} {fT:B y},no q T fT aZ->∀ p∈aZ,p.length<=3
 | [],_,_,p,L=>(c4 L).elim
 | jF::aZ,fT,ap,p,L=>by
  refine fp λfx dk=>?_;obtain ⟨_,aJ,bg⟩:=ap;refine dk ?_;rcases dx.mp L with rfl | L
  ·refine H aJ ?_
   exact gh (List.length_take_le _ _) a4
  ·exact GD a4 bg p L
theorem eb.afh {dg:aK (B cE)}{bj oO:y}{A:c9}{ap:aK ag}{s:aR}{b:B c5}{env:cE}(h:eb w dg bj A ap s)(al:oO+1<=bj) :eb w none oO (A.under (.func b env)) ap s:=(h.under al).eW (fk _) λ_ e=>(by injection e)
theorem U9 {G bF bv d2 M ab bR c7 q:y}{h:ai}{z:B ag}{T:B dK}{cC:bN}{aZ:B (B y)}
  (ej:z=dR T)(al:T.length<1000)(b3:∀ q∈T,hB q.2)(aU:∀ q∈T,(q.1,I (q.2.map ad) q.2.length)∈cC)(cM:T≠[])(a4:h=(q:ai))(jW:q<=3)(ap:no q T [] aZ)(nP:aZ.length<700000)(qH:aZ.flatten.length<700000) :
  ec w none 9 (Cm G bF bv) none [(G,Cn w.params d2 M ab h bR),(bF,ma),(bv,ma),(d2,I z c7)] [cC] (λx=>.ok (.ret (.ref (x 2))))
   (λx=>[hj w.params ⟨G,bF,bv,d2,x 8,bR,M,ab,x 9,x 10,h⟩ (x 4) (x 5) (x 6),cx (.ref (x 7)),cx (ad (x 11,x 12)),I z c7])
   (λx=>[(x 2,di [.ref (x 3),.bool ((aZ.flatten.length:ai) != 12)]),(x 3,I (dR (kU aZ λk=>x (k+13))) 0)]) (λx=>[cC,mG (kU aZ λk=>x (k+13))]) (λ_=>bZ):=λA s aS has bU=>by
 have o:bz s ([G,bF,bv,d2]++([cC] :B bN).flatten.map (·.1)) s _:=bz.pj (S:=[[(G,Cn w.params d2 M ab h bR)],[(bF,ma)],[(bv,ma)],[(d2,I z c7)],cC]) (by kernel_rfl) has bU;have Sc:∀ D:i0,D.h=h->BG D ⟨c7,q,z,T,cC⟩:=λD e=>⟨ej,al,b3,aU,cM,e.trans a4⟩;refine WD Uq (P:=λaA=>∃ bQ bA cr ae ak be,bz s ([G,bF,bv,d2]++([cC] :B bN).flatten.map (·.1)) aA (mS ⟨G,bF,bv,d2,bA,bR,M,ab,ae,ak,h⟩ ⟨c7,q,z,T,cC⟩ (yF w.params ⟨G,bF,bv,d2,bA,bR,M,ab,ae,ak,h⟩ cr) ⟨bQ,0,cr,0,0,none,[],[],[(1,be)]⟩ []))
  (X:=λbi=>∃ bA ae ak aD cW p aq cc iZ,bz s ([G,bF,bv,d2]++([cC] :B bN).flatten.map (·.1)) bi (mS ⟨G,bF,bv,d2,bA,bR,M,ab,ae,ak,h⟩ ⟨c7,q,z,T,cC⟩ (i6 w.params ⟨G,bF,bv,d2,bA,bR,M,ab,ae,ak,h⟩ cc.cr (some (aD,cW))) cc (mG iZ++[(aq,I [] 0)]))/\cc.as=some (ad p)/\cc.a8=dR iZ++[.ref aq]/\cc.ac.length=aZ.flatten.length/\iZ.map (λq=>q.2.map (·.1))=aZ) ?_ ?_ ?_
 ·exact o.fL [0,1,2] (af:=[]) (R:=[[(d2,I z c7)],cC]) ⟨rfl,by kernel_rfl,by kernel_rfl⟩ (aS.eW (by decide) λ_ h=>h) (Un w G bF bv d2 M ab bR h) (f:=λ_ _ _=>.next)
   (cv:=λn t X=>[[(G,yF w.params ⟨G,bF,bv,d2,n+1,bR,M,ab,t+1,t+2,h⟩ (n+2))],[(bF,cx (.ref n))],[(bv,ma)],[(n+1,I [] 0)],[(n+2,I ([(1,t)].map ad) 0)],[(n,I [] 0)]]) (by intro n t X;kernel_rfl)
   λn t X aA o=>⟨rfl,n,n+1,n+2,t+1,t+2,t,(o.kn (aY 0x145763210) rfl).cast (by kernel_rfl)⟩
 ·rintro aA ⟨bQ,bA,cr,ae,ak,be,o⟩
  refine U2 (D:=⟨G,bF,bv,d2,bA,bR,M,ab,ae,ak,h⟩) (C:=⟨c7,q,z,T,cC⟩) (Sc _ rfl) (aS.afh (by decide)) aZ none ⟨bQ,0,cr,0,0,none,[],[],[(1,be)]⟩ [] aA ap (λe=>nomatch e) (λ_ h=>nomatch h) ?_ ?_ rfl o ?_
  ·show 0+aZ.length<800000
   lia
  ·show 0+aZ.flatten.length<800000
   lia
  ·intro bi aD cW p aq cc iZ az aJ bg cS dI
   exact ⟨rfl,bA,ae,ak,aD,cW,p,aq,cc,iZ,az,aJ,bg,cS.trans (jd _),dI⟩
 ·rintro bi ⟨bA,ae,ak,aD,cW,p,aq,cc,iZ,o,c3,mj,cq,bK⟩
  have agp:iZ.length=aZ.length:=by exact df bK (H (de ..) rfl)
  refine fp λfx dk=>?_;obtain ⟨ji,a7⟩:=Pr iZ λt e2=>by
   have:t.2.map (·.1)∈aZ:=by refine df bK ?_;exact ep (f:=λq:dK=>q.2.map (·.1)) e2
   have:=GD jW ap _ this;rwa [de] at this
  rw [bK] at a7;obtain ⟨bQ,cK,cr,eL,cR,as,a8,ac,F⟩:=cc;refine dk ?_;subst c3;subst mj;have cq:ac.length=aZ.flatten.length:=cq;refine o.fL [0,1,6,3] (af:=[]) (R:=[[(bv,mb (some (ad p)))],[(d2,I z c7)],cC,[(cr,I (F.map ad) eL)],mG iZ++[(aq,I [] 0)]]) ⟨rfl,by kernel_rfl,by kernel_rfl⟩ (aS.eW (by decide) λ_ h=>h) (UX w ⟨G,bF,bv,d2,bA,bR,M,ab,ae,ak,h⟩ cr bQ cK cR aZ.flatten.length (some (aD,cW)) (dR iZ) (.ref aq) ac (by refine H (de ..) ?_;exact cq) (fh qH (by decide)) (by rw [ea,dR,de,ig];lia)) (f:=λ_ _ X=>.ret (.ref (X 1 0)))
   (cv:=λn t X=>[[(G,i6 w.params ⟨G,bF,bv,d2,bA,bR,M,ab,ae,ak,h⟩ cr (some (aD,cW)))],[(bF,cx (.ref bQ))],[(bQ,I (ac.map ad) cK)],[(bA,I (dR iZ++[.ref aq]) cR)],[(X 1 0,di [.ref (X 0 2),.bool ((aZ.flatten.length:ai) != 12)])],[(X 0 2,I (dR iZ) 0)]]) (by intro n t X;kernel_rfl) ?_
  intro n t X dp dz;refine ⟨_,rfl,hP [dp.heap.objs.size,dp.toks,X 1 0,X 0 2,cr,aD,cW,bQ,bA,ae,ak,p.1,p.2] ji,rfl,trivial,rfl,rfl,?_⟩;show jI s dp _ _ [hj w.params ⟨G,bF,bv,d2,bA,bR,M,ab,ae,ak,h⟩ cr aD cW,cx (.ref bQ),cx (ad p),I z c7] [(X 1 0,di [.ref (X 0 2),.bool ((aZ.flatten.length:ai) != 12)]),(X 0 2,I (dR (kU aZ λk=>ji k)) 0)] [cC,mG (kU aZ λk=>ji k)];have a7:kU aZ (λk=>ji k)=iZ:=a7;refine H a7 ?_;have kH:=dz.kn (aY 0x1a8547610) rfl;have mv:=kH.cast (dc:=[[(G,hj w.params ⟨G,bF,bv,d2,bA,bR,M,ab,ae,ak,h⟩ cr aD cW)],[(bF,cx (.ref bQ))],[(bv,cx (ad p))],[(d2,I z c7)],[(X 1 0,di [.ref (X 0 2),.bool ((aZ.flatten.length:ai) != 12)])],[(X 0 2,I (dR iZ) 0)],cC]++[mG iZ,[(aq,I [] 0)]]) (((Jp _ _ _).symm).trans (by kernel_rfl));exact bz.ny (mv.eQ (dW 0 8) rfl rfl) rfl (by kernel_rfl)
noncomputable def Ro (w:aG)(G bF bv d2 M ab bR c7 q:y)(h:ai)(z:B ag)(T:B dK)(cC:bN)(aZ:B (B y))(ej:z=dR T)(al:T.length<1000)(b3:∀ q∈T,hB q.2)(aU:∀ q∈T,(q.1,I (q.2.map ad) q.2.length)∈cC)(cM:T≠[])(a4:h=(q:ai))(jW:q<=3)(ap:no q T [] aZ)(nP:aZ.length<700000)(qH:aZ.flatten.length<700000) :hy w:=
 ec.mk (U9 (w:=w) (G:=G) (bF:=bF) (bv:=bv) (M:=M) (ab:=ab) (bR:=bR) (c7:=c7) (d2:=d2) ej al b3 aU cM a4 jW ap nP qH)
end
section
noncomputable def zR:cT:=Ga (ew 44).2.1[7]?
noncomputable abbrev EI (G bf:aM) :cE:={scope:=vH (uR zR),locals:=bf,globals:=3,cells:=[],qual:=Eu++".<locals>.",func:=none,code:=.ref 933,frame:=some G,builtins:=0}
noncomputable abbrev zT (G J a3 bf:aM) :cn:=.compLoop zR 0 (.ref J) (.ref a3) (EI G bf)
noncomputable abbrev abV (G J a3 bf:aM) :cn:=.compStart zR 0 (.ref J) (.ref a3) (EI G bf)
noncomputable abbrev zS (G J a3 bf:aM) :cn:=.compLoop zR 1 (.ref J) (.ref a3) (EI G bf)
noncomputable def qN (P:bp)(eE bl:y) :aK (y×y×y)->ao
 | none=>{cls:=.type "dict",data:=.dict ⟨[aj P [116,117,114,110] eE (.ref bl)]⟩ 1}
 | some (ki,p)=>{cls:=.type "dict",data:=.dict ⟨[aj P [116,117,114,110] eE (.ref bl),aj P nY ki (ad p)]⟩ 2}
noncomputable def tW (P:bp) :aK (y×y×aK (y×y×y))->ao
 | none=>iT
 | some (eE,bl,o)=>qN P eE bl o
section
variable (w:aG)(G J a3 bf aT k e eE bl cA:y)(z a8:B ag)(q:y×y)(o:aK (y×y×y))(bc:z[k]? =some (ad q))(cM:a8.length<1000000)
noncomputable def abR (n t:y) :bb w:=
  .ax [1,1] [0,0,2] 0 (jO w J aT e k z (ad q) none bc) [0,1] λah=>.ax [4,4,4,3] [0,2] 0 (hS w a3 cA a8 (a8++[ad q]) (ad q) none cM rfl) [2] λaN=>.bd [] [3] 0 (.dr (zS G J a3 bf)) (d4 [0,1,2,3] [b4 "list_iterator" aT (k+1),I z e,I (a8++[ad q]) (cA+1),qN w.params eE bl (some (r4 o (ah 1),q))])
theorem abS:b2 w 3 none [(J,b4 "list_iterator" aT k),(aT,I z e),(a3,I a8 cA),(bf,qN w.params eE bl o)] (zS G J a3 bf) (abR w G J a3 bf aT k e eE bl cA z a8 q o bc cM):=by revert w;refine nk λw fe fI hE hF=>?_;rcases fe with _ | _ <;> rcases o with _ | _ <;> (intro F n t;kernel_rfl)
section
variable (o:ao)(bc:z.length=k)
noncomputable def abP (n t:y) :bb w:=
  .ax [1,1] [0,0,2] 0 (nC w J aT e k z bc) [0,1] λah=>.bd [5] [] 0 (.ret (.ok .next)) (d4 [0,1,2,3] [ee "list_iterator" k,I z e,I a8 cA,o])
theorem abQ:b2 w 3 none [(J,b4 "list_iterator" aT k),(aT,I z e),(a3,I a8 cA),(bf,o)] (zS G J a3 bf) (abP w J aT k e cA z a8 o bc):=c6
end
end
section
variable {w:aG}
theorem Na {G J a3 bf aT e eE bl:y}{z:B ag} :∀ (R:B (y×y)) (k cA:y) (o:aK (y×y×y)) (a8:B ag),z.drop k=R.map ad->k+R.length=z.length->a8.length+R.length<1000000->
  b0 w 3 (zS G J a3 bf) none [(J,b4 "list_iterator" aT k),(aT,I z e),(a3,I a8 cA),(bf,qN w.params eE bl o)] (λ_=>.ok .next)
   (λx=>[ee "list_iterator" z.length,I z e,I (a8++R.map ad) (x 2),qN w.params eE bl (na o R (x 3))]) (λ_=>[]) (λ_=>bZ)
 | [],k,cA,o,a8,h,aV,al=>by have a5:z.length=k:=aV.symm;subst a5;refine mf (abQ w G J a3 bf aT z.length e cA z a8 _ rfl) ?_;intro n t ah _ a b;refine ⟨ca a b [cA,0],rfl,rfl,rfl,?_,rfl,trivial⟩;show _ =d4 _ [_,_,I (a8++[]) _,_]++_;refine H (d9 a8 ..) ?_;kernel_rfl
 | q::R,k,cA,o,a8,h,aV,al=>by
  rw [ed] at aV al;have bc:z[k]? =some (ad q):=by
   have:(z.drop k)[0]? =some (ad q):=by refine H h ?_;rfl
   rwa [o9] at this
  have ap:z.drop (k+1)=R.map ad:=by refine df (om ..) (H h ?_);rfl
  refine rM (abS w G J a3 bf aT k e eE bl cA z a8 q o bc (by omega)) ?_;intro n t ah _ aN _;refine ⟨_,[],_,_,_,_,?_,Na (aT:=aT) (e:=e) (eE:=eE) (bl:=bl) R (k+1) (cA+1) (some (r4 o (ah 1),q)) (a8++[ad q]) ap (by omega) (by refine H (ea ..) (H (ig ..) ?_);omega),λx _=>⟨hP [x 0,x 1,x 2,ah 1] x,rfl,rfl,rfl,?_,rfl,trivial⟩⟩
  ·kernel_rfl
  ·refine H (zx R _ q (x 3) (ah 1) ..) (H (f9 ..) ?_)
   rfl
end
noncomputable def RF (w:aG)(G J a3 bf aT e eE bl cA:y)(o:aK (y×y×y))(a8:B ag)(R:B (y×y))(al:a8.length+R.length<1000000) :cV w:=
 ⟨3,_,none,_,_,_,_,_,Ib (w:=w) (by kernel_rfl) (r2 (aT:=aT) (k:=0) (cY ..)) (Na (w:=w) (G:=G) (J:=J) (a3:=a3) (bf:=bf) (aT:=aT) (e:=e) (eE:=eE) (bl:=bl) (z:=R.map ad) R 0 cA o a8 rfl (by exact H (de ..) (H (jd ..) rfl)) al)⟩
end
section
section
variable (w:aG)(G J a3 bf aT k bl cA bw e:y)(z a8:B ag)(o:ao)(cC:bN)(R:B (y×y))(v:aK (y×y×aK (y×y×y)))(bc:z[k]? =some (.ref bl))(al:a8.length+R.length<1000000)
noncomputable def abW (n t:y) :bb w:=
  .ax [1,1] [0,0,2] 0 (jO w J aT bw k z (.ref bl) none bc) [0,1] λah=>.ax (aY 0x16555444) [0,0,2] 1 (RF w G (ah 0) a3 bf bl e (oL v (ah 1)) bl cA (jE v) a8 R al) [5,4,2,3] λaN=>.bd [] [3] 0 (.dr (zT G J a3 bf)) (d4 [0,1,2,3,4] [b4 "list_iterator" aT (k+1),I z bw,I (a8++R.map ad) (aN 2),tW w.params (some (oL v (ah 1),bl,na (jE v) R (aN 3))),I (R.map ad) e])
theorem abX:b2 w 4 none [(J,b4 "list_iterator" aT k),(aT,I z bw),(a3,I a8 cA),(bf,tW w.params v),(bl,I (R.map ad) e)] (zT G J a3 bf) (abW w G J a3 bf aT k bl cA bw e z a8 R v bc al):=by revert w;refine nk λw fe fI hE hF=>?_;rcases fe with _ | _ <;> rcases v with _ | ⟨eE,zu,_ | ⟨ki,p⟩⟩ <;> (intro F n t;kernel_rfl)
section
variable (bc:z.length=k)
noncomputable def abT (n t:y) :bb w:=
  .ax [1,1] [0,0,2] 0 (nC w J aT bw k z bc) [0,1] λah=>.bd [5] [] 0 (.ret (.ok .next)) (d4 [0,1,2,3] [ee "list_iterator" k,I z bw,I a8 cA,o])
theorem abU:j8 w none 4 none [(J,b4 "list_iterator" aT k),(aT,I z bw),(a3,I a8 cA),(bf,o)] [cC] (zT G J a3 bf) (abT w J aT k cA bw z a8 o bc):=c6
end
end
noncomputable def iA (T:B dK) :B (y×y):=T.flatMap (·.2)
section
variable {w:aG}
theorem Nb {G J a3 bf aT bw:y}{z:B ag}{cC:bN} :∀ (aW:B dK) (k cA:y) (v:aK (y×y×aK (y×y×y))) (a8:B ag),z.drop k=dR aW->k+aW.length=z.length->a8.length+(iA aW).length<1000000->(∀ q∈aW,q.2≠[])->(∀ q∈aW,∃ e,(q.1,I (q.2.map ad) e)∈cC)->(aW≠[]∨(jE v).isSome=true)->
  ec w none 4 (zT G J a3 bf) none [(J,b4 "list_iterator" aT k),(aT,I z bw),(a3,I a8 cA),(bf,tW w.params v)] [cC] (λ_=>.ok .next)
   (λx=>[ee "list_iterator" z.length,I z bw,I (a8++(iA aW).map ad) (x 2),tW w.params (ow x)]) (λ_=>[]) (λ_=>[cC]) (λx=>x 9=1/\x 5=1)
 | [],k,cA,v,a8,h,aV,al,b3,aU,e6=>by
  have e:z.length=k:=aV.symm;subst e;have hs:=e6.resolve_left λh=>h rfl;refine Cw (abU w G J a3 bf aT z.length cA bw z a8 _ cC rfl) ?_;intro n t ah _ c d;refine fp λfx dk=>?_;obtain ⟨g3,a5,bt,cd⟩:=IS c d cA v;refine dk ?_;have dI:me c d cA v 5=1:=by have:=IT (a:=c) (b:=d) (c:=cA) (v:=v);rw [hs] at this;exact this
  refine ⟨me c d cA v,g3,a5,rfl,?_,rfl,⟨IU (λh=>by rw [h] at hs;cases hs),dI⟩⟩;show _ =d4 _ [_,_,I (a8++[]) (me c d cA v 2),tW w.params (ow (me c d cA v))]++_;rw [bt,cd,d9 a8];kernel_rfl
 | (bl,R)::aW,k,cA,v,a8,h,aV,al,b3,aU,_=>by
  rw [ed] at aV;have nK:iA ((bl,R)::aW)=R++iA aW:=rfl;rw [nK,ea] at al;have bc:z[k]? =some (.ref bl):=by
   have:(z.drop k)[0]? =some (.ref bl):=by rw [h];rfl
   rwa [o9] at this
  have ap:z.drop (k+1)=dR aW:=by rw [<- om,h];rfl
  obtain ⟨e,wk⟩:=aU _ (cY ..);have hw:a8++(iA ((bl,R)::aW)).map ad=(a8++R.map ad)++(iA aW).map ad:=by exact H nK (H (c0 ..) (H (f9 ..) rfl))
  refine H hw ?_;refine Cx (abX w G J a3 bf aT k bl cA bw e z a8 R v bc (by omega)) (Bb.mpr ⟨cC,dN.mpr rfl,wk⟩) ?_;intro n t ah _ aN _;have DF:(jE (some (oL v (ah 1),bl,na (jE v) R (aN 3)))).isSome=true:=KL R _ _ (.inl (b3 _ (cY ..)));refine ⟨_,?_,Nb (aT:=aT) (bw:=bw) aW (k+1) (aN 2) (some (oL v (ah 1),bl,na (jE v) R (aN 3))) (a8++R.map ad) ap (by omega) (by refine H (ea ..) (H (de ..) ?_);omega) (λq a4=>b3 q (dG _ a4)) (λq a4=>aU q (dG _ a4)) (.inr DF)⟩;kernel_rfl
theorem Z9 (P:bp)(x:y->y)(h:x 9=1/\x 5=1) :tW P (ow x)=qN P (x 3) (x 4) (some (x 6,x 7,x 8)):=by unfold ow;refine H h.1 (H h.2 ?_);rfl
theorem abZ {G J a3 bf aT bw:y}{z:B ag}{cC:bN}{T:B dK}(ej:z=dR T)(al:(iA T).length<1000000)(b3:∀ q∈T,q.2≠[])(aU:∀ q∈T,∃ e,(q.1,I (q.2.map ad) e)∈cC)(cM:T≠[]) :
  ec w none 4 (abV G J a3 bf) none [(J,b4 "list_iterator" aT 0),(aT,I z bw),(a3,I [] 0),(bf,iT)] [cC] (λ_=>.ok .next)
   (λx=>[ee "list_iterator" z.length,I z bw,I ((iA T).map ad) (x 2),qN w.params (x 3) (x 4) (some (x 6,x 7,x 8))]) (λ_=>[]) (λ_=>[cC]) (λ_=>bZ):=λA s aS has bU=>by
 refine gR (Ic (w:=w) (by kernel_rfl) (r2 (aT:=aT) (k:=0) (cY ..)) (Nb (w:=w) (G:=G) (J:=J) (a3:=a3) (bf:=bf) (aT:=aT) (bw:=bw) T 0 0 none [] ej (by rw [ej,dR,de,jd]) (by refine H (nt ..) (H (jd ..) ?_);exact al) b3 aU (.inl cM)) A s aS has bU) ?_;rintro r an ⟨x,az,aJ,bg,cS,dI⟩;refine ⟨x,az,trivial,bg,cS,?_⟩;show jI s an _ _ [ee "list_iterator" z.length,I z bw,I ((iA T).map ad) (x 2),qN w.params (x 3) (x 4) (some (x 6,x 7,x 8))] [] [cC];refine df (Z9 _ x aJ ..) ?_;exact dI
end
noncomputable def RG (w:aG)(G J a3 bf aT bw:y)(z:B ag)(cC:bN)(T:B dK)(ej:z=dR T)(al:(iA T).length<1000000)(b3:∀ q∈T,q.2≠[])(aU:∀ q∈T,∃ e,(q.1,I (q.2.map ad) e)∈cC)(cM:T≠[]) :hy w:=
 ec.mk (abZ (w:=w) (G:=G) (J:=J) (a3:=a3) (bf:=bf) (aT:=aT) (bw:=bw) ej al b3 aU cM)
end
noncomputable def zI:B c5:=(ew 44).2.1
noncomputable def Ev:B c5:=[mD zI 5]
noncomputable def oR:=Kt zI[6]?
noncomputable def Ew:B c5:=[mD zI 7]
structure Hi where
 (a b:cT)
 (bD:c2)
 (c d:cT)
 (cf dJ uI:c2)
noncomputable def acZ (o:aK c5) :Hi:=let r:=kP o 0
 ⟨hq (hq r 0) 0,hq (hq r 0) 1,kO (hq r 0),hq (hq r 1) 0,hq (hq r 1) 1,kO (hq r 1),kO r,oX o⟩
noncomputable def jY:Hi:=acZ zI[8]?
theorem aav:(ew 44).2.1=Et++(Ev++(.If (.Compare oR.1 [.NotEq] [oR.2.2.1] oR.2.2.2.1) oR.2.2.2.2.1 [] oR.2.2.2.2.2::(Ew++[.Return (some (.BoolOp .And [.Compare jY.a [.Eq] [jY.b] jY.bD,.Compare jY.c [.Eq] [jY.d] jY.cf] jY.dJ)) jY.uI]))):=by kernel_rfl
theorem aaC:l7 .NotEq oR.2.2.1=false:=by kernel_rfl
theorem aaD:l7 .Eq jY.b=false:=by kernel_rfl
theorem aaE:l7 .Eq jY.d=false:=by kernel_rfl
noncomputable abbrev aaz (P:bp)(D:gx)(ak aD a0 b7:y)(p:y×y)(a b:y)(i:ai)(t:y) :B f8:=r7 P D++[aj P nY ak (ad p),aj P sr aD (.ref a),aj P sh a0 (.ref b),aj P qX b7 (.int i t)]
noncomputable abbrev aaA (P:bp)(aC:B f8)(G eV r3 c bA:y)(b:bW) :ao:=k9 (aC++[aj P uf eV (.ref bA),aj P w6 r3 (.bool b)]) 9 (lY (ek G) c)
section
structure lz where
 (ak aD a0 b7 eV r3 zp c a b b9:y)
 p:y×y
 i:ai
 ij:bW
noncomputable abbrev Lc (P:bp)(D:gx)(bk:lz) :ao:=Le P D bk.ak bk.aD bk.a0 bk.b7 bk.c bk.p bk.a bk.b bk.i bk.b9
noncomputable abbrev Er (P:bp)(D:gx)(bk:lz) :B f8:=aaz P D bk.ak bk.aD bk.a0 bk.b7 bk.p bk.a bk.b bk.i bk.b9
noncomputable abbrev Es (P:bp)(D:gx)(bk:lz)(bA fn:y) :B f8:=Er P D bk++[aj P uf bk.eV (.ref bA),aj P w6 bk.r3 (.bool bk.ij),aj P [111,114,100,101,114] bk.zp (.ref fn)]
noncomputable abbrev oP (P:bp)(D:gx)(bk:lz)(bA:y) :ao:=aaA P (Er P D bk) D.G bk.eV bk.r3 bk.c bA bk.ij
noncomputable abbrev lk (P:bp)(D:gx)(bk:lz)(bA fn:y) :ao:=k9 (Es P D bk bA fn) 10 (lY (ek D.G) bk.c)
noncomputable def qK:B (B (y×y))->(y->y)->B dK
 | [],_=>[]
 | q::r,f=>(f 0,q)::qK r λk=>f (k+1)
theorem Kw:∀ (aZ:B (B (y×y))) (f:y->y),lr f aZ=dR (qK aZ f)
 | [],_=>rfl
 | q::r,f=>fV (Value.ref (f 0)::·) (Kw r _)
theorem Kv:∀ (aZ:B (B (y×y))) (f:y->y),lP f aZ=(qK aZ f).map g0
 | [],_=>rfl
 | q::r,f=>fV ((f 0,I (q.map ad) q.length)::·) (Kv r _)
theorem ws:∀ (aZ:B (B (y×y))) (f:y->y),(qK aZ f).map (·.2)=aZ
 | [],_=>rfl
 | q::r,f=>fV (q::·) (ws r _)
section
variable (w:aG)(D:gx)(bk:lz)(bA fn gj jz cR c7 h:y)(aF:bk.i=(h:ai))(V:B ag)(T:B dK)(cC:bN)(z:cs)(ar au:y)(Z:y->ai)(aE:y->y)(aa:y->B (y×y))(K:y->y)(cJ:B y)(a7:g5 aa 60 [] (fH 0 12)=some (bk.ij,cJ))(cm:∀ i<12,∀ p∈aa i,p.1<12)(q:B (y×y))(aZ:B (B (y×y)))(hx:a6×y)(f:hA)(jF:y×y)(R:B (y×y))(toks:B (B y))(m:y)(bJ:∀ p∈R,p.1<12)(eC:R.length<1000)(bM:(hn R).length<1000000)(bu:iD m (hn R)=some toks)(aU:m<1000)(L:eI z.cb Z 0 12=jF::R)(ap:iY bk.i aa (q::aZ) ⟨Z,eI z.cb Z 0 12,[],0,0,hx⟩ f)(al:(q::aZ).length<999999)
noncomputable def aaH (n t:y) :bb w:=
  .fF [0,1,1,0] [2] 0 (Rh w z bk.i bk.b9 ar au Z aE aa K D.G bk.c (Er w.params {D with s:=z.s} bk) 7 cJ bk.ij a7 cm q aZ hx f jF R L ap al) (dW 1 27++[0]) [] λah=>.bd [29,29,29,29,31,31,31,31,31,29,31,31,31,31,31,31,29,31,31,31,31,31,31,29,31,31,33,1,1,1,1] (aY 0x100000000) 3 (.ret (.ok .next)) (d4 (dW 0 28++[29]) ([oP w.params {D with s:=z.s} {bk with eV:=ah 1,r3:=ah 1+1} (ah 3)]++((bX w.params z ⟨.ref (ah 5),f.aP,ah 6,f.aO,ah 7,f.Z,λk=>ah (k+8),aa,K⟩).map (·.2)++[I (lr (λk=>ah (k+25)) (q::aZ)) (ah 4)])))
theorem aaI:eu w (some []) 12 none ([(D.G,Lc w.params {D with s:=z.s} bk)]++bX w.params z ⟨.none,0,ar,0,au,Z,aE,aa,K⟩) [] (iE D.G) (j1 Ev (ek D.G)) (aaH w D bk z ar au Z aE aa K cJ a7 cm q aZ hx f jF R L ap al):=by revert w;exact cX
noncomputable def aaJ (n t:y) :bb w:=
  .bd [1,1] [] 1 (.ret (.ok (.ret (.ref n)))) [(0,oP w.params D bk bA),(1,di [.ref bA,.bool bk.ij])]
theorem aaK:eu w none 1 none [(D.G,oP w.params D bk bA)] [] (iE D.G) (fQ oR.1 (ek D.G)) (aaJ w D bk bA):=c6
section
variable (aZ:B (B y))(ej:V=dR T)(al:T.length<1000)(b3:∀ q∈T,hB q.2)(aU:∀ q∈T,(q.1,I (q.2.map ad) q.2.length)∈cC)(cM:T≠[])(jW:h<=3)(ap:no h T [] aZ)(nP:aZ.length<700000)(qH:aZ.flatten.length<700000)
noncomputable def aaL (n t:y) :bb w:=
  .fF (aY 0x1333300110) [4] 3 (Ro w n (n+1) (n+2) D.d2 t (t+1) bk.b9 c7 h bk.i V T cC aZ ej al b3 aU cM aF jW ap nP qH) [2,3,4,1] [true] λah=>.bd [] [] 0 (.ret (.ok (.ret (.ref (ah 2))))) (d4 [0,1,5,6] [oP w.params D bk bA,I V c7,di [.ref (ah 3),.bool ((aZ.flatten.length:ai) != 12)],I (dR (kU aZ λk=>ah (k+13))) 0])
theorem aaM:eu w none 12 none [(D.G,oP w.params D bk bA),(D.d2,I V c7)] [cC] (iE D.G) (fQ oR.2.2.1 (ek D.G)) (aaL w D bk bA c7 h aF V T cC aZ ej al b3 aU cM jW ap nP qH):=c6
end
section
variable (al:(iA T).length<1000000)(b3:∀ q∈T,q.2≠[])(aU:∀ q∈T,∃ e,(q.1,I (q.2.map ad) e)∈cC)(cM:T≠[])
noncomputable def aaN (n t:y) :bb w:=
  .fF [1,2,2,2,3] [0,0,2] 3 (RG w D.G n (n+1) (n+2) bA cR (dR T) cC T rfl al b3 aU cM) [2,1,3,4] [true] λah=>.bd (aY 0x155555511) [] 0 (.ret (.ok .next)) (d4 [0,1,3] [lk w.params D {bk with zp:=ah 1} bA (n+1),I (dR T) cR,I ((iA T).map ad) (ah 2)])
theorem aaO:eu w none 12 none [(D.G,oP w.params D bk bA),(bA,I (dR T) cR)] [cC] (iE D.G) (j1 Ew (ek D.G)) (aaN w D bk bA cR T cC al b3 aU cM):=by revert w;exact cX
end
noncomputable def aaP (n t:y) :bb w:=
  .ax [0,0,1,0] [2] 0 (yq w fn gj (some jz) R bJ eC) [1,2] λah=>.fF [0] [2] 0 (B3 w (hn R) (ah 2) m toks D.G bk.c (Es w.params D bk bA fn) 10 bM bu aU) [0] [] λaN=>.bd [] [] 0 (.ret (.ok (.ret (.ref (aN 2))))) (d4 [0,1,2,3] [lk w.params D bk bA fn,I (R.map ad) gj,ez (some (ah 3)),I (kp toks λk=>aN (k+6)) (aN 3)])
theorem aaQ:eu w (some []) 12 none [(D.G,lk w.params D bk bA fn),(fn,I (R.map ad) gj),(894,ez (some jz))] [] (iE D.G) (fQ jY.a (ek D.G)) (aaP w D bk bA fn gj jz R toks m bJ eC bM bu aU):=c6
noncomputable def aaR (n t:y) :bb w:=
  .bd [1] [] 0 (.ret (.ok (.ret (.ref fn)))) [(0,lk w.params D bk bA fn)]
theorem aaS:eu w none 1 none [(D.G,lk w.params D bk bA fn)] [] (iE D.G) (fQ jY.b (ek D.G)) (aaR w D bk bA fn):=c6
section
variable (bM:(hn R++[32,35]).length<1000000)(bu:iD m (hn R++[32,35])=some toks)(aU:m<1000)
noncomputable def aaT (n t:y) :bb w:=
  .ax [0,0,1,0] [2] 0 (yq w fn gj (some jz) R bJ eC) [1,2] λah=>.ax [] [0,2] 0 (td w (hn R) [32,35] (hn R++[32,35]) (ah 2) (ah 1) none rfl bM) [] λaN=>.fF [0] [2] 0 (B3 w (hn R++[32,35]) (aN 2) m toks D.G bk.c (Es w.params D bk bA fn) 10 bM bu aU) [0] [] λbx=>.bd [] [] 0 (.ret (.ok (.ret (.ref (bx 2))))) (d4 [0,1,2,3] [lk w.params D bk bA fn,I (R.map ad) gj,ez (some (ah 3)),I (kp toks λk=>bx (k+6)) (bx 3)])
theorem aaU:eu w (some []) 12 none [(D.G,lk w.params D bk bA fn),(fn,I (R.map ad) gj),(894,ez (some jz))] [] (iE D.G) (fQ jY.c (ek D.G)) (aaT w D bk bA fn gj jz R toks m bJ eC bM bu aU):=by revert w;exact cX
end
section
variable (al:∀ t,(R.map ad).length+[ad (3,t)].length<1000000)
noncomputable def aaV (n t:y) :bb w:=
  .ax [1,2,3,2,2] [0,2] 1 (rx w fn n gj 0 (R.map ad) [ad (3,t)] (R.map ad++[ad (3,t)]) none (al t) rfl) [1,2] λah=>.bd [] [] 0 (.ret (.ok (.ret (.ref (ah 2))))) [(0,lk w.params D bk bA fn),(1,I (R.map ad) gj),(3,I (R.map ad++[ad (3,t)]) 0)]
theorem aaW:eu w none 2 none [(D.G,lk w.params D bk bA fn),(fn,I (R.map ad) gj)] [] (iE D.G) (fQ jY.d (ek D.G)) (aaV w D bk bA fn gj R al):=by revert w;exact cX
end
end
end

section
variable {w:aG}
noncomputable def vt (h:y)(T:B dK)(Z:y->ai)(aa:y->B (y×y))(cb:y->y) :Prop:=
 ∃ ij cJ q aZ qq jF R,g5 aa 60 [] (fH 0 12)=some (ij,cJ)/\(∀ i<12,∀ p∈aa i,p.1<12)/\eI cb Z 0 12=jF::R/\iY (h:ai) aa (q::aZ) ⟨Z,eI cb Z 0 12,[],0,0,(ay 0,0)⟩ qq/\
  no h T [] ((q::aZ).map λr=>r.map (·.1))/\ij=(((q::aZ).flatten.length:ai) != 12)/\(q::aZ).flatten.length<=12/\(∀ p∈q::aZ,p≠[])/\(∀ p∈q::aZ,∀ r∈p,r.1<12)
theorem Jo (aZ:B (B (y×y))) :(aZ.map λr=>r.map (·.1)).flatten.length=aZ.flatten.length:=by
 induction aZ with
 | nil=>rfl
 | cons q r bO=>exact H (hd ..) (H (fz ..) (H (fz ..) (H (ea ..) (H (ea ..) (H bO (H (de ..) rfl))))))
theorem Pf:∀ (aZ:B (B (y×y))),(∀ p∈aZ,p≠[])->aZ.length<=aZ.flatten.length
 | [],_=>fk _
 | q::r,h=>by have az:=Pf r λp L=>h p (dG _ L);have aJ:0<q.length:=x3.mpr (h q (cY ..));refine H (ed ..) (H (fz ..) (H (ea ..) ?_));omega
theorem Wi (aZ:B (B (y×y)))(f:y->y) :iA (qK aZ f)=aZ.flatten:=by unfold iA;exact H (List.flatMap_def ..) (H (ws ..) rfl)
theorem afi {A:c9}{b:B c5}{env:cE}{n:y}(h:A.units+200 * 13<=9000)(bK:n<=100) :(A.under (.func b env)).units+n<cLine:=by have eG:=F6 (.func b env);show A.units+Code.cUnits (.func b env)+n<cLine;have:u2 (.func b env)=3:=rfl;unfold cLine;omega
structure sT (h:y)(bk:lz)(T cw:B dK) :Prop where
 aF:bk.i=(h:ai)
 bg:h<=3
 bU:∀ q∈T,hB q.2
 len:T.length<1000
 t1:T≠[]
 U8:no h T [] (cw.map λq=>q.2.map (·.1))
 ij:bk.ij=(((cw.map λq=>q.2.map (·.1)).flatten.length:ai) != 12)
 le:(iA cw).length<=12
 t2:cw≠[]
 EA:∀ q∈cw,q.2≠[]
 lt:∀ q∈cw,∀ r∈q.2,r.1<12
theorem Wj (T:B dK) :(T.map λq=>q.2.map (·.1)).flatten.length=(iA T).length:=by unfold iA;refine H (List.flatMap_def ..) (df (Jo ..) (H (mM ..) ?_));rfl
theorem CP:∀ (T:B dK),(∀ q∈T,q.2≠[])->T.length<=(iA T).length
 | [],_=>fk _
 | q::r,h=>by have az:=CP r λp L=>h p (dG _ L);have aJ:0<q.2.length:=x3.mpr (h q (cY ..));show r.length+1<=(q.2++iA r).length;refine H (ea ..) ?_;exact lB ..▸Bj aJ az
theorem Hw:∀ {S:cU},j7 S->∀ (T:B dK) (f:y->y),j7 (jM S T f)
 | _,h,[],_=>h
 | _,h,_::r,_=>Hw (BK h _ _ _) r _
theorem Ps:∀ (aZ:B (B y)) (f:y->y),((kU aZ f).map λq=>q.2.map (·.1))=aZ
 | [],_=>rfl
 | li::r,f=>by show (fa li λj=>f (j+1)).map (·.1)::((kU r λk=>f (k+4)).map λq=>q.2.map (·.1))=li::r;exact H (n9 ..) (H (Ps r ..) rfl)
theorem afN {h:gg}{T:B dK}(O:dX h (T.map g0)) :∀ q∈T,∃ e,h.get? q.1=some (I (q.2.map ad) e):=λq a4=>⟨_,O (g0 q) (ep a4)⟩
theorem afM {h:gg}{T:B dK}(O:dX h (mG T)) :∀ q∈T,∃ e,h.get? q.1=some (I (q.2.map ad) e):=λq a4=>⟨0,O (q.1,I (q.2.map ad) 0) (ep (f:=λq:dK=>(q.1,I (q.2.map ad) 0)) a4)⟩
theorem aff (W:B (y×y))(f:y->y) :kp (W.map (λp=>fK p.1)++[[35]]) f=(fa (W.map (·.1)++[3]) f).map ad:=by have h:=Az (W++[(3,0)]) f;rw [c0,c0] at h;exact h
structure vj where
 (jz c7 bA cR fn gj:y)
noncomputable def zH (P:bp)(D:gx)(bk:lz)(bo:vj)(f5:ao)(T:B dK)(z:cs)(S:cU) :B bN:=[[(D.G,Lc P {D with s:=z.s} bk)],[(D.dE,f5)],[(894,ez (some bo.jz))],[(D.d2,I (dR T) bo.c7)],bX P z S,T.map g0]
noncomputable def qS (P:bp)(D:gx)(bk:lz)(bo:vj)(f5:ao)(T cw:B dK) :B bN:=[[(D.G,oP P D bk bo.bA)],[(D.dE,f5)],[(894,ez (some bo.jz))],[(D.d2,I (dR T) bo.c7)],T.map g0,[(bo.bA,I (dR cw) bo.cR)],cw.map g0]
noncomputable def nT (P:bp)(D:gx)(bk:lz)(bo:vj)(f5:ao)(W:B (y×y)) :B bN:=[[(D.G,lk P D bk bo.bA bo.fn)],[(D.dE,f5)],[(894,ez (some bo.jz))],[(bo.fn,I (W.map ad) bo.gj)]]
noncomputable def aaw (G dE M:y)(X:hR) :gx:=⟨G,dE,X 1 0+1,X 3 2,M,X 2 1,X 3 1⟩
noncomputable def aaB (S:B (ai×y))(X:hR) :lz:=⟨X 5 2,X 6 4,X 6 5,X 8 1,0,0,0,X 6 6,tS (X 2 3) (fJ ((lv S (X 0 1)).map (·.1)) λk=>X 2 (k+7)),X 6 2,X 8 2,(11,X 4 3+11),(mE S 0).fmod 3+1,false⟩
section
variable {b s:aR}{aB:B aM}{D:gx}{bk:lz}{bo:vj}{f5:ao}{T cw:B dK}{W:B (y×y)}{A:c9}{R:cD->aR->Prop}{E:ag->aR->Prop}{h:y}
theorem aa0 {G dE M e:y}{S:B (ai×y)}{bh:aK y}(al:(S.map fZ).length<1000000)(aS:eb w (some []) 13 A none b)(o:bz b aB s [[(G,pH w.params dE M)],[(dE,I (S.map fZ) e)],[(894,ez bh)]])
  (bJ:∀ aA D bk bo a c ar au bs aw fo fD eF fO (aI f gA:y->y),D.G=G->D.dE=dE->bk.i=(mE S 0).fmod 3+1->bz b aB aA (zH w.params D bk bo (I (S.map fZ) e) (fJ (hW S c) aI) (wx D.s bs aw fo fD eF fO a f) (jM (e9 ar au f) (fJ (hW S c) aI) gA))->R (.ok .next) aA) :
  wpOwn (model aL w) A (iE G) (xw Et (ek G)) (postC aL w A R) E s:=by
 refine o.fL [0,1,2] (af:=[]) (R:=[]) ⟨rfl,by kernel_rfl,by kernel_rfl⟩ (aS.eW (by decide) λ_ h=>h) (aaG w G dE M e S al bh)
  (f:=λ_ _ _=>.next) (cv:=λn t X=>zH w.params (aaw G dE M X) (aaB S X) ⟨X 6 3,(lv S (X 0 1)).length+1,0,0,0,0⟩ (I (S.map fZ) e) (fJ (hW S (X 0 1)) λk=>X 2 (k+3)) (wx (X 3 2) (X 3 3) (X 3 4) (X 3 5) (X 3 6) (X 3 7) (X 3 8) (X 4 3) λk=>X 5 (k+3)) (jM (e9 (X 3 9) (X 3 10) λk=>X 5 (k+3)) (fJ (hW S (X 0 1)) λk=>X 2 (k+3)) λk=>X 6 (k+7))) (by intro n t X;kernel_rfl) ?_
 intro n t X aA cI;exact bJ aA _ _ _ _ _ _ _ _ _ _ _ _ _ _ _ _ rfl rfl rfl cI
theorem aa3 {z:cs}{ar au:y}{Z:y->ai}{aE:y->y}{aa:y->B (y×y)}{K:y->y}(aF:bk.i=(h:ai))(bg:h<=3)(bU:∀ q∈T,hB q.2)(hlen:T.length<1000)(e6:T≠[])(L:vt h T Z aa z.cb)(aS:eb w (some []) 13 A none b)(o:bz b aB s (zH w.params D bk bo f5 T z ⟨.none,0,ar,0,au,Z,aE,aa,K⟩))
  (bJ:∀ bi bk bo cw,sT h bk T cw->bz b aB bi (qS w.params {D with s:=z.s} bk bo f5 T cw)->R (.ok .next) bi) :
  wpOwn (model aL w) A (iE D.G) (j1 Ev (ek D.G)) (postC aL w A R) E s:=by
 refine fp λfx dk=>?_;obtain ⟨ij,cJ,q,aZ,qq,jF,pf,a7,cm,a9,ap,we,XG,iS,Kc,io⟩:=L;refine dk ?_;have nP:(q::aZ).length<999999:=iK (gh (Pf _ Kc) iS) (by decide);refine o.fL [0,4] (af:=[]) (R:=[[(D.dE,f5)],[(894,ez (some bo.jz))],[(D.d2,I (dR T) bo.c7)],T.map g0]) ⟨rfl,by kernel_rfl,by kernel_rfl⟩ (aS.eW (by decide) λ_ h=>h)
  (aaI w D {bk with ij:=ij} z ar au Z aE aa K cJ a7 cm q aZ (ay 0,0) qq jF pf a9 (aF▸ap) nP) (f:=λ_ _ _=>.next)
  (cv:=λn t X=>[[(D.G,oP w.params {D with s:=z.s} {bk with ij:=ij,eV:=X 0 1,r3:=X 0 1+1} (X 0 3))],bX w.params z ⟨.ref (X 0 5),qq.aP,X 0 6,qq.aO,X 0 7,qq.Z,λk=>X 0 (k+8),aa,K⟩,[(X 0 3,I (lr (λk=>X 0 (k+25)) (q::aZ)) (X 0 4))],lP (λk=>X 0 (k+25)) (q::aZ)]) (by intro n t X;kernel_rfl) ?_
 intro n t X bi cy;have tL:((qK (q::aZ) λk=>X 0 (k+25)).map λr=>r.2.map (·.1))=(q::aZ).map λr=>r.map (·.1):=by refine df (ws (q::aZ) λk=>X 0 (k+25) ..) (H (mM ..) (H (ws ..) ?_));rfl
 have zb:∀ r∈qK (q::aZ) λk=>X 0 (k+25),r.2∈q::aZ:=λr a9=>by refine df (ws (q::aZ) λk=>X 0 (k+25) ..) ?_;exact ep a9
 refine bJ bi {bk with ij:=ij,eV:=X 0 1,r3:=X 0 1+1} {bo with bA:=X 0 3,cR:=X 0 4} (qK (q::aZ) λk=>X 0 (k+25)) ⟨aF,bg,bU,hlen,e6,tL▸we,?_,?_,λh=>((by injection h)),λr a9=>Kc _ (zb r a9),λr a9=>io _ (zb r a9)⟩ (cy.eQ (aY 0x13276540) rfl (by refine H (Kw ..) (H (Kv ..) ?_);kernel_rfl))
 ·refine H tL (H (Jo ..) ?_)
  exact XG
 ·refine H (Wi ..) ?_
  exact iS
theorem aa4 (aS:eb w (some []) 13 A none b)(o:bz b aB s (qS w.params D bk bo f5 T cw))(bJ:∀ dp u,bz b aB dp ([(u,di [.ref bo.bA,.bool bk.ij])]::qS w.params D bk bo f5 T cw)->R (.ok (.ret (.ref u))) dp) :
  wpOwn (model aL w) A (iE D.G) (fQ oR.1 (ek D.G)) (postC aL w A R) E s:=
 o.fL [0] (af:=[]) (R:=(qS w.params D bk bo f5 T cw).tail) ⟨rfl,by kernel_rfl,by kernel_rfl⟩ (aS.eW (by decide) λ_ h=>by injection h) (aaK w D bk bo.bA) (f:=λn _ _=>.ret (.ref n)) (cv:=λn _ _=>[[(D.G,oP w.params D bk bo.bA)],[(n,di [.ref bo.bA,.bool bk.ij])]]) (by intro n t X;kernel_rfl)
  λn t X dp dz=>bJ dp n (dz.eQ (aY 0x176543201) rfl (by kernel_rfl))
noncomputable def Lf (u v g2:y)(bk:lz)(bA:y)(N:B (B y))(e1:B dK)(S:B bN) :B bN:=[(u,di [.ref bA,.bool bk.ij])]::[(v,di [.ref g2,.bool ((N.flatten.length:ai) != 12)])]::[(g2,I (dR e1) 0)]::mG e1::S
theorem aa5 {u:y}(bQ:sT h bk T cw)(aS:eb w (some []) 13 A none b)(o:bz b aB s ([(u,di [.ref bo.bA,.bool bk.ij])]::qS w.params D bk bo f5 T cw))
  (bJ:∀ dp v g2 e1,e1.map (λq=>q.2.map (·.1))=cw.map (λq=>q.2.map (·.1))->bz b aB dp (Lf u v g2 bk bo.bA (cw.map λq=>q.2.map (·.1)) e1 (qS w.params D bk bo f5 T cw))->R (.ok (.ret (.ref v))) dp) :
  wpOwn (model aL w) A (iE D.G) (fQ oR.2.2.1 (ek D.G)) (postC aL w A R) E s:=by
 have nP:(cw.map λq=>q.2.map (·.1)).length<700000:=by refine H (de ..) ?_;exact iK (gh (CP cw bQ.EA) bQ.le) (by decide)
 have nK:(cw.map λq=>q.2.map (·.1)).flatten.length<700000:=by refine H (Wj ..) ?_;exact iK bQ.le (by decide)
 have we:=bQ.U8;revert bJ nP nK we;generalize (cw.map λq=>q.2.map (·.1))=N;intro bJ nP nK we;exact o.fL [1,4,5] (af:=[T.map g0]) (R:=[[(u,di [.ref bo.bA,.bool bk.ij])],[(D.dE,f5)],[(894,ez (some bo.jz))],[(bo.bA,I (dR cw) bo.cR)],cw.map g0]) ⟨rfl,by kernel_rfl,by kernel_rfl⟩ (aS.eW (by decide) λ_ h=>by injection h)
  (aaM w D bk bo.bA bo.c7 h bQ.aF (dR T) T (T.map g0) N rfl bQ.len bQ.bU (λq a4=>ep (f:=g0) a4) bQ.t1 bQ.bg we nP nK) (f:=λ_ _ X=>.ret (.ref (X 0 2)))
  (cv:=λn t X=>[[(D.G,oP w.params D bk bo.bA)],[(D.d2,I (dR T) bo.c7)],[(X 0 2,di [.ref (X 0 3),.bool ((N.flatten.length:ai) != 12)])],[(X 0 3,I (dR (kU N λk=>X 0 (k+13))) 0)],T.map g0,mG (kU N λk=>X 0 (k+13))]) (by intro n t X;kernel_rfl)
  λn t X dp dz=>bJ dp _ (X 0 3) _ (Ps N λk=>X 0 (k+13)) (dz.eQ (aY 0x1a9418705326) rfl (by kernel_rfl))
theorem aa6 (bQ:sT h bk T cw)(aS:eb w (some []) 13 A none b)(o:bz b aB s (qS w.params D bk bo f5 T cw))(bJ:∀ dp bk bo,bz b aB dp (nT w.params D bk bo f5 (iA cw))->R (.ok .next) dp) :
  wpOwn (model aL w) A (iE D.G) (j1 Ew (ek D.G)) (postC aL w A R) E s:=
 o.fL [0,5,6] (af:=[cw.map g0]) (R:=[[(D.dE,f5)],[(894,ez (some bo.jz))],[(D.d2,I (dR T) bo.c7)],T.map g0]) ⟨rfl,by kernel_rfl,by kernel_rfl⟩ (aS.eW (by decide) λ_ h=>by injection h)
  (aaO w D bk bo.bA bo.cR cw (cw.map g0) (iK bQ.le (by decide)) bQ.EA (λq a4=>⟨q.2.length,ep (f:=g0) a4⟩) bQ.t2) (f:=λ_ _ _=>.next)
  (cv:=λn t X=>[[(D.G,lk w.params D {bk with zp:=X 0 1} bo.bA (n+1))],[(bo.bA,I (dR cw) bo.cR)],[(n+1,I ((iA cw).map ad) (X 0 2))],cw.map g0]) (by intro n t X;kernel_rfl)
  λn t X dp dz=>bJ dp {bk with zp:=X 0 1} {bo with fn:=n+1,gj:=X 0 2} (dz.eQ [0,4,5,2] rfl (by kernel_rfl))
theorem aa7 (v9:∀ p∈W,p.1<12)(al:W.length<=12)(e6:W≠[])(aS:eb w (some []) 13 A none b)(o:bz b aB s (nT w.params D bk bo f5 W))
  (bJ:∀ dp bo x e f,bz b aB dp ([(x,I ((fa (W.map (·.1)) f).map ad) e)]::nT w.params D bk bo f5 W)->R (.ok (.ret (.ref x))) dp) :
  wpOwn (model aL w) A (iE D.G) (fQ jY.a (ek D.G)) (postC aL w A R) E s:=
 o.fL [0,3,2] (af:=[]) (R:=[[(D.dE,f5)]]) ⟨rfl,by kernel_rfl,by kernel_rfl⟩ (aS.eW (by decide) λ_ h=>h)
  (aaQ w D bk bo.bA bo.fn bo.gj bo.jz W _ _ v9 (iK al (by decide)) (iK (gh (zo W) (x7 11 al)) (by decide)) (Eg W v9 e6) (iK al (by decide))) (f:=λ_ _ X=>.ret (.ref (X 1 2)))
  (cv:=λn t X=>[[(D.G,lk w.params D bk bo.bA bo.fn)],[(bo.fn,I (W.map ad) bo.gj)],[(894,ez (some (X 0 3)))],[(X 1 2,I (kp (W.map λp=>fK p.1) λk=>X 1 (k+6)) (X 1 3))]]) (by intro n t X;kernel_rfl)
  λn t X dp dz=>bJ dp {bo with jz:=X 0 3} _ (X 1 3) (λk=>X 1 (k+6)) (dz.eQ [3,0,4,2,1] rfl (by refine H (Az ..) ?_;kernel_rfl))
theorem aa8 {af:bN}(aS:eb w (some []) 13 A none b)(o:bz b aB s (af::nT w.params D bk bo f5 W))(bJ:∀ dp,bz b aB dp (af::nT w.params D bk bo f5 W)->R (.ok (.ret (.ref bo.fn))) dp) :
  wpOwn (model aL w) A (iE D.G) (fQ jY.b (ek D.G)) (postC aL w A R) E s:=
 o.fL [1] (af:=[]) (R:=af::(nT w.params D bk bo f5 W).tail) ⟨rfl,by kernel_rfl,by kernel_rfl⟩ (aS.eW (by decide) λ_ h=>by injection h) (aaS w D bk bo.bA bo.fn) (f:=λ_ _ _=>.ret (.ref bo.fn)) (cv:=λ_ _ _=>[[(D.G,lk w.params D bk bo.bA bo.fn)]]) (by intro n t X;kernel_rfl)
  λn t X dp dz=>bJ dp (dz.eQ [1,0,2,3,4] rfl (by kernel_rfl))
theorem aa1 (v9:∀ p∈W,p.1<12)(al:W.length<=12)(e6:W≠[])(aS:eb w (some []) 13 A none b)(o:bz b aB s (nT w.params D bk bo f5 W))
  (bJ:∀ dp bo x e f,bz b aB dp ([(x,I ((fa (W.map (·.1)++[3]) f).map ad) e)]::nT w.params D bk bo f5 W)->R (.ok (.ret (.ref x))) dp) :
  wpOwn (model aL w) A (iE D.G) (fQ jY.c (ek D.G)) (postC aL w A R) E s:=
 o.fL [0,3,2] (af:=[]) (R:=[[(D.dE,f5)]]) ⟨rfl,by kernel_rfl,by kernel_rfl⟩ (aS.eW (by decide) λ_ h=>h)
  (aaU w D bk bo.bA bo.fn bo.gj bo.jz W _ _ v9 (iK al (by decide)) (by refine H (ea ..) ?_;exact iK (vo (gh (zo W) (x7 11 al)) 2) (by decide)) (ZP v9 e6) (iK (Bk al 1) (by decide))) (f:=λ_ _ X=>.ret (.ref (X 2 2)))
  (cv:=λn t X=>[[(D.G,lk w.params D bk bo.bA bo.fn)],[(bo.fn,I (W.map ad) bo.gj)],[(894,ez (some (X 0 3)))],[(X 2 2,I (kp (W.map (λp=>fK p.1)++[[35]]) λk=>X 2 (k+6)) (X 2 3))]]) (by intro n t X;kernel_rfl)
  λn t X dp dz=>bJ dp {bo with jz:=X 0 3} _ (X 2 3) (λk=>X 2 (k+6)) (dz.eQ [3,0,4,2,1] rfl (by refine H (aff ..) ?_;kernel_rfl))
theorem aa2 {af:bN}(al:W.length<=12)(aS:eb w (some []) 13 A none b)(o:bz b aB s (af::nT w.params D bk bo f5 W))(bJ:∀ dp as t,bz b aB dp ([(as,I ((W++[(3,t)]).map ad) 0)]::af::nT w.params D bk bo f5 W)->R (.ok (.ret (.ref as))) dp) :
  wpOwn (model aL w) A (iE D.G) (fQ jY.d (ek D.G)) (postC aL w A R) E s:=
 o.fL [1,4] (af:=[]) (R:=[af,[(D.dE,f5)],[(894,ez (some bo.jz))]]) ⟨rfl,by kernel_rfl,by kernel_rfl⟩ (aS.eW (by decide) λ_ h=>by injection h) (aaW w D bk bo.bA bo.fn bo.gj W λt=>by refine H (de ..) ?_;exact iK (vo al 1) (by decide)) (f:=λ_ _ X=>.ret (.ref (X 0 2)))
  (cv:=λn t X=>[[(D.G,lk w.params D bk bo.bA bo.fn)],[(bo.fn,I (W.map ad) bo.gj)],[(X 0 2,I (W.map ad++[ad (3,t)]) 0)]]) (by intro n t X;kernel_rfl)
  λn t X dp dz=>bJ dp _ t (dz.eQ (aY 0x1154032) rfl (by refine H (c0 ..) ?_;kernel_rfl))
end
structure vk where
 (d2 s M ab ae:y)
 bk:lz
 bo:vj
 (T cw:B dK)
 W:B (y×y)
structure Qb where
 z:cs
 (ar au:y)
 Z:y->ai
 aE:y->y
 aa:y->B (y×y)
 K:y->y
structure jv where
 w:aG
 b:aR
 (G dE h:y)
 f5:ao
noncomputable abbrev jv.D (C:jv)(X:vk) :gx:=⟨C.G,C.dE,X.d2,X.s,X.M,X.ab,X.ae⟩
noncomputable abbrev jv.hM (C:jv)(s:aR)(S:B bN) :Prop:=bz C.b [C.G,C.dE,894] s S
structure Qk (C:jv)(X:vk)(Y:Qb) :Prop where
 aF:X.bk.i=(C.h:ai)
 bU:∀ q∈X.T,hB q.2
 len:X.T.length<1000
 t1:X.T≠[]
 nd:vt C.h X.T Y.Z Y.aa Y.z.cb
structure yf (W:B (y×y)) :Prop where
 lt:∀ p∈W,p.1<12
 len:W.length<=12
 t1:W≠[]
noncomputable def jv.af (C:jv)(X:vk) :B bN:=qS C.w.params (C.D X) X.bk X.bo C.f5 X.T X.cw
noncomputable def jv.C (C:jv)(X:vk) :B bN:=nT C.w.params (C.D X) X.bk X.bo C.f5 X.W
noncomputable def P3 (C:jv)(aA:aR) :Prop:=∃ X Y,Qk C X Y/\C.hM aA (zH C.w.params (C.D X) X.bk X.bo C.f5 X.T Y.z ⟨.none,0,Y.ar,0,Y.au,Y.Z,Y.aE,Y.aa,Y.K⟩)
noncomputable def GM (C:jv)(aA:aR) :Prop:=∃ X,sT C.h X.bk X.T X.cw/\C.hM aA (C.af X)
noncomputable def P7 (C:jv)(_:ag)(r:cD)(aA:aR) :Prop:=∃ u,r= .ok (.ret (.ref u))/\∃ X,sT C.h X.bk X.T X.cw/\C.hM aA ([(u,di [.ref X.bo.bA,.bool X.bk.ij])]::C.af X)
noncomputable def P8 (C:jv)(x:ag)(r:cD)(aA:aR) :Prop:=∃ u v,x= .ref u/\r= .ok (.ret (.ref v))/\∃ X g2 e1,sT C.h X.bk X.T X.cw/\e1.map (λq:dK=>q.2.map (·.1))=X.cw.map (λq=>q.2.map (·.1))/\C.hM aA (Lf u v g2 X.bk X.bo.bA (X.cw.map λq=>q.2.map (·.1)) e1 (C.af X))
noncomputable def GN (C:jv)(aA:aR) :Prop:=∃ X,yf X.W/\C.hM aA (C.C X)
noncomputable def P9 (C:jv)(r:cD)(aA:aR) :Prop:=∃ x,r= .ok (.ret (.ref x))/\∃ X e f,yf X.W/\C.hM aA ([(x,I ((fa (X.W.map (·.1)) f).map ad) e)]::C.C X)
noncomputable def Qa (C:jv)(x:ag)(r:cD)(aA:aR) :Prop:=∃ od X e f,x= .ref od/\r= .ok (.ret (.ref X.bo.fn))/\yf X.W/\C.hM aA ([(od,I ((fa (X.W.map (·.1)) f).map ad) e)]::C.C X)
noncomputable def P5 (C:jv)(r:cD)(aA:aR) :Prop:=∃ x,r= .ok (.ret (.ref x))/\∃ X e f,yf X.W/\C.hM aA ([(x,I ((fa (X.W.map (·.1)++[3]) f).map ad) e)]::C.C X)
noncomputable def P6 (C:jv)(x:ag)(r:cD)(aA:aR) :Prop:=∃ od as,x= .ref od/\r= .ok (.ret (.ref as))/\∃ X e f t,C.hM aA ([(as,I ((X.W++[(3,t)]).map ad) 0)]::[(od,I ((fa (X.W.map (·.1)++[3]) f).map ad) e)]::C.C X)
theorem Zx {G dE M e:y}{S:B (ai×y)}{bh:aK y}{A:c9}{s:aR}{R:cD->aR->Prop}(al:S.length<1000000)(aS:eb w (some []) 13 A none s)(has:dX s.heap [(G,pH w.params dE M),(dE,I (S.map fZ) e),(894,ez bh)])(bU:ie [G,dE,894])
  (Yg:∀ (h:y) (c a ar au:y) (aI f gA:y->y),(mE S 0).fmod 3+1=(h:ai)->0<h->h<=3->vt h (fJ (hW S c) aI) (jM (e9 ar au f) (fJ (hW S c) aI) gA).Z (jM (e9 ar au f) (fJ (hW S c) aI) gA).aa λi=>a+i)
  (bJ:∀ an c,fy s an [G,894]->an.heap.get? 894=some (ez (some c))->R (.ok (.ret (.bool true))) an) :codeAny (model aL w) A (iE G) R s:=by
 have eG:∀ (b:B c5) (env:cE),(A.under (.func b env)).units+2<cLine:=λb env=>afi (n:=2) aS.units (by decide);have Kr:∀ (b:B c5) (env:cE),(A.under (.func b env)).units<cLine:=λb env=>iK (jx _ 2) (eG b env);have wk:0<=(mE S 0).fmod 3:=P4 _ (by decide);have Kb:(mE S 0).fmod 3<3:=P2 _ (by decide);obtain ⟨h,eT,bG,bg⟩ :∃ h:y,(mE S 0).fmod 3+1=(h:ai)/\0<h/\h<=3:=⟨((mE S 0).fmod 3+1).toNat,by omega,by omega,by omega⟩;have wL:bz s [G,dE,894] s [[(G,pH w.params dE M)],[(dE,I (S.map fZ) e)],[(894,ez bh)]]:=bz.pj (pre:=[(G,pH w.params dE M),(dE,I (S.map fZ) e),(894,ez bh)]) (ik:=[]) rfl has bU;have nO:s.heap.get? dE=some (I (S.map fZ) e):=wL.get 1 rfl;generalize YA:I (S.map fZ) e=f5 at nO;obtain ⟨C,iR⟩ :∃ C:jv,C=⟨w,s,G,dE,h,f5⟩:=⟨_,rfl⟩;have eW:∀ {aA:aR} {X:vk},C.hM aA (C.C X)->R (.ok (.ret (.bool true))) aA:=λ{aA X} o=>by subst iR;exact bJ aA X.bo.jz (fy.drop (aB:=[G]) (fm:=[894]) o.eD nO (o.get 1 rfl)) (o.get 2 rfl)
 refine WB aaC aaD aaE aav (Br:=P3 C) (Bs:=GM C) (eZ:=P7 C .none) (iL:=P8 C) (k2:=GM C) (Bt:=GN C) (Bz:=P9 C) (BA:=Qa C) (By:=GN C) (Bw:=P5 C) (Bx:=P6 C) ?_ ?_ ?_ ?_ ?_ ?_ ?_ ?_ ?_ ?_ ?_ ?_ <;> subst iR
 ·refine aa0 (by refine H (de ..) ?_;exact al) aS wL ?_
  intro aA D bk bo a c ar au bs aw fo fD eF fO aI f gA a5 g3 bt o;have L:=Yg h c a ar au aI f gA eT bG bg;have Cs:=Hw (OQ ar au f) (fJ (hW S c) aI) gA;have hlen:(fJ (hW S c) aI).length<1000:=by refine H (zC ..) ?_;unfold hW;refine H (de ..) (H (ed ..) ?_);have:=zt S c;omega
  rw [YA] at o;revert o L Cs;generalize jM (e9 ar au f) (fJ (hW S c) aI) gA=cU;intro o L Cs;refine fp λfx dk=>?_;obtain ⟨dD,aP,p0,aO,afg,Z,aE,aa,K⟩:=cU;obtain ⟨Ju,agM,d2,IF,M,ab,ae⟩:=D;obtain ⟨eX,lq,uN⟩:=Cs;refine dk ?_;subst eX;subst lq;subst uN;subst a5;subst g3;exact ⟨rfl,⟨d2,IF,M,ab,ae,bk,bo,_,[],[]⟩,⟨wx IF bs aw fo fD eF fO a f,p0,afg,Z,aE,aa,K⟩,⟨bt.trans eT,Ei (hW S c) aI,hlen,λh=>((by injection h)),L⟩,o⟩
 ·rintro aA ⟨X,Y,k,o⟩
  exact aa3 k.aF bg k.bU k.len k.t1 k.nd aS o λbi bk bo cw bQ o=>⟨rfl,⟨X.d2,Y.z.s,X.M,X.ab,X.ae,bk,bo,X.T,cw,[]⟩,bQ,o⟩
 ·rintro aA ⟨X,bQ,o⟩
  exact aa4 aS o λdp u o=>⟨u,rfl,X,bQ,o⟩
 ·rintro x aA ⟨u,bu,X,bQ,o⟩
  rcases bu with _ | _;exact aa5 bQ aS o λdp v g2 e1 bK o=>⟨u,v,rfl,rfl,X,g2,e1,bQ,bK,o⟩
 ·rintro x as aA ⟨u,v,rfl,c3,X,g2,e1,bQ,bK,o⟩
  rcases c3 with _ | _;exact abo bK.symm (o.get 0 rfl) (by rw [bQ.ij];exact o.get 1 rfl) (o.n2 9 2 rfl rfl rfl (X.bo.bA,_) (cY ..) (g2,_) (cY ..)) (o.get 9 rfl) (o.get 2 rfl) (afN (o.s7 10 rfl)) (afM (o.s7 3 rfl)) (λp L q a4=>o.n2 10 3 rfl rfl rfl (g0 p) (ep L) (q.1,I (q.2.map ad) 0) (ep (f:=λq:dK=>(q.1,I (q.2.map ad) 0)) a4)) (eG _ _) ⟨rfl,X,bQ,o.eQ (dW 4 7) rfl rfl⟩
 ·rintro aA ⟨X,bQ,o⟩
  refine aa6 bQ aS o λdp bk bo o=>⟨rfl,⟨X.d2,X.s,X.M,X.ab,X.ae,bk,bo,[],[],iA X.cw⟩,⟨λp L=>?_,bQ.le,λe=>?_⟩,o⟩
  ·refine fp λfx dk=>?_
   obtain ⟨q,a4,L⟩:=List.mem_flatMap.mp L;refine dk ?_;exact bQ.lt q a4 p L
  ·have:=CP X.cw bQ.EA
   rw [show iA X.cw=[] from e] at this;exact bQ.t2 (Qg.mp (Nat.le_zero.mp this))
 ·rintro aA ⟨X,k,o⟩
  exact aa7 k.lt k.len k.t1 aS o λdp bo x e f o=>⟨x,rfl,{X with bo:=bo},e,f,k,o⟩
 ·rintro x aA ⟨od,bu,X,e,f,k,o⟩
  rcases bu with _ | _;exact aa8 aS o λdp o=>⟨od,X,e,f,rfl,rfl,k,o⟩
 ·rintro x as aA ⟨od,X,e,f,rfl,c3,k,o⟩
  rcases c3 with _ | _;exact IX (n9 _ _) (o.get 0 rfl) (o.get 4 rfl) (Kr _ _) ⟨rfl,X,k,o.eQ [1,2,3,4] rfl rfl⟩
 ·rintro aA ⟨X,k,o⟩
  exact aa1 k.lt k.len k.t1 aS o λdp bo x e f o=>⟨x,rfl,{X with bo:=bo},e,f,k,o⟩
 ·rintro x aA ⟨od,bu,X,e,f,k,o⟩
  rcases bu with _ | _;exact aa2 k.len aS o λdp as t o=>⟨od,as,rfl,rfl,X,e,f,t,o⟩
 ·rintro x as aA ⟨od,agS,rfl,c3,X,e,f,t,o⟩
  rcases c3 with _ | _;refine IX ?_ (o.get 1 rfl) (o.get 0 rfl) (Kr _ _) (eW (X:=X) (o.eQ [2,3,4,5] rfl rfl))
  refine H (n9 ..) (H (c0 ..) ?_);rfl
end
section
variable {w:aG}
theorem R5 {dE:y}{o:ao}{A:c9}{s:aR}{R:cD->aR->Prop}(aS:eb w (some []) 13 A none s)(nO:s.heap.get? dE=some o)(bU:ie [dE])
  (h:∀ aA G M,s.heap.objs.size<=G->fy s aA []->aA.heap.get? G=some (pH w.params dE M)->codeAny (model aL w) A (iE G) R aA) :codeAny (model aL w) A (.call (.ref 934) ⟨[.ref dE],[]⟩) R s:=by
 have XN:∀ n t,pF .nil 0 [(dE,o)] (λT len=>yS w [dE] len n t .nil (.call (.ref 934) ⟨[.ref dE],[]⟩) [0,2,2] 0 T 0 [] λb8 m T i aC c=>m=1/\T.get 0=some o/\T.get 1=some (pH w.params dE t)/\c=iE n/\aC=[(n,n),(n,n)])=(1=1/\some o=some o/\some (pH w.params dE t)=some (pH w.params dE t)/\iE n=iE n/\[(n,n),(n,n)]=[(n,n),(n,n)]):=by intro n t;kernel_rfl
 obtain ⟨T,cM,D⟩:=iM.DZ (l:=[(dE,o)]) (af:=[]) aS.it aS.size (λp L=>by rw [dN.mp L];exact nO) bU ((XN s.heap.objs.size s.toks).mpr ⟨rfl,rfl,rfl,rfl,rfl⟩);refine (CR (R:=R) (dr:=false) aS.depth D (λb8 m T i aC c an aV nn=>?_) cM).2.2;obtain ⟨rfl,rI,Vr,rfl,rfl⟩:=aV;refine ⟨λp L=>?_,h an s.heap.objs.size s.toks (fk _) ⟨λb abK bw _=>?_,nn.eD.size,nn.eD.os,nn.eD.gens⟩ (nn.hM 1 _ Vr).2⟩
 ·rcases dx.mp L with rfl | L
  ·rfl
  ·exact H (dN.mp L ..) rfl
 ·by_cases aQ:b=dE
  ·subst aQ
   rw [nO] at bw
   (injection bw with d8;subst d8)
   exact (nn.hM 0 _ rI).2
  ·exact nn.eD.eO b abK bw λaU=>aQ (dN.mp aU)
end
noncomputable abbrev hb:=a6×y
noncomputable def iS (x as:hb) :Prop:=f4 as.1 x.1=false
theorem wi {x as:hb} :iS x as↔x.1.cps.toList<=as.1.cps.toList:=by unfold iS f4;rw [decide_eq_false_iff_not];exact Iff.rfl
theorem Dr {x as aq:hb}(h:iS x as)(k:iS as aq) :iS x aq:=wi.mpr (List.le_trans (wi.mp h) (wi.mp k))
theorem J9 {x as:hb}(h:f4 x.1 as.1=true) :iS x as:=wi.mpr (List.le_of_lt (of_decide_eq_true h))
theorem Dq (x:hb) :iS x x:=wi.mpr (List.le_refl _)
noncomputable abbrev fi (O:B hb)(j:y) :hb:=O.getD j default
theorem l5 {O:B hb}{i j:y}{v:hb}(h:i≠j) :fi (O.set i v) j=fi O j:=by show (O.set i v).getD j default=O.getD j default;exact H (jw ..) (H (jw ..) (H (List.getElem?_set_ne h ..) rfl))
theorem rt {O:B hb}{i:y}{v:hb}(h:i<O.length) :fi (O.set i v) i=v:=by show (O.set i v).getD i default=v;refine H (jw ..) (H (List.getElem?_set_self h ..) ?_);rfl
theorem OG {O:B hb}{i j:y}{x:hb}(aF:i<O.length)(dB:j<O.length)(e6:i≠j) :((O.set i (fi O j)).set j x).Perm (O.set i x):=by
 letI:DecidableEq hb:=λa b=>Classical.propDecidable (a=b)
 rw [List.perm_iff_count];intro a;have a5:fi O j=O[j]:=by show O.getD j default=_;refine H (jw ..) (H (nr dB ..) ?_);rfl
 rw [GR (by rw [hD];exact dB),GR aF,GR aF,List.getElem_set_ne e6,a5];have az:O[i]=a->0<O.count a:=λe=>A7.mpr (e▸pa aF);by_cases a1:(O[i]==a)=true <;> by_cases a2:(O[j]==a)=true <;> by_cases rq:(x==a)=true <;> simp only [a1,a2,rq,if_true,qJ,rg] <;> (try have:=az (eq_of_beq a1)) <;> lia
noncomputable def kX (O:B hb) :Prop:=∀ j,0<j->j<O.length->iS (fi O ((j - 1) / 2)) (fi O j)
theorem ad8 (x:hb) :∀ (q:y) (O:B hb) (i:ai) (aq:hb),q<O.length->
  (∀ j,0<j->j<O.length->j≠q->(j - 1) / 2≠q->iS (fi O ((j - 1) / 2)) (fi O j))->
  (∀ c,0<c->c<O.length->(c - 1) / 2=q->iS x (fi O c)/\(0<q->iS (fi O ((q - 1) / 2)) (fi O c)))->
  kX ((gp x.1 0 O q i aq).1.set (gp x.1 0 O q i aq).2.1 x)/\((gp x.1 0 O q i aq).1.set (gp x.1 0 O q i aq).2.1 x).Perm (O.set q x):=by
 intro q
 induction q using sW with
 | _ q bO=>
 intro O i aq a4 az aJ;have bd:(0<q->iS (fi O ((q - 1) / 2)) x)->kX (O.set q x):=λbG j ja hL=>by
  rw [hD] at hL;by_cases e:j=q
  ·subst e
   refine H (rt a4 ..) (H (l5 (by lia) ..) ?_);exact bG ja
  ·refine H (l5 (ih e) ..) ?_
   by_cases bt:(j - 1) / 2=q
   ·refine H bt (H (rt a4 ..) ?_)
    exact (aJ j ja hL bt).1
   ·refine H (l5 (ih bt) ..) ?_
    exact az j ja hL e bt
 refine H (uS ..) ?_;split
 ·rename_i L
  split
  ·rename_i hs
   have zf:=J9 hs;have DB:(q - 1) / 2<O.length:=by lia
   have step:=bO ((q - 1) / 2) (by lia) (O.set q (fi O ((q - 1) / 2))) (((q:ai) - 1) / 2) (fi O ((q - 1) / 2)) (by refine H (hD ..) ?_;exact DB) ?_ ?_
   ·exact ⟨step.1,step.2.trans (OG a4 DB (by lia))⟩
   ·intro j ja hL tP qM
    rw [hD] at hL;by_cases e:j=q
    ·subst e;exact absurd rfl qM
    ·refine H (l5 (ih e) ..) ?_
     by_cases bt:(j - 1) / 2=q
     ·refine H bt (H (rt a4 ..) ?_)
      exact (aJ j ja hL bt).2 L
     ·refine H (l5 (ih bt) ..) ?_
      exact az j ja hL e bt
   ·intro c fo cl hT
    rw [hD] at cl;have lZ:0<(q - 1) / 2->iS (fi O (((q - 1) / 2 - 1) / 2)) (fi O ((q - 1) / 2)):=λh=>az _ h DB (by lia) (by lia);refine H (l5 (by lia:q≠((q - 1) / 2 - 1) / 2) ..) ?_;by_cases e:c=q
    ·subst e
     refine H (rt a4 ..) ?_;exact ⟨zf,lZ⟩
    ·refine H (l5 (ih e) ..) ?_
     have k:=az c fo cl e (by lia);rw [hT] at k;exact ⟨Dr zf k,λh=>Dr (lZ h) k⟩
  ·rename_i hs
   exact ⟨bd λ_=>Bool.eq_false_iff.mpr hs,.rfl⟩
 ·rename_i L
  exact ⟨bd λh=>absurd h L,.rfl⟩
theorem Ov {O:B hb}{q:y}(a4:q<O.length)(az:∀ j,0<j->j<O.length->j≠q->(j - 1) / 2≠q->iS (fi O ((j - 1) / 2)) (fi O j))(aJ:O.length<=2 * q+1) :kX (lu O 0 q)/\(lu O 0 q).Perm O:=by
 have k:=ad8 (fi O q) q O 0 default a4 az (λc fo cl hT=>by lia);refine ⟨k.1,k.2.trans ?_⟩;have e:fi O q=O[q]:=by show O.getD q default=_;rw [jw,nr a4];rfl
 rw [e,List.set_getElem_self]
theorem Yr {O:B hb}(h:kX O)(p:hb) :kX (nN O p)/\(nN O p).Perm (p::O):=by
 have bY:∀ j,j<O.length->fi (O++[p]) j=fi O j:=λj dB=>by show (O++[p]).getD j default=O.getD j default;exact H (jw ..) (H (jw ..) (H (GW dB ..) rfl))
 have k:=Ov (O:=O++[p]) (q:=O.length) (by refine H (ea ..) ?_;exact pd _) (λj ja hL tP qM=>by rw [ea,ig] at hL;refine H (bY _ (by lia) ..) (H (bY _ (by lia) ..) ?_);exact h j ja (by lia)) (by refine H (ea ..) (H (ig ..) ?_);lia);exact ⟨k.1,k.2.trans (x5 (l₁:=O) (l₂:=[p]))⟩
theorem ae0 (x:hb) :∀ (m:y) (O:B hb) (i:y) (r:ai),O.length - i=m->i<O.length->
  (∀ j,0<j->j<O.length->j≠i->(j - 1) / 2≠i->iS (fi O ((j - 1) / 2)) (fi O j))->
  (∀ c,0<c->c<O.length->(c - 1) / 2=i->0<i->iS (fi O ((i - 1) / 2)) (fi O c))->
  (∀ j,0<j->j<(cm O i r).1.length->j≠(cm O i r).2.1->(j - 1) / 2≠(cm O i r).2.1->iS (fi (cm O i r).1 ((j - 1) / 2)) (fi (cm O i r).1 j))/\
   (cm O i r).1.length<=2 * (cm O i r).2.1+1/\(cm O i r).2.1<(cm O i r).1.length/\((cm O i r).1.set (cm O i r).2.1 x).Perm (O.set i x):=by
 intro m
 induction m using sW with
 | _ m bO=>
 intro O i r aU aF az aJ;rw [xM];split
 ·rename_i aX
  have DH:(gZ O i=2 * i+1∨gZ O i=2 * i+2)/\gZ O i<O.length:=by
   rcases FU O i with h | h
   ·exact ⟨.inl h,by lia⟩
   ·exact ⟨.inr h.1,by lia⟩
  have X4:∀ j,0<j->j<O.length->(j - 1) / 2=i->iS (fi O (gZ O i)) (fi O j):=by
   intro j ja hL qM;have dB:j=2 * i+1∨j=2 * i+2:=by lia
   unfold gZ;split
   ·rename_i eT
    rcases dB with rfl | rfl
    ·exact eT.2
    ·exact Dq _
   ·rename_i eT
    rcases dB with rfl | rfl
    ·exact Dq _
    ·have:f4 (fi O (2 * i+1)).1 (fi O (2 * i+2)).1=true:=by
      cases e:f4 (fi O (2 * i+1)).1 (fi O (2 * i+2)).1 with
      | true=>rfl
      | false=>exact absurd ⟨hL,e⟩ eT
     exact J9 this
  have e6:i≠gZ O i:=by lia
  have step:=bO (O.length - gZ O i) (by lia) (O.set i (fi O (gZ O i))) (gZ O i) (2 * (i:ai)+1+1) (by exact H (hD ..) rfl) (by refine H (hD ..) ?_;exact DH.2) ?_ ?_
  ·exact ⟨step.1,step.2.1,step.2.2.1,step.2.2.2.trans (OG aF DH.2 e6)⟩
  ·intro j ja hL tP qM
   rw [hD] at hL;by_cases e:j=i
   ·subst e
    refine H (rt aF ..) (H (l5 (by lia) ..) ?_);exact aJ _ (by lia) DH.2 (by lia) ja
   ·refine H (l5 (ih e) ..) ?_
    by_cases bt:(j - 1) / 2=i
    ·refine H bt (H (rt aF ..) ?_)
     exact X4 j ja hL bt
    ·refine H (l5 (ih bt) ..) ?_
     exact az j ja hL e bt
  ·intro c fo cl hT _
   rw [hD] at cl;have e:(gZ O i - 1) / 2=i:=by lia
   refine H e (H (rt aF ..) (H (l5 (by lia) ..) ?_));have:=az c fo cl (by lia) (by lia);rwa [hT] at this
 ·rename_i aX
  exact ⟨az,j9.mp (λq=>aX (by show 2 * i+1<O.length;exact q)),aF,.rfl⟩
theorem Yv {r:hb}{T:B hb}(h:kX (r::T)) :kX (m6 T)/\(m6 T).Perm T:=by
 cases T with
 | nil=>exact ⟨λj _ hL=>absurd hL (x8 j),.rfl⟩
 | cons t T=>
  have al:((t::T).dropLast).length=T.length:=by rw [List.length_dropLast,ed];rfl
  have dC:∀ j,0<j->j<T.length+1->fi ((t::T).getLast (by simp)::(t::T).dropLast) j=fi (r::t::T) j:=λj ja hL=>by obtain ⟨j,rfl⟩:=Nat.exists_eq_succ_of_ne_zero (pe ja);show ((t::T).dropLast).getD j default=(t::T).getD j default;rw [jw,jw,List.getElem?_dropLast,d1 (by rw [ed];lia)]
  generalize eC:(t::T).getLast (by simp)=x at dC;show kX (sF ((t::T).getLast (by simp)::(t::T).dropLast))/\(sF ((t::T).getLast (by simp)::(t::T).dropLast)).Perm (t::T);rw [eC];have L:(x::(t::T).dropLast).Perm (t::T):=by
   have:(t::T).dropLast++[x]=t::T:=by rw [<- eC];exact Qc _
   exact (x5 (l₁:=[x]) (l₂:=(t::T).dropLast)).trans (by rw [this])
  have JQ:(x::(t::T).dropLast).length=T.length+1:=by exact H (ed ..) (H al rfl)
  generalize JP:x::(t::T).dropLast=A at dC L JQ;have bu:fi A 0=x:=by refine df JP ?_;rfl
  have k:=ae0 x _ A 0 0 rfl (by lia) (λj ja hL tP qM=>by rw [JQ] at hL;refine H (dC _ (by lia) (by lia) ..) (H (dC _ (by lia) (by lia) ..) ?_);exact h j ja (by simp only [ed];lia)) (λc _ _ _ h=>absurd h (Nat.lt_irrefl 0));unfold sF;show kX (lu ((cm A 0 0).1.set (cm A 0 0).2.1 (fi A 0)) 0 (cm A 0 0).2.1)/\(lu ((cm A 0 0).1.set (cm A 0 0).2.1 (fi A 0)) 0 (cm A 0 0).2.1).Perm (t::T);refine H bu ?_;have ae:=Ov (O:=(cm A 0 0).1.set (cm A 0 0).2.1 x) (q:=(cm A 0 0).2.1) (by refine H (hD ..) ?_;exact k.2.2.1) (λj ja hL tP qM=>by rw [hD] at hL;refine H (l5 (ih tP) ..) (H (l5 (ih qM) ..) ?_);exact k.1 j ja hL tP qM) (by refine H (hD ..) ?_;exact k.2.1);refine ⟨ae.1,ae.2.trans (k.2.2.2.trans ?_)⟩;rw [<- JP] at L ⊢;exact L
theorem XM {O:B hb}(h:kX O) :∀ j,j<O.length->iS (fi O 0) (fi O j):=by
 intro j
 induction j using sW with
 | _ j bO=>
 intro hL;by_cases ja:j=0
 ·refine H ja ?_;exact Dq _
 ·exact Dr (bO ((j - 1) / 2) (by lia) (by lia)) (h j (by lia) hL)
section
section
variable {aI:y->B (y×y)}
noncomputable def jJ (aI:y->B (y×y)) :B y->Prop
 | []=>bZ
 | x::af=>jJ aI af/\∀ p∈aI x,p.1∈af
noncomputable def ya (aI:y->B (y×y)) :Prop:=∃ C:B y,C≠[]/\(∀ c∈C,c<12)/\∀ c∈C,∃ d∈C,∃ p∈aI d,p.1=c
noncomputable def oi (aI:y->B (y×y))(cv:B y) :B (y×y)->y->Prop
 | [],_=>bZ
 | (n,q)::ac,i=>(∀ p∈(aI n).take q,p.1∈cv∨p.1=i)/\oi aI cv ac n
noncomputable def AQ (aI:y->B (y×y))(cv:B y) :B (y×y)->Prop
 | []=>bZ
 | (n,q)::ac=>(∀ p∈(aI n).take q,p.1∈cv)/\oi aI cv ac n
noncomputable def nw (aI:y->B (y×y)) :B (y×y)->y->Prop
 | [],_=>bZ
 | (n,_)::ac,i=>(∃ p∈aI n,p.1=i)/\nw aI ac n
noncomputable def Bu (aI:y->B (y×y)) :B (y×y)->Prop
 | []=>bZ
 | (n,_)::ac=>nw aI ac n
theorem oi.wG {cv fd:B y}(h:∀ x∈cv,x∈fd) :∀ {ac:B (y×y)} {i:y},oi aI cv ac i->oi aI fd ac i
 | [],_,_=>trivial
 | (n,q)::ac,i,k=>⟨λp L=>(k.1 p L).imp (h _) id,oi.wG h k.2⟩
theorem oi.done {cv:B y}{ac:B (y×y)}{i:y}(k:oi aI cv ac i)(aF:i∈cv) :AQ aI cv ac:=by
 induction ac with
 | nil=>trivial
 | cons f ac=>exact ⟨λp L=>(k.1 p L).elim id λe=>e▸aF,k.2⟩
theorem nw.tail {ac:B (y×y)}{i:y}(k:nw aI ac i) :Bu aI ac:=by
 induction ac with
 | nil=>trivial
 | cons f ac=>exact k.2
theorem nw.Ij:∀ {ac:B (y×y)} {i a:y},nw aI ac i->a∈ac.map (·.1)->∃ C:B y,a∈C/\(∃ d∈C,∃ p∈aI d,p.1=i)/\(∀ c∈C,c=a∨∃ d∈C,∃ p∈aI d,p.1=c)/\∀ c∈C,c∈ac.map (·.1)
 | [],_,_,_,h=>(c4 h).elim
 | (n,q)::ac,i,a,k,h=>by
  by_cases e:a=n
  ·subst e
   exact ⟨[a],dN.mpr rfl,⟨a,dN.mpr rfl,k.1⟩,λc aX=>.inl (dN.mp aX),λc aX=>dN.mp aX▸cY ..⟩
  ·have h:a∈ac.map (·.1):=(dx.mp h).resolve_left e
   refine fp λfx dk=>?_;obtain ⟨C,az,⟨d,ap,L⟩,bg,cS⟩:=k.2.Ij h;refine dk ?_;refine ⟨n::C,dG _ az,⟨n,cY ..,k.1⟩,λc aX=>?_,λc aX=>?_⟩
   ·rcases dx.mp aX with rfl | aX
    ·exact .inr ⟨d,dG _ ap,L⟩
    ·exact (bg c aX).imp id λ⟨d,ap,L⟩=>⟨d,dG _ ap,L⟩
   ·rcases dx.mp aX with rfl | aX
    ·exact cY ..
    ·exact dG _ (cS c aX)
theorem nw.ring {ac:B (y×y)}{i:y}(k:nw aI ac i)(h:i∈ac.map (·.1))(cq:∀ a∈ac.map (·.1),a<12) :ya aI:=by
 refine fp λfx dk=>?_;obtain ⟨C,az,aJ,bg,cS⟩:=k.Ij h;refine dk ?_;refine ⟨C,λe=>by rw [e] at az;exact ((c4 az).elim),λc aX=>cq c (cS c aX),λc aX=>?_⟩;rcases bg c aX with rfl | h
 ·exact aJ
 ·exact h
noncomputable def r5 (aI:y->B (y×y)) :B (y×y)->y
 | []=>0
 | (n,q)::ac=>((aI n).length - q)+r5 aI ac
noncomputable def hX (aI:y->B (y×y))(V:B y) :B y->y
 | []=>0
 | j::l=>(if j∈V then 0 else (aI j).length)+hX aI V l
theorem KS {V:B y}{i:y} :∀ {l:B y},i ∉ l->hX aI (V++[i]) l=hX aI V l
 | [],_=>rfl
 | j::l,h=>by
  have e:j∈V++[i]↔j∈V:=by rw [dU,dN];exact ⟨λk=>k.resolve_right λe=>h (e▸cY ..),.inl⟩
  unfold hX;rw [KS (l:=l) λk=>h (dG _ k)];by_cases k:j∈V
  ·rw [d1 k,d1 (e.mpr k)]
  ·exact H (dt k ..) (H (dt λm=>k (e.mp m) ..) rfl)
theorem Ee {V:B y}{i:y}(eN:i ∉ V) :∀ {l:B y},l.Nodup->i∈l->hX aI V l=(aI i).length+hX aI (V++[i]) l
 | [],_,h=>nomatch h
 | j::l,aw,h=>by
  obtain ⟨iV,ce⟩:=gy.mp aw;unfold hX;by_cases e:j=i
  ·subst e
   rw [KS iV,dt eN,d1 (eJ _ (dN.mpr rfl)),jd]
  ·rw [Ee eN ce ((dx.mp h).resolve_left (ih e))]
   have bt:j∈V++[i]↔j∈V:=by rw [dU,dN];exact ⟨λk=>k.resolve_right e,.inl⟩
   by_cases k:j∈V
   ·rw [d1 k,d1 (bt.mpr k),jd,jd]
   ·exact H (dt k ..) (H (dt λm=>k (bt.mp m) ..) (H (Nat.add_left_comm ..) rfl))
theorem KR (V W:B y)(h:∀ x∈V,x∈W) :∀ l:B y,hX aI W l<=hX aI V l
 | []=>fk _
 | j::l=>by
  unfold hX;refine Bj ?_ (KR V W h l);by_cases k:j∈V
  ·refine H (d1 k ..) (H (d1 (h j k) ..) ?_);exact fk _
  ·refine H (dt k ..) ?_
   split
   ·exact k1 _
   ·exact fk _
theorem N0:∀ {ac:B (y×y)} {cv:B y},AQ aI cv ac->Bu aI ac->jJ aI cv->
  (kN aI ac=none->∃ fd,jJ aI fd/\(∀ x∈cv,x∈fd)/\∀ a∈ac.map (·.1),a∈fd)/\
  (∀ p e0,kN aI ac=some (p,e0)->∃ fd,jJ aI fd/\(∀ x∈cv,x∈fd)/\(∀ a∈ac.map (·.1),a∈fd∨a∈e0.map (·.1))/\(∀ a∈e0.map (·.1),a∈ac.map (·.1))/\oi aI fd e0 p.1/\nw aI e0 p.1/\r5 aI e0<r5 aI ac)
 | [],cv,_,_,aX=>⟨λ_=>⟨cv,aX,λ_ h=>h,λ_ h=>((c4 h).elim)⟩,λ_ _ h=>((by injection h))⟩
 | (n,q)::ac,cv,c,t,aX=>by
  unfold kN
  induction e:(aI n)[q]? with
  | some p=>
   obtain ⟨a4,he⟩:=vm.mp e;refine ⟨λh=>((by injection h)),λhZ e0 h=>?_⟩
   (injection h with d8;injection d8 with d8 xT;subst d8 xT)
   refine ⟨cv,aX,λ_ h=>h,λa h=>.inr h,λa h=>h,⟨λhZ L=>?_,c.2⟩,⟨⟨p,he▸pa a4,rfl⟩,t⟩,?_⟩
   ·rw [List.take_add_one,e] at L
    rcases dU.mp L with L | L
    ·exact .inl (c.1 hZ L)
    ·have:hZ∈[p]:=L
     exact .inr (dN.mp this▸rfl)
   ·unfold r5
    exact Nat.add_lt_add_right (Nat.sub_lt_sub_left a4 (pd q)) _
  | none=>
   have al:=Qe.mp e;have XH:jJ aI (n::cv):=⟨aX,λp L=>c.1 p (by refine H (Qj al ..) ?_;exact L)⟩;have lZ:∀ x∈cv,x∈n::cv:=λx h=>dG _ h;obtain ⟨eX,lq⟩:=N0 (ac:=ac) (cv:=n::cv) ((c.2.wG lZ).done (cY ..)) (nw.tail t) XH;refine ⟨λh=>?_,λp e0 h=>?_⟩
   ·refine fp λfx dk=>?_
    obtain ⟨fd,az,aJ,bg⟩:=eX h;refine dk ?_;refine ⟨fd,az,λx bu=>aJ x (lZ x bu),λa bY=>?_⟩;rcases dx.mp bY with rfl | bY
    ·exact aJ _ (cY ..)
    ·exact bg a bY
   ·refine fp λfx dk=>?_
    obtain ⟨fd,az,aJ,bg,cS,dI,gl,m1⟩:=lq p e0 h;refine dk ?_;refine ⟨fd,az,λx bu=>aJ x (lZ x bu),λa bY=>?_,λa bY=>dG _ (cS a bY),dI,gl,on m1 (G9 _ _)⟩;rcases dx.mp bY with rfl | bY
    ·exact .inl (aJ _ (cY ..))
    ·exact bg a bY
theorem Pm (b3:∀ i<12,∀ p∈aI i,p.1<12) :∀ (n:y) (ac:B (y×y)) (V cv:B y) (i:y),r5 aI ac+hX aI V (fH 0 12)<n->i<12->(∀ a∈ac.map (·.1),a<12)->oi aI cv ac i->nw aI ac i->jJ aI cv->(∀ v∈V,v∈cv∨v∈ac.map (·.1))->
  ∃ b cJ,kr aI n ac V i=some (b,cJ)/\(b=true->ya aI)/\(b=false->∃ fd,jJ aI fd/\(∀ v∈cJ,v∈fd)/\(∀ v∈V,v∈cJ)/\i∈cJ)
 | 0,_,_,_,_,h,_,_,_,_,_,_=>absurd h (x8 _)
 | n+1,ac,V,cv,i,bK,aF,cq,c,t,aX,eN=>by
  unfold kr;by_cases h:i∈V/\i∈ac.map (·.1)
  ·rw [d1 h]
   exact ⟨true,V,rfl,λ_=>t.ring h.2 cq,λh=>(nomatch h)⟩
  rw [dt h];have ib:∀ (ol:B (y×y)) (nx:B y),AQ aI cv ol->Bu aI ol->(∀ a∈ol.map (·.1),a<12)->r5 aI ol+hX aI nx (fH 0 12)<n+1->(∀ v∈nx,v∈cv∨v∈ol.map (·.1))->(∀ v∈V,v∈nx)->i∈nx->
    ∃ b cJ,(match kN aI ol with | none=>some (false,nx) | some (p,e0)=>kr aI n e0 nx p.1)=some (b,cJ)/\(b=true->ya aI)/\(b=false->∃ fd,jJ aI fd/\(∀ v∈cJ,v∈fd)/\(∀ v∈V,v∈cJ)/\i∈cJ):=by
   intro ol nx eF ar Xr agz JY JZ kB;obtain ⟨eX,lq⟩:=N0 eF ar aX;cases e:kN aI ol with
   | none=>refine fp λfx dk=>?_;obtain ⟨fd,az,aJ,bg⟩:=eX e;refine dk ?_;exact ⟨false,nx,rfl,λh=>(nomatch h),λ_=>⟨fd,az,λv bc=>(JY v bc).elim (aJ v) (bg v),JZ,kB⟩⟩
   | some wT=>
    refine fp λfx dk=>?_;obtain ⟨p,e0⟩:=wT;obtain ⟨fd,az,aJ,bg,cS,dI,gl,m1⟩:=lq p e0 e;have v7:∀ a∈e0.map (·.1),a<12:=λa bY=>Xr a (cS a bY);have L:p.1<12:=by
     cases e0 with
     | nil=>exact absurd m1 (by
       intro m1;cases ol with
       | nil=>cases e
       | cons f ol=>
        exact absurd gl λ_=>by
         have:∀ (ac:B (y×y)) (p:y×y),kN aI ac≠some (p,[]):=by
          intro ac
          induction ac with
          | nil=>exact λp h=>nomatch h
          | cons f ac bO=>
           intro p h;obtain ⟨n,q⟩:=f;unfold kN at h;cases e:(aI n)[q]? with
           | some p=>rw [e] at h;cases h
           | none=>rw [e] at h;exact bO p h
         exact this _ _ e)
     | cons f e0=>obtain ⟨⟨hZ,fu,ev⟩,_⟩:=gl;refine df ev ?_;exact b3 f.1 (v7 _ (cY ..)) hZ fu
    obtain ⟨b,cJ,a5,bt,cd⟩:=Pm b3 n e0 nx fd p.1 (by omega) L v7 dI gl az (λv bc=>(JY v bc).elim (λh=>.inl (aJ v h)) (bg v));refine dk ?_;refine ⟨b,cJ,a5,bt,λaQ=>?_⟩;refine fp λfx dk=>?_;obtain ⟨Qq,cI,cy,dz,_⟩:=cd aQ;refine dk ?_;exact ⟨Qq,cI,cy,λv bc=>dz v (JZ v bc),dz i kB⟩
  by_cases kB:i∈V
  ·refine H (d1 kB ..) (H (d1 kB ..) ?_)
   have dA:i∈cv:=(eN i kB).resolve_right λk=>h ⟨kB,k⟩;exact ib ac V (c.done dA) t.tail cq bK eN (λ_ h=>h) kB
  ·refine H (dt kB ..) (H (dt kB ..) ?_)
   refine ib ((i,0)::ac) (V++[i]) ⟨λp L=>((c4 L).elim),c⟩ t (λa bY=>?_) ?_ (λv bc=>?_) (λv bc=>eS _ bc) (eJ _ (dN.mpr rfl))
   ·rcases dx.mp bY with rfl | bY
    ·exact aF
    ·exact cq a bY
   ·have:=Ee (aI:=aI) kB (l:=fH 0 12) (Bd ..) (Bc.mpr ⟨k1 _,by omega⟩)
    show (aI i).length - 0+r5 aI ac+_ <_;omega
   ·rcases dU.mp bc with bc | bc
    ·exact (eN v bc).imp id (dG _)
    ·exact .inr (dN.mp bc▸cY ..)
theorem CO (b3:∀ i<12,∀ p∈aI i,p.1<12){n:y}(bK:hX aI [] (fH 0 12)<n) :∀ (l V cv:B y),(∀ i∈l,i<12)->jJ aI cv->(∀ v∈V,v∈cv)->
  ∃ b cJ,g5 aI n V l=some (b,cJ)/\(b=true->ya aI)/\(b=false->∃ fd,jJ aI fd/\(∀ v∈V,v∈fd)/\∀ i∈l,i∈fd)
 | [],V,cv,_,aX,eN=>⟨false,V,rfl,λh=>((by injection h)),λ_=>⟨cv,aX,eN,λ_ h=>((c4 h).elim)⟩⟩
 | i::l,V,cv,al,aX,eN=>by
  have kg:∀ i∈l,i<12:=λj dB=>al j (dG _ dB);unfold g5;by_cases aF:i∈V
  ·refine H (d1 aF ..) ?_
   refine fp λfx dk=>?_;obtain ⟨b,cJ,a5,bt,cd⟩:=CO b3 bK l V cv kg aX eN;refine dk ?_;refine ⟨b,cJ,a5,bt,λaQ=>?_⟩;refine fp λfx dk=>?_;obtain ⟨fd,cI,cy,dz⟩:=cd aQ;refine dk ?_;refine ⟨fd,cI,cy,λj dB=>?_⟩;rcases dx.mp dB with rfl | dB
   ·exact cy _ aF
   ·exact dz j dB
  ·refine H (dt aF ..) ?_
   refine fp λfx dk=>?_;obtain ⟨b,cJ,a5,bt,cd⟩:=Pm b3 n [] V cv i (iK (gh (vp (jd _)) (KR [] V (λ_ h=>(c4 h).elim) _)) bK) (al i (cY ..)) (λ_ h=>(c4 h).elim) trivial trivial aX (λv bc=>.inl (eN v bc));refine dk ?_;refine H a5 ?_
   induction b with
   | true=>exact ⟨true,cJ,rfl,bt,λh=>((by injection h))⟩
   | false=>
    refine fp λfx dk=>?_;obtain ⟨Qp,cI,cy,dz,kH⟩:=cd rfl;obtain ⟨b,nx,jj,gA,oA⟩:=CO b3 bK l cJ Qp kg cI cy;refine dk ?_;refine ⟨b,nx,jj,gA,λaQ=>?_⟩;refine fp λfx dk=>?_;obtain ⟨fd,bD,cf,dJ⟩:=oA aQ;refine dk ?_;refine ⟨fd,bD,λv bc=>cf v (dz v bc),λj dB=>?_⟩;rcases dx.mp dB with rfl | dB
    ·exact cf _ kH
    ·exact dJ j dB
theorem jJ.sub:∀ {cv:B y},jJ aI cv->∀ x∈cv,∀ p∈aI x,p.1∈cv
 | [],_,_,h=>(c4 h).elim
 | as::af,h,x,bu=>by
  rcases dx.mp bu with rfl | bu
  ·exact λp L=>dG _ (h.2 p L)
  ·exact λp L=>dG _ (jJ.sub h.1 x bu p L)
theorem jJ.none {cc:y->Prop}(lM:∀ u,cc u->∃ d,cc d/\∃ p∈aI d,p.1=u) :∀ {cv:B y},jJ aI cv->(∀ u,cc u->u∈cv)->∀ u,¬ cc u
 | [],_,h,u,eG=>nomatch h u eG
 | x::af,aX,h,u,eG=>by
  refine jJ.none lM aX.1 (λv bc=>?_) u eG;rcases dx.mp (h v bc) with rfl | aU
  ·refine fp λfx dk=>?_
   obtain ⟨d,ap,p,L,e⟩:=lM _ bc;refine dk ?_;refine df e ?_;rcases dx.mp (h d ap) with rfl | aU
   ·exact aX.2 p L
   ·exact jJ.sub aX.1 d aU p L
  ·exact aU
end
end
noncomputable def o6 (ac:B y)(i:y) :B y->y
 | []=>0
 | h::ey=>if h=i then (ey.filter λp=>decide (p ∉ ac)).length else 0
noncomputable def eA (ac:B y)(i:y) :B (B y)->y
 | []=>0
 | l::r=>o6 ac i l+eA ac i r
noncomputable def th (p i:y) :B y->y
 | []=>0
 | h::ey=>if h=i then ey.count p else 0
noncomputable def bI (p i:y) :B (B y)->y
 | []=>0
 | l::r=>th p i l+bI p i r
theorem xS (ac:B y)(i h:y)(ey:B y) :o6 ac i (h::ey)=if h=i then (ey.filter λp=>decide (p ∉ ac)).length else 0:=rfl
theorem Ie (p i h:y)(ey:B y) :th p i (h::ey)=if h=i then ey.count p else 0:=rfl
theorem Jf {ac:B y}{p:y}(L:p ∉ ac) :∀ l:B y,(l.filter λq=>decide (q ∉ ac)).length=(l.filter λq=>decide (q ∉ ac++[p])).length+l.count p
 | []=>rfl
 | q::l=>by
  have bO:=Jf L l;rw [sS,sS,A6];by_cases e:q=p
  ·subst e
   rw [d1 (k5 L),dt (by rw [rD];exact λh=>h (eJ _ (dN.mpr rfl))),d1 (BP q),ed,bO];rfl
  ·rw [dt (show ¬ (q==p)=true from λh=>e (eq_of_beq h)),rn]
   by_cases h:q∈ac
   ·rw [dt (by rw [rD];exact λk=>k h),dt (by rw [rD];exact λk=>k (eS _ h)),bO]
   ·have aJ:q ∉ ac++[p]:=λk=>(dU.mp k).elim h λk=>e (dN.mp k)
    exact H (d1 (k5 h) ..) (H (d1 (k5 aJ) ..) (H (ed ..) (H (ed ..) (H bO (H (G8 ..) rfl)))))
theorem Gm {ac:B y}{p:y}(L:p ∉ ac)(i:y) :∀ N:B (B y),eA ac i N=eA (ac++[p]) i N+bI p i N
 | []=>rfl
 | l::r=>by
  have az:o6 ac i l=o6 (ac++[p]) i l+th p i l:=by
   cases l with
   | nil=>rfl
   | cons h ey=>
    rw [xS,xS,Ie];split
    ·exact Jf L ey
    ·rfl
  unfold eA bI;exact H az (H (Gm L i r ..) (H (Nat.add_add_add_comm ..) rfl))
theorem PE {ac:B y}{i:y} :∀ {N:B (B y)},eA ac i N≠0->∃ p,p ∉ ac/\bI p i N≠0/\∃ l∈N,p∈l
 | [],h=>absurd rfl h
 | l::r,h=>by
  by_cases e:o6 ac i l=0
  ·unfold eA at h
   rw [e,jd] at h;obtain ⟨p,az,aJ,dH,bg,cS⟩:=PE h;exact ⟨p,az,λaq=>aJ (Nat.eq_zero_of_add_eq_zero_left aq),dH,dG _ bg,cS⟩
  ·induction l with
   | nil=>exact absurd rfl e
   | cons x ey=>
    rw [xS] at e;by_cases bu:x=i
    ·rw [d1 bu] at e
     obtain ⟨p,L⟩:=List.exists_mem_of_length_pos (Qn e);obtain ⟨r9,t0⟩:=mN.mp L;refine ⟨p,of_decide_eq_true t0,λaq=>?_,_,cY ..,dG _ r9⟩;have aq:th p i (x::ey)+bI p i r=0:=aq;rw [Ie] at aq;rw [d1 bu] at aq;exact List.count_eq_zero.mp (Nat.eq_zero_of_add_eq_zero_right aq) r9
    ·rw [dt bu] at e
     exact absurd rfl e
theorem Ob {v:y×y}{i p:y} :∀ (ey:B y) (f:y->B (y×y)),(((ey.foldl (λf j=>cF f j (f j++[v])) f) p).map (·.1)).count i=((f p).map (·.1)).count i+(if v.1=i then ey.count p else 0)
 | [],f=>by show _ =_ +(if v.1=i then 0 else 0);rw [ite_self];rfl
 | j::ey,f=>by
  rw [GV,Ob ey,A6];by_cases e:p=j
  ·subst e
   rw [gB,c0,List.count_append,d1 (BP p)];show _ +List.count i [v.1]+_ =_;rw [A6,List.count_nil,jd];by_cases h:v.1=i
   ·rw [d1 h,d1 h,d1 (ru.mpr h)]
    lia
   ·rw [dt h,dt h,dt (λk=>h (ru.mp k))]
  ·exact H (jc _ _ e ..) (H (dt (λk=>e (eq_of_beq k).symm) ..) (H (rn ..) rfl))
theorem Oe {v:y×y}{p:y}{q:y×y} :∀ (ey:B y) (f:y->B (y×y)),q∈(ey.foldl (λf j=>cF f j (f j++[v])) f) p->q∈f p∨q=v
 | [],f,h=>.inl h
 | j::ey,f,h=>by
  rcases Oe ey _ h with h | h
  ·have h:q∈cF f j (f j++[v]) p:=h
   by_cases e:p=j
   ·subst e
    rw [gB] at h;exact (dU.mp h).imp id dN.mp
   ·rw [jc _ _ e] at h
    exact .inl h
  ·exact .inr h
theorem Oc {v:y×y}{l:B y}(aw:l.Nodup) :∀ (ey:B y) (f:y->B (y×y)),hX (ey.foldl (λf j=>cF f j (f j++[v])) f) [] l<=hX f [] l+ey.length
 | [],f=>fk _
 | j::ey,f=>by
  rw [GV];refine gh (Oc aw ey _) ?_;have kI:∀ l:B y,j ∉ l->hX (cF f j (f j++[v])) [] l=hX f [] l:=by
   intro l
   induction l with
   | nil=>exact λ_=>rfl
   | cons a l bO=>intro h;unfold hX;exact H (bO λk=>h (dG _ k) ..) (H (jc (j:=a) _ _ λe=>h (e▸cY ..) ..) rfl)
  have:∀ l:B y,l.Nodup->hX (cF f j (f j++[v])) [] l<=hX f [] l+1:=by
   intro l
   induction l with
   | nil=>exact λ_=>k1 _
   | cons a l bO=>
    intro aw;obtain ⟨iV,ce⟩:=gy.mp aw;by_cases e:a=j
    ·subst e
     unfold hX;refine H (kI l iV ..) (H (gB ..) (H (ea ..) ?_));refine H (dt c4 ..) (H (dt c4 ..) ?_);exact vp (by refine H (ig ..) ?_;lia)
    ·unfold hX
     refine H (jc _ _ e ..) (H (pb ..) ?_);exact Bk (bO ce) _
  refine H (ed ..) ?_;have:=this l aw;lia
theorem QH (S:cU)(h:y×y)(r:B (y×y))(ab ae i:y) :(ou S (h::r) ab ae).Z i=S.Z i+(if h.1=i then (r.length:ai) else 0):=by
 show cF (cF S.Z h.1 (S.Z h.1+((r.map (·.1)).length:y))) h.1 (cF S.Z h.1 (S.Z h.1+((r.map (·.1)).length:y)) h.1+(([] :B y).length:y)) i=_;by_cases e:h.1=i
 ·subst e
  refine H (gB ..) (H (gB ..) (H (d1 rfl ..) (H (de ..) ?_)));exact vi _
 ·refine H (jc _ _ (ih e) ..) (H (jc _ _ (ih e) ..) (H (dt e ..) ?_))
  exact (vi _).symm
noncomputable def gn (T:B dK) :B (B y):=T.map λq=>q.2.map (·.1)
structure sL (S:cU)(N:B (B y)) :Prop where
 Z:∀ i,S.Z i=(eA [] i N:ai)
 bI:∀ p i,((S.aa p).map (·.1)).count i=bI p i N
 mem:∀ p,∀ q∈S.aa p,q.1<8
 len:hX S.aa [] (fH 0 12)<=2 * N.length
theorem PD (ac:B y)(i:y) :∀ bo N:B (B y),eA ac i (bo++N)=eA ac i bo+eA ac i N
 | [],N=>(jd _).symm
 | l::bo,N=>by show o6 ac i l+eA ac i (bo++N)=o6 ac i l+eA ac i bo+eA ac i N;exact H (PD ac i bo N ..) (H (pb ..) rfl)
theorem Ig (p i:y) :∀ bo N:B (B y),bI p i (bo++N)=bI p i bo+bI p i N
 | [],N=>(jd _).symm
 | l::bo,N=>by show th p i l+bI p i (bo++N)=th p i l+bI p i bo+bI p i N;exact H (Ig p i bo N ..) (H (pb ..) rfl)
theorem Wf (l:B y) :(l.filter λp=>decide (p ∉ ([] :B y))).length=l.length:=by exact H (List.filter_eq_self.mpr λa _=>k5 c4 ..) rfl
theorem QG {S:cU}{bo:B (B y)}(c:sL S bo){R:B (y×y)}{ab ae:y}{l:B y}(al:R.map (·.1)=l)(jU:∀ k∈l,k<8)(hlen:l.length=2∨l.length=3) :sL (ou S R ab ae) (bo++[l]):=by
 cases R with
 | nil=>subst al;rcases hlen with h | h <;> cases h
 | cons h r=>
  have al:h.1::r.map (·.1)=l:=al;subst al;have a5:∀ i,eA [] i [h.1::r.map (·.1)]=if h.1=i then r.length else 0:=λi=>by show (if h.1=i then ((r.map (·.1)).filter λp=>decide (p ∉ ([] :B y))).length else 0)+0=_;exact H (rn ..) (H (Wf ..) (H (de ..) rfl))
  refine ⟨λi=>?_,λp i=>?_,λp q a4=>?_,?_⟩
  ·refine H (QH ..) (H (c.Z ..) (H (PD ..) (H (a5 ..) ?_)))
   split <;> rfl
  ·refine H (Ig ..) (df (c.bI ..) ?_)
   exact Ob (v:=(h.1,h.2)) (r.map (·.1)) S.aa
  ·rcases Oe (v:=(h.1,h.2)) (r.map (·.1)) S.aa a4 with k | k
   ·exact c.mem p q k
   ·refine H k ?_;exact jU _ (cY ..)
  ·have:=Oc (v:=(h.1,h.2)) (l:=fH 0 12) (Bd ..) (r.map (·.1)) S.aa
   have k:=c.len;refine H (ea ..) (H (ig ..) ?_);show hX ((r.map (·.1)).foldl (λf j=>cF f j (f j++[(h.1,h.2)])) S.aa) [] (fH 0 12)<=_;rw [ed] at hlen;lia
theorem Hv:∀ (T:B dK) {S:cU} {bo:B (B y)} (f:y->y),sL S bo->(∀ l∈gn T,(∀ k∈l,k<8)/\(l.length=2∨l.length=3))->sL (jM S T f) (bo++gn T)
 | [],S,bo,f,c,_=>by show sL S (bo++[]);refine H (d9 ..) ?_;exact c
 | q::T,S,bo,f,c,h=>by have bG:=h _ (cY ..);have k:=Hv T (λk=>f (k+5)) (QG (ab:=f 3) (ae:=f 4) c (R:=fa (q.2.map (·.1)) f) (n9 _ _) bG.1 bG.2) λl al=>h l (dG _ al);rw [f9] at k;exact k
noncomputable def pL:B y:=(aY 0x194b208576a31)
noncomputable def Nc:B y->bW
 | []=>true
 | i::l=>l.all (λj=>f4 (ay i) (ay j))&&Nc l
theorem Nd:∀ {l:B y},Nc l=true->l.Pairwise λi j=>f4 (ay i) (ay j)=true
 | [],_=>.nil
 | i::l,h=>by obtain ⟨az,aJ⟩:=l1.mp h;exact .cons (λj dB=>x1.mp az j dB) (Nd aJ)
theorem abY:pL.Pairwise λi j=>f4 (ay i) (ay j)=true:=Nd (by kernel_rfl)
theorem EJ:pL.Nodup:=by decide+kernel
theorem wP {i:y} :i∈pL↔i<12:=
 ⟨λh=>(by decide+kernel:∀ i∈pL,i<12) i h,λh=>(by decide+kernel:∀ i<12,i∈pL) i h⟩
theorem N9:∀ (R:B (y×y)) {O:B hb} {z:B (y×y)},kX O->O.Perm (z.map gU)->kX (iW O R)/\(iW O R).Perm ((z++R).map gU)
 | [],O,z,h,k=>⟨h,by refine H (d9 ..) ?_;exact k⟩
 | p::R,O,z,h,k=>by obtain ⟨az,aJ⟩:=Yr h (gU p);have:=N9 R az (z:=p::z) (aJ.trans (.cons _ k));exact ⟨this.1,this.2.trans ((vn (l₁:=z) (a:=p) (l₂:=R)).symm.map gU)⟩
theorem N5:∀ (k:y) {O:B hb} {z:B (y×y)} {F:B y},kX O->O.Perm (z.map gU)->(z.map (·.1)).Perm F->F.Pairwise (λi j=>f4 (ay i) (ay j)=true)->F.length<10000->
  ∃ q dv o8,nv O q dv/\q.map (·.1)=F.take k/\z.Perm (q++o8)/\kX dv/\dv.Perm (o8.map gU)
 | 0,O,z,F,az,aJ,_,_,_=>⟨[],O,z,rfl,rfl,.rfl,az,aJ⟩
 | k+1,O,z,[],az,aJ,bg,_,_=>by have ej:z=[]:=G1.mp bg.eq_nil;subst ej;exact ⟨[],O,[],rfl,rfl,.rfl,az,aJ⟩
 | k+1,[],z,i::F,az,aJ,bg,_,_=>by have ej:z=[]:=G1.mp aJ.symm.eq_nil;subst ej;exact absurd bg.length_eq (k0 (Bn _))
 | k+1,x::T,z,i::F,az,aJ,bg,cS,dI=>by
  refine fp λfx dk=>?_;obtain ⟨iV,ce⟩:=List.pairwise_cons.mp cS;obtain ⟨p,L,e⟩:=fC.mp (aJ.mem_iff.mp (cY ..));subst e;obtain ⟨hZ,fu,ev⟩:=fC.mp (bg.mem_iff.mpr (cY ..));have bu:gU hZ∈gU p::T:=aJ.mem_iff.mpr (ep fu);obtain ⟨j,dB,Vv⟩:=List.getElem_of_mem bu;have aU:=XM az j dB;have Vw:fi (gU p::T) j=gU hZ:=by show (gU p::T).getD j default=_;rw [jw,nr dB,Vv];rfl
  rw [Vw] at aU;have m4:p.1=i:=by
   rcases dx.mp (bg.mem_iff.mp (ep L)) with h | h
   ·exact h
   ·have:=iV p.1 h
    rw [<- ev] at this;have aU:f4 (ay hZ.1) (ay p.1)=false:=aU;rw [aU] at this;cases this
  obtain ⟨s,t,hs⟩:=GP L;have ej:z.Perm (p::(s++t)):=hs▸vn;have oC:T.Perm ((s++t).map gU):=(aJ.trans (ej.map gU)).cons_inv;have y1:((s++t).map (·.1)).Perm F:=by have:=(ej.map (·.1)).symm.trans bg;rw [hd,m4] at this;exact this.cons_inv
  obtain ⟨eX,lq⟩:=Yv az;have hlen:T.length<10000:=by have a:=oC.length_eq;have b:=y1.length_eq;rw [de] at a b;rw [ed] at dI;lia
  obtain ⟨q,dv,o8,ab,ae,ak,aD,a0⟩:=N5 k eX (lq.trans oC) y1 ce (by rw [ed] at dI;lia);refine dk ?_;exact ⟨p::q,dv,o8,⟨T,rfl,hlen,ab⟩,by exact H (hd ..) (H (List.take_succ_cons ..) (H ae (H m4 rfl))),ej.trans (.cons _ ak),aD,a0⟩
theorem Cc:∀ (l:B (y×y)) (Z:y->ai) (Q:B (y×y)),(Q.map (·.1)).Nodup->(∀ i∈Q.map (·.1),Z i<=0)->
  (∀ i,(fg l Z Q).1 i=Z i - ((l.map (·.1)).count i:ai))/\((fg l Z Q).2.map (·.1)).Nodup/\
   (∀ i,i∈(fg l Z Q).2.map (·.1)↔i∈Q.map (·.1)∨(0<Z i/\Z i<=((l.map (·.1)).count i:ai)))
 | [],Z,Q,aw,h=>⟨λi=>(Int.sub_zero _).symm,aw,λi=>⟨.inl,λk=>k.elim id λk=>absurd k.1 (Int.not_lt.mpr k.2)⟩⟩
 | p::l,Z,Q,aw,h=>by
  have t8:∀ i,cF Z p.1 (Z p.1 - 1) i=Z i - (if p.1=i then 1 else 0):=λi=>by
   by_cases e:p.1=i
   ·rw [d1 e,<- e,gB]
   ·exact H (dt e ..) (H (jc _ _ (ih e) ..) (H (Int.sub_zero ..) rfl))
  have yA:∀ i,(((p::l).map (·.1)).count i:ai)=((l.map (·.1)).count i:ai)+(if p.1=i then 1 else 0):=λi=>by
   refine H (hd ..) (H (A6 ..) ?_);by_cases e:p.1=i
   ·refine H (d1 e ..) (H (d1 (ru.mpr e) ..) ?_);exact Int.natCast_add _ _
   ·refine H (dt e ..) (H (dt λk=>e (ru.mp k) ..) ?_);rfl
  show (∀ i,(fg l (cF Z p.1 (Z p.1 - 1)) (if ((Z p.1 - 1)==0)=true then Q++[p] else Q)).1 i=_)/\((fg l (cF Z p.1 (Z p.1 - 1)) (if ((Z p.1 - 1)==0)=true then Q++[p] else Q)).2.map (·.1)).Nodup/\∀ i,i∈(fg l (cF Z p.1 (Z p.1 - 1)) (if ((Z p.1 - 1)==0)=true then Q++[p] else Q)).2.map (·.1)↔_;by_cases aq:Z p.1 - 1=0
  ·refine H (d1 (ru.mpr aq) ..) ?_
   have L:p.1 ∉ Q.map (·.1):=λk=>by have:=h _ k;lia
   have a5:(Q++[p]).map (·.1)=Q.map (·.1)++[p.1]:=c0;refine fp λfx dk=>?_;obtain ⟨a,b,c⟩:=Cc l (cF Z p.1 (Z p.1 - 1)) (Q++[p]) (by
    refine H a5 ?_;exact fA.mpr ⟨aw,gW,λx bu as c3 e=>L (by refine df (dN.mp c3 ..) (df e ?_);exact bu)⟩) (λi aF=>by
    rw [a5] at aF;refine H (t8 ..) ?_;rcases dU.mp aF with k | k
    ·have:=h i k;split <;> lia
    ·refine H (dN.mp k ..) (H (d1 rfl ..) ?_);lia)
   refine dk ?_;refine ⟨λi=>by refine H (a ..) (H (t8 ..) (H (yA ..) ?_));lia,b,λi=>?_⟩;rw [c,a5,dU,dN,t8,yA];constructor
   ·rintro ((k | k) | ⟨ab,ae⟩)
    ·exact .inl k
    ·refine H k (H (d1 rfl ..) ?_);exact .inr (by lia)
    ·exact .inr (by split at ab <;> split at ae <;> (try split) <;> lia)
   ·rintro (k | ⟨ab,ae⟩)
    ·exact .inl (.inl k)
    ·by_cases e:p.1=i
     ·exact .inl (.inr e.symm)
     ·rw [dt e] at ae ⊢
      exact .inr (by lia)
  ·refine H (dt λk=>aq (ru.mp k) ..) ?_
   refine fp λfx dk=>?_;obtain ⟨a,b,c⟩:=Cc l (cF Z p.1 (Z p.1 - 1)) Q aw (λi aF=>by refine H (t8 ..) ?_;have:=h i aF;split <;> lia);refine dk ?_;refine ⟨λi=>by refine H (a ..) (H (t8 ..) (H (yA ..) ?_));lia,b,λi=>?_⟩;rw [c,t8,yA];refine or_congr_right ?_;by_cases e:p.1=i
   ·subst e
    refine H (d1 rfl ..) ?_;lia
   ·refine H (dt e ..) ?_
    lia
section
theorem wH {l:B y}(aw:l.Nodup)(h:∀ i∈l,i<12) :l.length<=12:=by
 have e:l.Perm (pL.filter λi=>decide (i∈l)):=(x6 aw (EJ.sublist x2)).mpr λi=>by rw [mN,wP,rD];exact ⟨λk=>⟨h i k,k⟩,λk=>k.2⟩
 refine H (e.length_eq ..) ?_;exact Qh _ pL
theorem Pt (fT:B y)(i:y) :h0 i (fT.map λi=>(i,0))=decide (i∈fT):=by rw [Bool.eq_iff_iff,rD];unfold h0;rw [List.any_map,List.any_eq_true];exact ⟨λ⟨x,bu,e⟩=>by have e:(x==i)=true:=e;exact eq_of_beq e▸bu,λh=>⟨i,h,BP i⟩⟩
theorem afr (fT:B y)(i:y) :∀ R:B (y×y),(n8 (fT.map λi=>(i,0)) i R).length=o6 fT i (R.map (·.1))
 | []=>rfl
 | q::R=>by
  refine H (hd ..) (H (xS ..) ?_);show (bif q.1==i then jp _ R else []).length=_;have e:(λq:y×y=>!h0 q.1 (fT.map λi=>(i,0)))=(λp=>decide (p ∉ fT))∘(·.1):=funext λq=>by refine H (Pt ..) ?_;exact (decide_not ..).symm
  by_cases h:q.1=i
  ·refine H (ru.mpr h ..) (H (d1 h ..) (H (List.filter_map ..) (H (de ..) (df e ?_))))
   rfl
  ·refine H (show (q.1==i)=false from Q9.mpr h) (H (dt h ..) ?_)
   rfl
theorem Pk (fT:B y)(i:y) :∀ T:B dK,(hv (fT.map λi=>(i,0)) i T).length=eA fT i (gn T)
 | []=>rfl
 | q::r=>by show (n8 _ i q.2++hv _ i r).length=o6 fT i (q.2.map (·.1))+eA fT i (gn r);exact H (ea ..) (H (afr ..) (H (Pk fT i r ..) rfl))
noncomputable def r0 (N:B (B y))(ac:B y)(i:y) :bW:=decide (eA ac i N=0)&&decide (i ∉ ac)
theorem D1 {N:B (B y)}{ac:B y}{i:y} :r0 N ac i=true↔eA ac i N=0/\i ∉ ac:=by unfold r0;rw [Gx,rD,rD]
theorem CV (fT:B y)(T:B dK) :lb fT T=pL.filter (r0 (gn T) fT):=by
 have ib:∀ R:B (y×y),(la (fT.map λi=>(i,0)) T R).map (·.1)=(R.map (·.1)).filter (r0 (gn T) fT):=by
  intro R
  induction R with
  | nil=>rfl
  | cons n r bO=>
   show (jB _ T n++la _ T r).map (·.1)=_;refine H (c0 ..) (H bO (H (hd ..) (H (sS ..) ?_)));have e:((hv (fT.map λi=>(i,0)) n.1 T).isEmpty&&!h0 n.1 (fT.map λi=>(i,0)))=r0 (gn T) fT n.1:=by unfold r0;refine H (Pt ..) (df (Pk ..) (H (decide_not ..) ?_));congr 1;rcases (hv (fT.map λi=>(i,0)) n.1 T) with _ | _ <;> rfl
   unfold jB;refine H e ?_;rcases (r0 (gn T) fT n.1) with _ | _ <;> rfl
 exact ib _
structure sU (N:B (B y))(ac cv:B y)(Z:y->ai)(Q:B (y×y)) :Prop where
 Eb:∀ i∈ac,eA ac i N=0
 sf:∀ i∈cv,eA ac i N=0/\i ∉ ac/\i<12
 wK:∀ i∈cv,Z i=-1
 t6:∀ i,i<12->i ∉ ac->i ∉ cv->Z i=(eA ac i N:ai)
 zP:∀ i∈ac,Z i<=0
 aw:(Q.map (·.1)).Nodup
 xy:∀ i,i<12->(i∈Q.map (·.1)↔i ∉ ac/\i ∉ cv/\eA ac i N=0)
 q1:∀ i∈Q.map (·.1),i<12
section
variable {N:B (B y)}{aa:y->B (y×y)}(lN:∀ p i,((aa p).map (·.1)).count i=bI p i N)(m3:∀ p,∀ q∈aa p,q.1<8)(hlen:∀ p,p<12->(aa p).length<900)
include lN m3 hlen
theorem ID:∀ (q:B (y×y)) (ac cv fd:B y) (Z:y->ai) (Q:B (y×y)),sU N ac cv Z Q->cv.Nodup->cv.Perm (q.map (·.1)++fd)->ju aa q Z Q/\sU N (ac++q.map (·.1)) fd (gF aa q Z Q).1 (gF aa q Z Q).2
 | [],ac,cv,fd,Z,Q,m,aw,L=>by have aU:∀ i,i∈fd↔i∈cv:=λi=>L.symm.mem_iff;refine ⟨trivial,?_⟩;show sU N (ac++[]) fd Z Q;rw [d9];exact ⟨m.Eb,λi aF=>m.sf i ((aU i).mp aF),λi aF=>m.wK i ((aU i).mp aF),λi a b c=>m.t6 i a b λk=>c ((aU i).mpr k),m.zP,m.aw,λi aF=>by rw [aU];exact m.xy i aF,m.q1⟩
 | p::r,ac,cv,fd,Z,Q,m,aw,L=>by
  have L:cv.Perm (p.1::(r.map (·.1)++fd)):=L;have zX:p.1∈cv:=L.mem_iff.mpr (cY ..);refine fp λfx dk=>?_;obtain ⟨dV,fj,hN⟩:=m.sf _ zX;obtain ⟨iV,ce⟩:=gy.mp (L.nodup_iff.mp aw);have tO:∀ i,i∈cv↔i=p.1∨i∈r.map (·.1)++fd:=λi=>by rw [L.mem_iff,dx]
  have hw:∀ i,eA ac i N=eA (ac++[p.1]) i N+bI p.1 i N:=λi=>Gm fj i N;have cq:∀ i,i∈ac++[p.1]↔i∈ac∨i=p.1:=λi=>by rw [dU,dN]
  have st:∀ i∈Q.map (·.1),i ∉ ac/\i ∉ cv/\eA ac i N=0:=λi aF=>(m.xy i (m.q1 i aF)).mp aF;have t5:∀ i,i≠p.1->cF Z p.1 (-2) i=Z i:=λi h=>jc _ _ h;obtain ⟨a,b,c⟩:=Cc (aa p.1) (cF Z p.1 (-2)) Q m.aw (λi aF=>by obtain ⟨bD,cf,dJ⟩:=st i aF;rw [t5 i λe=>cf (e▸zX),m.t6 i (m.q1 i aF) bD cf,dJ];exact Int.le_refl _);have vy:∀ i,(fg (aa p.1) (cF Z p.1 (-2)) Q).1 i=cF Z p.1 (-2) i - (bI p.1 i N:ai):=λi=>by rw [a,lN]
  have ff:∀ i,i∈(fg (aa p.1) (cF Z p.1 (-2)) Q).2.map (·.1)↔i∈Q.map (·.1)∨(0<cF Z p.1 (-2) i/\cF Z p.1 (-2) i<=(bI p.1 i N:ai)):=λi=>by rw [c,lN]
  have f0:sU N (ac++[p.1]) (r.map (·.1)++fd) (fg (aa p.1) (cF Z p.1 (-2)) Q).1 (fg (aa p.1) (cF Z p.1 (-2)) Q).2:=by
   refine ⟨λi aF=>?_,λi aF=>?_,λi aF=>?_,λi g6 az aJ=>?_,λi aF=>?_,b,λi g6=>?_,λi aF=>?_⟩
   ·have:=hw i
    rcases (cq i).mp aF with h | h
    ·have:=m.Eb i h;lia
    ·rw [h] at this ⊢;lia
   ·obtain ⟨cI,cy,dz⟩:=m.sf i ((tO i).mpr (.inr aF))
    have:=hw i;exact ⟨by lia,λk=>((cq i).mp k).elim cy λe=>iV (e▸aF),dz⟩
   ·have e6:i≠p.1:=λe=>iV (e▸aF)
    have pB:=(tO i).mpr (.inr aF);have:=hw i;have:=(m.sf i pB).1;refine H (vy ..) (H (t5 i e6 ..) (H (m.wK i pB ..) ?_));lia
   ·have e6:i≠p.1:=λe=>az ((cq i).mpr (.inr e))
    have:=hw i;refine H (vy ..) (H (t5 i e6 ..) (H (m.t6 i g6 (λk=>az ((cq i).mpr (.inl k))) λk=>((tO i).mp k).elim e6 aJ ..) ?_));lia
   ·refine H (vy ..) ?_
    by_cases e:i=p.1
    ·refine H e (H (gB ..) ?_);lia
    ·have:=m.zP i (((cq i).mp aF).resolve_right e)
     refine H (t5 i e ..) ?_;lia
   ·rw [ff,cq,not_or]
    have wq:=hw i;constructor
    ·rintro (k | ⟨ab,ae⟩)
     ·obtain ⟨bD,cf,dJ⟩:=st i k
      exact ⟨⟨bD,λe=>cf (e▸zX)⟩,λh=>cf ((tO i).mpr (.inr h)),by lia⟩
     ·have e6:i≠p.1:=λe=>by rw [e,gB] at ab;lia
      rw [t5 i e6] at ab ae;have aV:i ∉ ac:=λh=>by have:=m.zP i h;lia
      have b1:i ∉ cv:=λh=>by have:=m.wK i h;lia
      have:=m.t6 i g6 aV b1;exact ⟨⟨aV,e6⟩,λh=>b1 ((tO i).mpr (.inr h)),by lia⟩
    ·rintro ⟨⟨ab,ae⟩,ak,aD⟩
     have b1:i ∉ cv:=λh=>((tO i).mp h).elim ae ak;have:=m.t6 i g6 ab b1;by_cases aq:eA ac i N=0
     ·exact .inl ((m.xy i g6).mpr ⟨ab,b1,aq⟩)
     ·exact .inr (by refine H (t5 i ae ..) ?_;lia)
   ·rcases (ff i).mp aF with k | ⟨ab,ae⟩
    ·exact m.q1 i k
    ·have:0<((aa p.1).map (·.1)).count i:=by refine H (lN ..) ?_;lia
     obtain ⟨q,a4,e⟩:=fC.mp (A7.mp this);have:=m3 p.1 q a4;lia
  obtain ⟨eX,lq⟩:=ID r (ac++[p.1]) (r.map (·.1)++fd) fd _ _ f0 ce .rfl;refine dk ?_;have dh:Q.length<=12:=by have:=wH m.aw m.q1;rwa [de] at this
  rw [f9] at lq;exact ⟨⟨hN,m.wK _ zX,λq a4=>fh (m3 _ q a4) (by decide),by have:=hlen _ hN;lia,eX⟩,lq⟩
end
theorem zU:∀ (R:B (y×y)) (Z:y->ai) (i:y),ub Z R i=if i∈R.map (·.1) then -1 else Z i
 | [],Z,i=>(dt c4).symm
 | p::R,Z,i=>by
  show ub (cF Z p.1 (-1)) R i=_;rw [zU R,hd];by_cases h:i∈R.map (·.1)
  ·rw [d1 h,d1 (dG _ h)]
  ·rw [dt h]
   by_cases e:i=p.1
   ·rw [e,gB,d1 (cY ..)]
   ·exact H (jc _ _ e ..) (H (dt λk=>(dx.mp k).elim e h ..) rfl)
end
section
structure rj (N:B (B y))(ac:B y)(d:hA)(gw:B (y×y)) :Prop where
 heap:kX d.O
 L:d.O.Perm (gw.map gU)
 qT:sU N ac (gw.map (·.1)) d.Z d.R
 rY:(gw.map (·.1)).Nodup
 aP:d.aP - d.aO=(gw.length:ai)
 D9:ac.Nodup
 D7:∀ i∈ac,i<12
theorem rj.kI {N:B (B y)}{ac:B y}{d:hA}{gw:B (y×y)}(v:rj N ac d gw) :((gw++d.R).map (·.1)).Nodup/\(∀ i,i∈(gw++d.R).map (·.1)↔i<12/\i ∉ ac/\eA ac i N=0)/\sU N ac ((gw++d.R).map (·.1)) (ub d.Z d.R) []:=by
 have m:=v.qT;have e:(gw++d.R).map (·.1)=gw.map (·.1)++d.R.map (·.1):=c0;have st:∀ i∈d.R.map (·.1),i ∉ ac/\i ∉ gw.map (·.1)/\eA ac i N=0:=λi aF=>(m.xy i (m.q1 i aF)).mp aF;have aU:∀ i,i∈(gw++d.R).map (·.1)↔i<12/\i ∉ ac/\eA ac i N=0:=λi=>by
  rw [e,dU];constructor
  ·rintro (h | h)
   ·exact ⟨(m.sf i h).2.2,(m.sf i h).2.1,(m.sf i h).1⟩
   ·exact ⟨m.q1 i h,(st i h).1,(st i h).2.2⟩
  ·rintro ⟨az,aJ,bg⟩
   by_cases h:i∈gw.map (·.1)
   ·exact .inl h
   ·exact .inr ((m.xy i az).mpr ⟨aJ,h,bg⟩)
 have b1:∀ i,i∈gw.map (·.1)∨i∈d.R.map (·.1)↔i∈(gw++d.R).map (·.1):=λi=>by rw [e,dU]
 refine ⟨?_,aU,⟨m.Eb,λi aF=>?_,λi aF=>?_,λi az aJ bg=>?_,λi aF=>?_,.nil,λi g6=>?_,λi aF=>nomatch aF⟩⟩
 ·rw [e]
  exact fA.mpr ⟨v.rY,m.aw,λx bu as c3 aq=>(st as c3).2.1 (aq▸bu)⟩
 ·refine fp λfx dk=>?_
  obtain ⟨az,aJ,bg⟩:=(aU i).mp aF;refine dk ?_;exact ⟨bg,aJ,az⟩
 ·rw [zU]
  by_cases h:i∈d.R.map (·.1)
  ·exact H (d1 h ..) rfl
  ·refine H (dt h ..) ?_
   exact m.wK i (((b1 i).mpr aF).resolve_right h)
 ·refine H (zU ..) (H (dt λh=>bg ((b1 i).mp (.inr h)) ..) ?_)
  exact m.t6 i az aJ λh=>bg ((b1 i).mp (.inl h))
 ·refine H (zU ..) (H (dt λh=>(st i h).1 aF ..) ?_)
  exact m.zP i aF
 ·exact ⟨λh=>((c4 h).elim),λ⟨az,aJ,bg⟩=>absurd ((aU i).mpr ⟨g6,az,bg⟩) aJ⟩
noncomputable def BF (N:B (B y))(C:B y) :Prop:=∀ c∈C,∃ e∈C,bI e c N≠0
section
variable {T:B dK}{aa:y->B (y×y)}{h:y}(lN:∀ p i,((aa p).map (·.1)).count i=bI p i (gn T))(m3:∀ p,∀ q∈aa p,q.1<8)(hlen:∀ p,p<12->(aa p).length<900)(bG:0<h)(bg:h<=3)
include lN m3 hlen bG bg
theorem Pe {ac:B y}{d:hA}{gw:B (y×y)}(v:rj (gn T) ac d gw)(dP:lb ac T≠[]) :∃ q dv AZ,(∀ aZ f,iY (h:ai) aa aZ (d.next aa q dv) f->iY (h:ai) aa (q::aZ) d f)/\
  q.map (·.1)=(lb ac T).take h/\q≠[]/\rj (gn T) (ac++q.map (·.1)) (d.next aa q dv) AZ/\∀ i∈q.map (·.1),i<12/\i ∉ ac/\eA ac i (gn T)=0:=by
 refine fp λfx dk=>?_;obtain ⟨aw,aU,qT⟩:=v.kI;refine dk ?_;have y5:=CV ac T;generalize lb ac T=F at y5 dP;have JS:∀ i,i∈F↔i<12/\i ∉ ac/\eA ac i (gn T)=0:=λi=>by rw [y5,mN,wP,D1];exact and_congr_right λ_=>and_comm
 have Xp:F.Pairwise λi j=>f4 (ay i) (ay j)=true:=y5▸abY.filter _;have JT:F.Nodup:=y5▸EJ.sublist x2;have nI:F.length<=12:=wH JT λi aF=>((JS i).mp aF).1;have Kh:((gw++d.R).map (·.1)).Perm F:=(x6 aw JT).mpr λi=>by rw [aU,JS]
 refine fp λfx dk=>?_;obtain ⟨dV,fj⟩:=N9 d.R v.heap v.L;obtain ⟨q,dv,o8,ab,ae,ak,aD,a0⟩:=N5 h dV fj Kh Xp (by lia);have DG:((gw++d.R).map (·.1)).Perm (q.map (·.1)++o8.map (·.1)):=by have:=ak.map (·.1);rwa [c0 (l₁:=q)] at this
 obtain ⟨i3,iP⟩:=ID lN m3 hlen q ac _ (o8.map (·.1)) _ _ qT aw DG;have a4:∀ i∈q.map (·.1),i<12/\i ∉ ac/\eA ac i (gn T)=0:=λi aF=>(aU i).mp (DG.mem_iff.mpr (eS _ aF));have abl:=DG.nodup_iff.mp aw;obtain ⟨nU,abj,_⟩:=fA.mp abl;refine dk ?_;have KK:(gw.length+d.R.length)=F.length:=by have:=Kh.length_eq;rwa [de,ea] at this
 have En:q.length=min h F.length:=by have:=fV rk ae;rwa [de,G0] at this
 have Zq:d.O.length=gw.length:=by rw [v.L.length_eq,de]
 have Zr:(iW d.O d.R).length=F.length:=by exact H (Af ..) (H Zq (H KK rfl))
 have agD:gw.length+d.R.length=q.length+o8.length:=by have:=ak.length_eq;rwa [ea,ea] at this
 have agL:0<F.length:=x3.mpr dP;have Ki:=v.aP;refine ⟨q,dv,o8,λaZ f ap=>⟨λx bu=>v.qT.q1 _ (ep bu),by lia,?_,by lia,?_,by lia,i3,dv,ab,ap⟩,ae,λe=>by rw [e] at En;have:0=min h F.length:=En;lia,⟨aD,a0,iP,abj,?_,?_,?_⟩,a4⟩
 ·induction bJ:d.R with
  | nil=>rw [bJ,nt] at KK;exact .inl (by lia)
  | cons x R=>exact .inr λe=>(by injection e)
 ·refine H Zr (H En ?_)
  split <;> lia
 ·show d.aP+((d.R.map ad).length:ai) - (d.aO+(q.length:ai))=_
  refine H (de ..) ?_;lia
 ·exact fA.mpr ⟨v.D9,nU,λx bu as c3 e=>(a4 as c3).2.1 (e▸bu)⟩
 ·intro i aF
  exact (dU.mp aF).elim (v.D7 i) λk=>(a4 i k).1
omit lN m3 hlen bG bg in
theorem Ot {ac:B y}{d:hA}{gw:B (y×y)}(v:rj (gn T) ac d gw)(dP:lb ac T=[]) :∃ aZ f,iY (h:ai) aa aZ d f/\no h T ac (aZ.map λr=>r.map (·.1))/\(∀ p∈aZ,p≠[])/\(∀ p∈aZ,∀ r∈p,r.1<12)/\∃ bo,bo=ac++aZ.flatten.map (·.1)/\bo.Nodup/\(∀ i∈bo,i<12)/\
   (∀ i,i<12->i ∉ bo->eA bo i (gn T)≠0)/\∀ C,BF (gn T) C->(∀ c∈C,c ∉ ac)->∀ c∈C,c ∉ bo:=by
 refine fp λfx dk=>?_;obtain ⟨aw,aU,qT⟩:=v.kI;have zc:∀ i,i<12->i ∉ ac->eA ac i (gn T)≠0:=λi az aJ bg=>by
  have:i∈lb ac T:=by rw [CV,mN,wP,D1];exact ⟨az,bg,aJ⟩
  rw [dP] at this;exact (c4 this).elim
 have e:gw++d.R=[]:=by
  induction al:gw++d.R with
  | nil=>rfl
  | cons p l=>
   have L:p.1∈(gw++d.R).map (·.1):=by refine H al ?_;exact cY ..
   obtain ⟨az,aJ,bg⟩:=(aU _).mp L;exact absurd bg (zc _ az aJ)
 obtain ⟨a5,bt⟩:=vl.mp e;refine dk ?_;have Ki:=v.aP;rw [a5,nt] at Ki;exact ⟨[],d,⟨rfl,bt,by lia⟩,dP,λp L=>((c4 L).elim),λp L=>((c4 L).elim),ac,(d9 ac).symm,v.D9,v.D7,zc,λC _ cq=>cq⟩
theorem adQ:∀ (m:y) (ac:B y) (d:hA) (gw:B (y×y)),rj (gn T) ac d gw->12 - ac.length<=m->
  ∃ aZ f,iY (h:ai) aa aZ d f/\no h T ac (aZ.map λr=>r.map (·.1))/\(∀ p∈aZ,p≠[])/\(∀ p∈aZ,∀ r∈p,r.1<12)/\∃ bo,bo=ac++aZ.flatten.map (·.1)/\bo.Nodup/\(∀ i∈bo,i<12)/\
   (∀ i,i<12->i ∉ bo->eA bo i (gn T)≠0)/\∀ C,BF (gn T) C->(∀ c∈C,c ∉ ac)->∀ c∈C,c ∉ bo:=by
 intro m
 induction m with
 | zero=>
  intro ac d gw v aU;by_cases dP:lb ac T=[]
  ·exact (Ot v dP)
  ·refine fp λfx dk=>?_
   obtain ⟨q,dv,AZ,eX,lq,uN,Ah,Fx⟩:=Pe lN m3 hlen bG bg v dP;refine dk ?_;have:=wH Ah.D9 Ah.D7;have:=x3.mpr uN;rw [ea,de] at *;lia
 | succ m bO=>
  intro ac d gw v aU;by_cases dP:lb ac T=[]
  ·exact (Ot v dP)
  ·refine fp λfx dk=>?_
   obtain ⟨q,dv,AZ,eX,lq,uN,Ah,Fx⟩:=Pe lN m3 hlen bG bg v dP;have a4:=x3.mpr uN;obtain ⟨aZ,f,aA,bi,dp,sy,bo,FG,xG,xH,FH,FI⟩:=bO _ _ _ Ah (by rw [ea,de];lia);refine dk ?_;refine ⟨q::aZ,f,eX aZ f aA,⟨dP,lq,bi⟩,λp L=>?_,λp L=>?_,bo,?_,xG,xH,FH,λC iR cq=>FI C iR λc aX k=>?_⟩
   ·rcases dx.mp L with rfl | L
    ·exact uN
    ·exact dp p L
   ·rcases dx.mp L with rfl | L
    ·exact λr a9=>(Fx _ (ep a9)).1
    ·exact sy p L
   ·exact H FG (H (fz ..) (H (c0 ..) (H (f9 ..) rfl)))
   ·rcases dU.mp k with k | k
    ·exact cq c aX k
    ·refine fp λfx dk=>?_
     obtain ⟨e,he,e6⟩:=iR c aX;refine dk ?_;have:=Gm (cq e he) c (gn T);rw [(Fx c k).2.2] at this;lia
end
end
noncomputable def He:Prop:=∀ (S:B (ai×y)) (h:y) (c a ar au:y) (aI f gA:y->y),0<h->h<=3->vt h (fJ (hW S c) aI) (jM (e9 ar au f) (fJ (hW S c) aI) gA).Z (jM (e9 ar au f) (fJ (hW S c) aI) gA).aa λi=>a+i
theorem ae9 {w:aG}{h:gg}(e:F1.map h.get?=(n3 w.params).map λp=>some p.2) :re h (n3 w.params):=by
 have dC:F1=(n3 w.params).map (·.1):=by unfold n3;kernel_rfl
 rw [dC,mM] at e;have:∀ {l:B (y×ao)},(l.map (h.get?∘(·.1))=l.map λp=>some p.2)->re h l:=by
  intro l
  induction l with
  | nil=>exact λ_=>trivial
  | cons p l bO=>intro e;obtain ⟨a5,bt⟩:=A5 e;exact ⟨a5,bO bt⟩
 exact this e
noncomputable def afC (P:bp)(h:gg)(v:ag) :WData->Prop
 | .int i=>∃ t,v= .int i t
 | .list ca=>∃ dE vs,v= .ref dE/\h.get? dE=some {cls:=.type "list",data:=.seq (List.toArray vs)}/\WellAll P h vs ca
 | _=>bZ
theorem Pq {P:bp}{h:gg}{v:ag}{d:WData}(hw:Well P h v d) :afC P h v d:=by rcases hw with _ | _ <;> first | exact trivial | exact ⟨_,rfl⟩ | exact ⟨_,_,rfl,‹_›,‹_›⟩
theorem YU {R:WRecords}{P:bp}{h:gg}{ca:B WData} :∀ {vs:B ag},WShape.hasItems R ca .int=true->WellAll P h vs ca->∃ S:B (ai×y),vs=S.map fZ/\S.length=ca.length:=by
 induction ca with
 | nil=>exact λ_ hw=>by rcases hw with _ | _;exact ⟨[],rfl,rfl⟩
 | cons x ca bO=>
  intro vs eT hw;have bu:=hasItemsW_at eT x (cY ..);unfold WShape.hasItems at eT;cases hw with
  | cons az aJ=>obtain ⟨i,rfl⟩:=hasW_int bu;obtain ⟨S,rfl,al⟩:=bO (l1.mp eT).2 aJ;obtain ⟨t,rfl⟩:=Pq az;exact ⟨(i,t)::S,rfl,fV (· +1) al⟩
theorem HC {h:gg}{p:y×ao} :∀ {l:B (y×ao)},re h l->p∈l->h.get? p.1=some p.2
 | [],_,L=>(c4 L).elim
 | q::l,O,L=>by
  rcases dx.mp L with rfl | L
  ·exact O.1
  ·exact HC O.2 L
theorem acd {ca:B WData}(h:oZ.row.toRowW.pre.holds oZ.row.toRowW.records {args:=[.list ca]}=true) :ca.length<=63:=by
 have e:oZ.row.toRowW.pre= .and (.not (.lt (.lit (.int 63)) (.len (.arg 0)))) (.lit (.bool true)):=by kernel_rfl
 have bt:oZ.row.toRowW.records=[]:=by kernel_rfl
 rw [e,bt] at h;have h:=(holds_andW h).1;rw [holdsW_of_value (X:=!decide ((63:ai)<ca.length)) rfl] at h;have h:=of_decide_eq_false ((rh _).mp h);omega
theorem WU {w:aG}{h:gg}(O:re h (n3 w.params)) :h.get? 894=some (ez none):=by
 have e:(n3 w.params)[83]? =some (894,ez none):=by unfold n3;kernel_rfl
 exact HC O (x4 e)
noncomputable def SA:Data->cp f8
 | .dict aC _=>aC
 | _=>#[]
theorem Zt {w:aG}{h:gg}{mg:a6->aK ag}{a:y}(b3:h.Ns Ex mg)(bg:h.get? 3=some (dz w.params))(e:mg tk.name=some (.ref a)) :a=934:=by
 obtain ⟨o,aC,K,az,aJ,_,cS⟩:=b3;have az:h.get? 3=some o:=az;rw [bg] at az
 (injection az with d8;subst d8)
 have dI:(dz w.params).data= .dict aC K:=aJ;have gl:=cS tk.name;rw [e] at gl;have m1:nsFind (SA (dz w.params).data) tk.name=some (.ref 934):=by kernel_rfl
 rw [dI] at m1;rw [show nsFind aC tk.name=_ from m1] at gl;rcases gl with _ | _;rfl
theorem Sr {w:aG}{h:gg}(it:KT.Holds h 1 0 (fr w.params)) :isCodeTable h 894:=by
 have e:(fr w.params).get 898=some (nV w.params):=by kernel_rfl
 exact ⟨898,nV w.params,v0 (nV w.params),nS it e,by kernel_rfl,by kernel_rfl,by kernel_rfl⟩
theorem abN {eo bi an:aR}{G c:y}{w:aG}(it:KT.Holds eo.heap 1 0 (fr w.params))(y3:eo.heap.get? 894=some (ez none))(jm:eo.heap.objs.size<=G)(ab:fy eo bi [])(ae:fy bi an [G,894])(aX:an.heap.get? 894=some (ez (some c))) :OldK eo.heap an.heap:=by
 have eO:∀ b o,eo.heap.get? b=some o->b≠894->an.heap.get? b=some o:=λb o e aQ=>ae.eO b o (ab.eO b o e c4) λaU=>by
  rcases dx.mp aU with h | h
  ·exact absurd (hC e) (j9.mpr (h▸jm))
  ·exact aQ (dN.mp h)
 refine ⟨λb o e=>?_,λb o e=>?_⟩
 ·by_cases aQ:b=894
  ·subst aQ
   rw [y3] at e
   (injection e with d8;subst d8)
   refine .inr (.inl ⟨Sr it,rfl,#[],v0 (ez (some c)),rfl,?_⟩);refine H aX (H (Array.empty_append ..) ?_);rfl
  ·exact .inl (eO b o e aQ)
 ·by_cases aQ:b=894
  ·exact ⟨_,aQ▸aX⟩
  ·exact ⟨o,eO b o e aQ⟩
theorem Zw {w:aG}{n:y}{eo:aR}{c:a6->aK aM}{args:B WData}{AC:B ag}{aB:B aM}(dY:In n eo.heap.objs.size aB)(Dy:oZ.row.claim.pre args=true)(mi:ReadsAllW oZ.row.records c eo.heap AC args aB)(DP:WellAll w.params eo.heap AC args) :
  ∃ dE S,AC=[.ref dE]/\rk S<=63/\eo.heap.get? dE=some {cls:=.type "list",data:=.seq (S.map fZ).toArray}/\n<=dE:=by
 obtain ⟨Yz,Yn⟩:=pre_splitW Dy;obtain ⟨d,r,rfl,Yy,YB⟩:=hasAllW_cons Yz;obtain rfl:=hasAllW_nil YB;obtain ⟨ca,rfl,oG⟩:=hasW_list Yy;cases DP with
 | cons kU afW=>
  rcases afW with _ | _;obtain ⟨dE,vs,rfl,nO,afX⟩:=Pq kU;obtain ⟨S,rfl,dT⟩:=YU oG afX;cases mi with
  | cons eX lq=>
   obtain ⟨l,_,age,e,_,_,XA⟩:=readsW_list_inv eX
   (injection e with d8;subst d8)
   exact ⟨dE,S,rfl,dT▸acd Yn,nO,(dY.2.2 dE (eS _ (by refine H XA ?_;exact cY ..))).1⟩
theorem afv (plain:He) :Hr:=by
 intro w ha eo mg agI bk Y a o iG yx doc Im KH b1 ap hV hI X3 b3 args AC aB z Dy agt mi DP agw;obtain ⟨QA,yh⟩:=je Y;obtain ⟨yh,agc⟩:=je yh;have Gt:=ae9 (w:=w) QA;have F0:KT.Holds eo.heap 1 0 (fr w.params):=n4 (Zn Gt) λa o _ e=>z.keeps a o e;have y3:=z.keeps _ _ (WU Gt);have bY:a=934:=Zt (w:=w) bk.T.g (nS F0 (by kernel_rfl)) X3;subst bY;obtain ⟨dE,S,rfl,dT,nO,Yx⟩:=Zw (w:=w) z.within Dy mi DP;have dY:=z.within;have nA:935<=dE:=by refine df yh ?_;exact Yx
 have aS:eb w (some []) 13 callerA none eo:=⟨by decide+kernel,by decide+kernel,rfl,F0,by refine df yh ?_;exact dY.1,λl e=>by (injection e with d8;subst d8);rfl⟩;refine enter_call (R5 aS nO ⟨gW,λb aQ=>by refine H (dN.mp aQ ..) ?_;exact .inl nA⟩ ?_);intro bi G M jm aV XR;have XF:=aS.moves aV λb aQ=>(c4 aQ).elim;have Jw:935<=G:=gh aS.size jm;refine Zx (S:=S) (dE:=dE) (G:=G) (M:=M) (e:=0) (bh:=none) (by omega) XF (wb XR (wb (aV.eO _ _ nO c4) (XB (aV.eO _ _ y3 c4)))) ⟨?_,?_⟩ (λh c a ar au aI f gA _ bG bg=>plain S h c a ar au aI f gA bG bg) ?_
 ·have io:=hC nO
  refine gy.mpr ⟨λaU=>?_,gy.mpr ⟨λaU=>?_,gW⟩⟩
  ·rcases dx.mp aU with h | h
   ·exact absurd io (j9.mpr (h▸jm))
   ·exact absurd (dN.mp h▸Jw) (by decide)
  ·exact absurd (dN.mp aU▸nA) (by decide)
 ·intro b aQ
  rcases dx.mp aQ with rfl | aQ
  ·exact .inl Jw
  ·rcases dx.mp aQ with rfl | aQ
   ·exact .inl nA
   ·exact .inr (dN.mp aQ)
 ·intro an c wh aX
  refine ⟨.inl ⟨.bool true,.bool true,[],rfl,λ_=>rfl,.bool true,by kernel_rfl,λ_=>⟨mO,λ_ h=>(c4 h).elim⟩⟩,abN F0 y3 jm aV wh aX,wh.os.trans aV.os,?_⟩;obtain ⟨eP,a5,jj⟩:=aV.gens;obtain ⟨g8,bt,gA⟩:=wh.gens;refine H bt (H a5 (H b3 ?_));intro as c3;rw [Array.mem_append,Array.mem_append] at c3;rcases c3 with (c3 | c3) | c3
  ·simp at c3
  ·refine H (jj as (by simpa using c3) ..) ?_;rfl
  ·refine H (gA as (by simpa using c3) ..) ?_;rfl
theorem Pv {ac:B y} :∀ {N:B (B y)},(∀ l∈N,∀ k∈l,k<8)->eA ac 8 N=0
 | [],_=>rfl
 | l::N,h=>by
  show o6 ac 8 l+eA ac 8 N=0;rw [Pv λl al=>h l (dG _ al)];cases l with
  | nil=>rfl
  | cons x ey=>exact H (xS ..) (H (dt λe=>by have:=h _ (cY ..) x (cY ..);omega ..) rfl)
theorem Ls:∀ (l:B ai) (aI:y->y),gn (fJ l aI)=l.map gu
 | [],_=>rfl
 | x::r,aI=>by show (fa (gu x) λj=>aI (j+1)).map (·.1)::gn (fJ r λk=>aI (k+4))=gu x::r.map gu;exact H (n9 ..) (H (Ls r ..) rfl)
theorem Zv (x:ai) :(gu x).length=2∨(gu x).length=3:=by
 unfold gu;rcases ((x.fdiv 64).fmod 2==1) with _ | _
 ·exact .inl rfl
 ·exact .inr rfl
theorem ab6 {T:B dK}{Z:y->ai}{aa:y->B (y×y)}{cb:y->y}{h:y}(jU:∀ l∈gn T,∀ k∈l,k<8)(rR:T.length<=9)(eU:∀ i,Z i=(eA [] i (gn T) :ai))(lN:∀ p i,((aa p).map (·.1)).count i=bI p i (gn T))(m3:∀ p,∀ q∈aa p,q.1<8)(agu:hX aa [] (fH 0 12)<=2 * (gn T).length)(bG:0<h)(bg:h<=3) :vt h T Z aa cb:=by
 have eC:hX aa [] (fH 0 12)<60:=by have:(gn T).length=T.length:=de _;omega
 have a9:∀ i,i<12->i∈fH 0 12:=λi aF=>Bc.mpr ⟨k1 _,by omega⟩;have hlen:∀ p,p<12->(aa p).length<900:=λp L=>by have:=Ee (aI:=aa) (V:=[]) (i:=p) c4 (l:=fH 0 12) (Bd ..) (a9 p L);omega
 have b3:∀ i<12,∀ p∈aa i,p.1<12:=λi _ p L=>fh (m3 i p L) (by decide);obtain ⟨b,cJ,a5,bt,cd⟩:=CO b3 eC (fH 0 12) [] [] (λi aF=>by have:=(Bc.mp aF).2;omega) trivial (λ_ h=>nomatch h);have bJ:(eI cb Z 0 12).map (·.1)=(fH 0 12).filter λi=>Z i==0:=by unfold eI;rw [mM];exact List.map_id' _
 have JV:∀ i,i<12->(i∈(eI cb Z 0 12).map (·.1)↔eA [] i (gn T)=0):=λi aF=>by rw [bJ,mN,ru,eU];exact ⟨λk=>by have:=k.2;omega,λk=>⟨a9 i aF,by omega⟩⟩
 have Pj:eA [] 8 (gn T)=0:=Pv jU;obtain ⟨jF,R,X9⟩ :∃ jF R,eI cb Z 0 12=jF::R:=by
  cases aX:eI cb Z 0 12 with
  | nil=>have:=(JV 8 (by decide)).mpr Pj;rw [aX] at this;exact nomatch this
  | cons jF R=>exact ⟨jF,R,rfl⟩
 have YV:rj (gn T) [] ⟨Z,eI cb Z 0 12,[],0,0,(ay 0,0)⟩ []:=by
  refine ⟨λj _ hL=>absurd hL (x8 j),.nil,⟨λ_ h=>(nomatch h),λ_ h=>(nomatch h),λ_ h=>(nomatch h),λi _ _ _=>eU i,λ_ h=>(nomatch h),?_,λi aF=>?_,λi aF=>?_⟩,.nil,rfl,.nil,λ_ h=>(nomatch h)⟩
  ·rw [bJ]
   exact (Bd ..).sublist x2
  ·rw [JV i aF]
   exact ⟨λk=>⟨c4,c4,k⟩,λk=>k.2.2⟩
  ·rw [bJ] at aF
   have:=(Bc.mp (mN.mp aF).1).2;omega
 obtain ⟨aZ,qq,aA,bi,dp,sy,bo,FG,xG,xH,FH,FI⟩:=adQ lN m3 hlen bG bg 12 [] _ [] YV (fk _);have JU:bo.length=aZ.flatten.length:=by exact H FG (H (List.nil_append ..) (H (de ..) rfl))
 induction aZ with
 | nil=>
  have bi:lb [] T=[]:=bi;have:8∈lb [] T:=by rw [CV,mN,wP,D1];exact ⟨by decide,Pj,c4⟩
  rw [bi] at this;exact (c4 this).elim
 | cons q aZ=>
  have Xu:=wH xG xH;refine ⟨b,cJ,q,aZ,qq,jF,R,a5,b3,X9,aA,bi,?_,JU▸Xu,dp,sy⟩;have aQ:b=true↔bo.length≠12:=by
   constructor
   ·intro aQ e
    obtain ⟨C,fD,eF,fO⟩:=bt aQ;have U:BF (gn T) C:=λc aX=>by obtain ⟨d,ap,p,L,K⟩:=fO c aX;refine ⟨d,ap,?_⟩;refine df (lN ..) (df (K ..) ?_);exact pe (A7.mpr (ep L))
    obtain ⟨c,aX⟩:=List.exists_mem_of_ne_nil _ fD;have XI:=FI C U (λ_ _=>c4) c aX;have:=wH (l:=c::bo) (gy.mpr ⟨XI,xG⟩) λi aF=>(dx.mp aF).elim (λaq=>aq▸eF c aX) (xH i);rw [ed] at this;omega
   ·intro e6
    induction b with
    | true=>rfl
    | false=>
     exfalso;obtain ⟨cv,cI,_,dz⟩:=cd rfl;have none:=jJ.none (cc:=λu=>u<12/\u ∉ bo) (λu eG=>by obtain ⟨p,az,aJ,l,cS,dI⟩:=PE (FH u eG.1 eG.2);refine ⟨p,⟨fh (jU l cS p dI) (by decide),az⟩,?_⟩;rw [<- lN] at aJ;obtain ⟨x,bu,bH⟩:=fC.mp (A7.mp (Qn aJ));exact ⟨x,bu,bH⟩) cI λu eG=>dz u (a9 u eG.1);have L:bo.Perm pL:=(x6 xG EJ).mpr λi=>by rw [wP];exact ⟨xH i,λaF=>Classical.byContradiction λk=>none i ⟨aF,k⟩⟩
     exact e6 L.length_eq
  rw [Bool.eq_iff_iff,aQ,bne_iff_ne,JU];omega
theorem ab5:He:=by
 intro S h c a ar au aI f gA bG bg;have bK:=Ls (hW S c) aI;have aV:(fJ (hW S c) aI).length<=9:=by refine H (zC ..) ?_;unfold hW;refine H (de ..) (H (ed ..) ?_);exact zt S c
 have cM:∀ l∈gn (fJ (hW S c) aI),(∀ k∈l,k<8)/\(l.length=2∨l.length=3):=by refine H bK ?_;intro l al;obtain ⟨x,_,rfl⟩:=fC.mp al;exact ⟨KM,Zv x⟩
 have fo:sL (e9 ar au f) []:=⟨λ_=>rfl,λ_ _=>rfl,λ_ _ h=>((c4 h).elim),fk 0⟩;have bv:=Hv (fJ (hW S c) aI) gA fo cM;exact ab6 (λl al=>(cM l al).1) aV bv.Z bv.bI bv.mem bv.len bG bg
theorem law_holds:oZ.Holds:=X7 (afv ab5)
end
end Mine
theorem PySem.Challenge.cw_op0289_01_holds : PySem.Challenge.rw_op0289_01.Holds :=
  Mine.law_holds
