import PyProof.Rows.All
import Wide.All
import OpenK.AllK
import Wide.FinOn
import Lean
import PySem.Challenge.RW_uc0011_02
set_option autoImplicit false
set_option maxRecDepth 100000
set_option Elab.async false
set_option linter.all false
set_option bootstrap.genMatcherCode false
open Option.some renaming inj → Aa, injEq → Mf
open PySem renaming Shared → Ab, wpAny_bind → Ac, model → Af, wpAny_pure → Ak, wpAny → Al, Around → Am, Heap → Ap, builtinLookup_eq_fast → A1, wpAny_execs_cons → Bd, typeLookup_type → Bi, sizeLine_eq → Bo, wpAny_Name → Bq, wpAny_mono → Bu, Pos → B0, starEach → B1, wpAny_of_eq → B5, compEnvC → B8, codeAny → Ca, wpAny_newObj_type → Cb, sliceBounds → Ck, wpAny_standAt → Cm, World → Co, typeLookup → Cq, plainObj_wpAny_Assign_Attribute → C0, attributeBase → C6, NameKind → Dd, wpAny_assign_Name → Dl, seg_execs_nil → Dq, wpAny_Constant_str → Dt, seg_bind_wrap → Dv, Env → Dy, mem_of_lookup → D3, wpAny_specialOf → D4, Result → D6, wpAny_holding → Ea, foldedSetIterable → Ef, wpAny_loadPart_at → Eh, wpAny_execs_nil → Ek, seg_execs_cons → E0, letOwnedTupleGo → E4, theTreesLotGoes → E5, subscripted → E8, codeAny_mono → E9, wpAny_newFunctionEnv → Fb, bindArgs → Fc, wpAny_comprehension_free → Fd, relabel → Fg, wpAny_list_append_plain → Fi, wpAny_call_entry → Fj, isSubtype_type → Fn, entryFor_of_tree → Fp, wpAny_Constant_int → Fv, notedBy → Fy, seqIndex? → F6, wpAny_isTrue_Compare1 → F7, wpAny_truthy_bool → F8, wpAny_Return_some → Ga, wpAny_call → Gd, lookup_relabel_local → Gf, newFunctionEnv → Gg, strIterType → Gh, execs → Gi, cellsFrom → Gq, sliceRange → Gz, pyNext → G0, wpAny_rule → G3, wpAny_callSpecial?_slot → G7, GenState → Hb, codeAny_compStart_list → Hg, wpAny_Assign_Name → Hk, rawInt → Hl, wpAny_allTrue_Or_cons → Ho, typeIs_str → Ht, pyIter → Hu, noteFrame → Hv, swapsWith → Hx, Operator → Ia, wpAny_typeLookup_exc → Ic, list_getitem_lookup → Io, wpAny_isTrue_BoolOp → Ip, evalArgs_none → Ir, getItem → Iw, Call_method1 → Iy, call_meets → I1, firstArgMember → I5, operate → Jd, wpAny_field → Ji, behindInMarks → Jl, wpAny_attempt → Jq, methodCallPos → Jr, Tok → Js, inplaceOp → Jy, entryFor → J0, IsPart → J4, backTo → J5, assign → Kc, getAttr → Kd, defaultsOf → Ke, Sem → Ks, binaryOp → Kv, slicePicked → Kw, wpAny_noted → Ky, compareOp → Lb, standAt → Lc, eval_ListComp → Ll, wpAny_onRaise → Lm, Builtin → Ln, isTrue → Lp, closureFor → Lx, wpAny_load → L0, frameCount → L4, numAt → L8, compTurn → L9, newList → Ma, Flow → Mb, wpAny_If → Mc, Seg → Mj, argsOk → Mm, Model → Mo
open Nat renaming le_trans → Ad, lt_succ_self → Bk, mod_lt → Bn, ne_of_lt → Br, le_refl → Bv, add_le_add_right → By, le_of_not_lt → Ci, le_of_lt → Cj, zero_add → Cp, le_of_eq → Cr, le_of_succ_le → Cy, zero_le → C2, add_assoc → C5, le_add_right → C8, add_le_add_left → Dg, min_eq_left → Dr, lt_of_le_of_lt → Ds, succ_le_succ → Du, mul_le_mul_left → D2, lt_of_lt_of_le → D7, mul_le_mul_right → Ee, le_add_left → Ei, add_comm → Em, not_lt → Ew, le_succ → Ft, le_of_succ_le_succ → Fx, not_lt_zero → F2, sub_pos_of_lt → Gb, lt_of_not_le → Gr, ble → Gw, add_sub_cancel_left → G6, succ_pos → Ha, lt_of_succ_lt_succ → Hc, ne_of_gt → Hi, lt_succ_of_le → Hm, add_le_add → Hn, sub_le → Hr, not_lt_of_le → Hs, add_min_add_left → Ii, le_antisymm → Ij, min_le_left → Il, add_right_comm → I3, lt_succ_of_lt → Jf, le_succ_of_le → Jg, le_of_lt_succ → Jj, lt_irrefl → Jk, succ_ne_zero → Jz, min_le_right → J1, le_of_ble_eq_true → Kj, sub_eq_zero_of_le → Kp, add_min_add_right → Kr, not_succ_le_zero → K9, add_add_add_comm → La, sub_self → Mg, min_self → Mh
open List renaming mem_singleton → Ae, length_append → Ah, mem_cons_of_mem → Ai, mem_cons_self → Aj, length_map → An, all_eq_true → Ao, not_mem_nil → Aq, mem_append_right → Ar, range → Au, getElem?_eq_getElem → Aw, mem_append_left → Ax, mem_cons → Ay, replicate → A0, size_toArray → A3, getD_eq_getElem?_getD → A4, drop_eq_getElem_cons → A5, lookup_cons → A7, map_map → A9, mem_append → Bb, getElem?_eq_some_iff → Bc, append_assoc → Bf, mem_singleton_self → Bg, getElem?_map → Bj, getElem?_set_ne → Bl, length_drop → Bw, append_nil → Bx, contains_eq_mem → Bz, length → B3, getElem?_append_left → B6, mem_range → B7, cons_append → B9, length_cons → Cg, nodup_cons → Cs, length_set → Ct, length_take → Cu, map_congr_left → Cv, flatten_append → Cw, getElem?_append_right → C3, mem_of_getElem? → C4, filterMap_cons → Dh, replicate_succ → Di, length_reverse → Dj, getElem?_toArray → Dn, map_cons → Dp, drop_zero → Dz, getElem?_set_self → D0, flatMap_cons → D1, map_append → D5, map_take → Eb, eq_nil_of_length_eq_zero → Ec, drop_eq_nil_iff → Ed, toArray → En, map_drop → Ep, nodup_nil → Eu, length_replicate → E3, mem_flatMap → Fq, lookup → Fs, take_of_length_le → Fw, mem_map → F1, foldl_cons → F3, length_nil → F4, nil_append → F5, length_range → F9, range' → Ge, mem_of_mem_take → Gm, filter_cons → Gn, length_flatten → Gs, eq_of_mem_replicate → Gv, forIn_cons → Gx, sum_append → Gy, zip_cons_cons → G1, countP_append → G5, countP_cons_of_neg → G9, all_map → Hd, nodup_append → Hf, contains_iff_mem → Hq, drop_length → Hw, eq_nil_iff_forall_not_mem → Hz, range_eq_range' → Ib, mem_of_mem_drop → Ih, of_mem_zip → Ik, map_eq_nil_iff → It, setIfInBounds_toArray → I4, drop_drop → I6, push_toArray → Jh, idxOf_lt_length_iff → Jm, take_length → Jt, flatMap_def → J2, countP_cons_of_pos → J3, length_eq_one_iff → J6, not_of_lt_findIdx → J8, drop_eq_nil_of_le → Kf, mem_filter → Kh, length_filter_le → Kq, forall_mem_cons → Kz, dropLast_concat → K5, length_take_le' → K7, take_zero → K8, take_succ_cons → Lh, length_flatMap → Li, all_cons → Lj, sum_cons → Lo, set_set → Mi
open PySem.Heap renaming get?_push_of_some → Ag, get?_push_size → Av, lt_size → Bm, ExtBut → Cd, size_push → Ez, get?_update_self → Km, get?_update_ne → Lg
open Option renaming bind_some → As, map_eq_some_iff → Bp, isSome_iff_exists → Fe, bind_eq_some_iff → Fh, map → H6, none → Jc, map_some → Ki
open Bool renaming and_eq_true → Az, and_eq_true_iff → Ba, false_ne_true → Bt, not_eq_true' → Dm, false_eq_true → D8, or_eq_true → Ej, or_eq_false_iff → E7, false_and → Gj, true_and → H9, and_true → Lk
open PySem.Calls renaming Name_function_global → A6, spliced_cons → A8, spliced_nil → B4, loadGlobal_builtin → C1, callWith_builtin → Dc, loadGlobal_global → Dk, evalArgs_plain → E1, docDef → F0
open PySem.Env renaming kindOf → Be
open Prod.mk renaming inj → Bh
open ForInStep renaming yield → B2
open PySem.NameKind renaming free → Ce, cell → C7, noConfusion → Ie
open PySem.Str renaming length → Cf
open PyProof.Rows renaming callWith_type1 → Cn, Call_Name → Er, assignInOrder_cons → Ey, Attribute_name → Gl, join_list → He, IntsAre → H7, subscriptTail → H8, methDefD → Ig, assignInOrder_nil → Je, callWith_def → J9, iadd_int → Kl, Subscript_ → Ls, AllBare → L5
open PySem.Builtin.Str renaming strSliceIndices → Cz, tooLong → Ld
open PySem.W renaming kms_lo → C9, kms_hi → Fu, tabObj → G4, CodeHd → Mn
open Classical renaming byContradiction → De, choose_spec → Ko
open Int renaming le_trans → Dx, lt_of_le_of_lt → Es, natCast_nonneg → Et, ofNat_le → E6, toNat_of_nonneg → Im, le_of_lt → Iv, sub_nonneg_of_le → Kx, not_lt → Lr, lt_trans → Md
open List.cons renaming inj → D9
open PySem.F renaming plainAttrs_list → Eg, slot_list_pop → E2, type_list_pop → Hp, args_list_index_2 → Jb, entry_list_index → Jn, slot_list_append → Jo, type_list_append → Jp, slot_list_index → Ju, plainAttrs_str → Jv, entry_list_pop → Kb, mro_object → Me
open PySem.Heap.SameBut renaming update → El
open PySem.Sre renaming forSearch → Eo, Frame → I0
open PySem.Builtin.Int renaming intBits → Ff
open Eq renaming symm → Fz
open Array renaming getElem?_eq_some_iff → Gk, length_toList → Iq, append_assoc → Lq
open PySem.IsL renaming update → Gp
open PySem.Value.ref renaming inj → Gu
open PySem.ScopeKind renaming function → G2
open PySem.Within renaming cons → G8, of_none → Ja
open Ne renaming symm → Hj
open PySem.Value renaming ref → Hy, none → H0
open Nat.succ renaming inj → Iu
open PySem.Builtin.Range renaming rangeFitsLong → Iz, rangeSize → Jx, small → Le
open PySem.Builtin.ObjectAttr renaming ownDict → I9
open And renaming intro → Jw
open PyProof renaming noPylong_small → J7
open PySem.SeqRoads2.EqGives renaming str → Kk
open Lean renaming Syntax → Kt, mkAtom → Ku
open Nat.le renaming dest → K6
open PySem.Heap.IsSliceOf renaming new → Lu
open PySem.SeqAt renaming list_indexAt → Lv, EqAt → Mq
open PySem.Obj renaming mapSeq → Ly
open PySem.Expr.Constant renaming elim → Lz
open PySem.EqBoolInt renaming of_rcne → L6
open PySem.StrLaws renaming found_one → L7
open PySem.Stmt.Assign renaming elim → Ml
open PySem.Expr.Slice renaming elim → Mp
open PUnit renaming unit → Mr
namespace Internal
open PySem PySem.W PySem.Calls PyProof.Rows
set_option genSizeOf false
inductive PV where
 |none
 |bool (b:Bool)
 |int (i:Int)
 |str (s:List Nat)
 |list (l:List PV)
 |obj (v:Value)
 deriving Inhabited
noncomputable def PV.ba:PV->Bool
 | .list _=>false
 |_=>true
mutual
inductive VR(h:Ap):PV->Value->List Addr->Prop
 |none:VR h .none .none []
 |bool (b:Bool):VR h (.bool b) (.bool b) []
 |int (i:Int) (t:Js):VR h (.int i) (.int i t) []
 |str (x:List Nat) (t:Js):VR h (.str x) (.str ⟨x.toArray⟩ t) []
 |obj (v:Value):VR h (.obj v) v []
 |list {a:Addr} {ps:List PV} {vs:List Value} {ns:List Addr}:h.PlainList a vs.toArray->ao h ps vs ns->VR h (.list ps) (.ref a) (a::ns)
inductive ao(h:Ap):List PV->List Value->List Addr->Prop
 |nil:ao h [] [] []
 |cons {p:PV} {v:Value} {n:List Addr} {ps:List PV} {vs:List Value} {ns:List Addr}:VR h p v n->ao h ps vs ns->ao h (p::ps) (v::vs) (n++ns)
end
noncomputable abbrev Sub(h h':Ap):Prop:=∀b o,h.get? b=some o->h'.get? b=some o
theorem nn{α:Type}{a:α}{G:Prop}(h:none=some a):G:=nomatch h
theorem sn{α:Type}{a:α}{G:Prop}(h:some a=none):G:=nomatch h
theorem ft{G:Prop}(h:false=true):G:=nomatch h
theorem Vv{α:Type}{l:List α}(h:l.length=0):l=[]:=List.length_eq_zero_iff.mp h
theorem AN{α:Type}{l:List α}{n:Nat}(h:l.length=n+1):∃a r,l=a::r/\r.length=n:=by
 cases l with
 |nil=>cases h
 |cons a r=>exact⟨a,r,rfl,Iu h⟩
theorem tJ{α:Type}{l:List α}(h:l.length=1):∃a,l=[a]:=let⟨a,_,e,h⟩:=AN h;⟨a,Vv h▸e⟩
theorem FX{α:Type}{l:List α}(h:l.length=2):∃a b,l=[a,b]:=let⟨a,_,e,h⟩:=AN h;(tJ h).elim fun b q=>⟨a,b,q▸e⟩
theorem ON{α:Type}{l:List α}(h:l.length=3):∃a b c,l=[a,b,c]:=let⟨a,_,e,h⟩:=AN h;(FX h).elim fun b q=>q.elim fun c q=>⟨a,b,c,q▸e⟩
@[elab_as_elim] theorem u0 {M:Nat->Prop} {n j:Nat} (h:j<n+1) (k:M n) (d:j<n->M j):M j:=(Nat.lt_succ_iff_lt_or_eq.mp h).elim d fun e=>e▸k
theorem ltZ{j:Nat}{P:Prop}(h:j<0):P:=(F2 _ h).elim
@[elab_as_elim] theorem Vw {M:Nat->Prop} {j:Nat} (h:j<3) (a:M 0) (b:M 1) (c:M 2):M j:=u0 h c fun h=>u0 h b fun h=>u0 h a ltZ
@[elab_as_elim] theorem Vx {M:Nat->Prop} {j:Nat} (h:j<4) (a:M 0) (b:M 1) (c:M 2) (d:M 3):M j:=u0 h d fun h=>Vw h a b c
@[reducible] def tq (x:Kt):Kt:= .node .none (`Lean.Parser.Tactic.tacticSeq) #[.node .none (`Lean.Parser.Tactic.tacticSeq1Indented) #[Lean.mkNullNode #[x]]]
@[reducible] def tA:Kt:=tq (.node .none (`Lean.Parser.Tactic.withReducible) #[Ku "with_reducible",tq (.node .none (`Lean.Parser.Tactic.assumption) #[Ku "assumption"])])
@[reducible] def tR:Kt:=tq (.node .none (`Lean.Parser.Tactic.withUnfoldingAll) #[Ku "with_unfolding_all",tq (.node .none (`Lean.Parser.Tactic.tacticRfl) #[Ku "rfl"])])
theorem zB{a b c:Nat}(h:autoParam (a<=b) tA)(k:autoParam (Gw b c=true) tR):a<=c:=Ad h (Kj k)
theorem zC{a b c:Nat}(h:autoParam (a<b) tA)(k:autoParam (Gw b c=true) tR):a<=c:=zB (Cj h) k
theorem zH{a b c:Nat}(h:autoParam (a=b) tA)(k:autoParam (c<b) tA):c<a:=h▸k
theorem zJ{a b c:Nat}(h:autoParam (a=b) tA)(k:autoParam (b<=c) tA):a<=c:=h▸k
theorem zL{a b c k:Nat}(h:autoParam (a<=b) tA)(q:autoParam (Gw b c=true) tR):a-k<=c:=Ad (Hr _ _) (zB h q)
theorem zR{a b c d:Nat}(h:autoParam (a+b<=c) tA)(q:autoParam (Gw c d=true) tR):a<=d:=zB (Ad (C8 _ _) h) q
theorem zW{a b c:Nat}(h:autoParam (a+b<c) tA):a<c:=Ds (C8 _ _) h
theorem zY{a b c d:Nat}(h:autoParam (a+(b+c)<=d) tA):a+c+b<=d:=by rw[C5,Em c];exact h
theorem yA{n c:Nat}{K:Int}(h:autoParam (n<=c) tA)(k:autoParam (decide ((c:Int)<K)=true) tR):(n:Int)<K:=Es (E6.mpr h) (of_decide_eq_true k)
theorem yC{n:Nat}{K:Int}(k:autoParam (decide (K<=0)=true) tR):K<=(n:Int):=Dx (of_decide_eq_true k) (Et n)
theorem yD{n c:Nat}{K:Int}(h:autoParam (n<=c) tA)(k:autoParam (decide ((c:Int)<=K)=true) tR):(n:Int)<=K:=Dx (E6.mpr h) (of_decide_eq_true k)
theorem yE{a b c:Int}(h:autoParam (a<=b) tA)(k:autoParam (decide (b<=c)=true) tR):a<=c:=Dx h (of_decide_eq_true k)
theorem yF{a b c:Int}(h:autoParam (a<b) tA)(k:autoParam (decide (b<=c)=true) tR):a<c:=Int.lt_of_lt_of_le h (of_decide_eq_true k)
theorem yG{a b c:Int}(h:autoParam (a<=b) tA)(k:autoParam (decide (b<c)=true) tR):a<c:=Es h (of_decide_eq_true k)
theorem yH{a b c:Int}(h:autoParam (b<=a) tA)(k:autoParam (decide (c<=b)=true) tR):c<=a:=Dx (of_decide_eq_true k) h
theorem yJ{n c:Nat}{K:Int}(h:autoParam (n<=c) tA)(k:autoParam (decide ((c:Int)<K)=true) tR):¬K<=(n:Int):=Int.not_le.mpr (yA h k)
theorem yK{a c L K:Int}(h:autoParam (L<=a/\a<c) tA)(k:autoParam (decide (c<=K)=true) tR):a<K:=yF h.2 k
theorem yR{a b c:Nat}(h:autoParam (a<=b) tA)(k:autoParam (Gw b c=true) tR):¬c<a:=Hs (zB h k)
theorem yS{a b c:Nat}(h:autoParam (a<b) tA)(k:autoParam (b<=c) tA):a<=c:=Cj (D7 h k)
theorem yV{a b c:Nat}(h:autoParam (b=a) tA)(k:autoParam (c<b) tA):c<a:=h▸k
theorem xA{a b c d:Nat}(h:autoParam (a+(b+c)<d) tA):a+c+b<d:=by rw[C5,Em c];exact h
theorem xB{a b c:Nat}(h:autoParam (a+b<=c) tA):b+a<=c:=Em a b▸h
theorem xE{a b c k:Nat}(h:autoParam (a=b) tA)(q:autoParam (b<=c) tA)(r:autoParam (Gw c k=true) tR):a<=k:=zB (h▸q) r
theorem xF{m n:Nat}(h:autoParam (¬m=n) tA):¬(m:Int)=n:=fun e=>h (Int.ofNat.inj e)
theorem xG{i a b k:Nat}(h:autoParam (i=a\/b<=i) tA)(q:autoParam ((!Nat.beq a k&&Gw (k+1) b)=true) tR):¬i=k:=by
 rw[Az]at q
 rintro rfl
 rcases h with h|h
 ·rw[h,Nat.beq_refl]at q;exact absurd q.1 (by decide)
 ·exact Hs h (Kj q.2)
theorem xH{i a b c k:Nat}(h:autoParam (i=a\/i=b\/c<=i) tA)(q:(!Nat.beq a k&&(!Nat.beq b k&&Gw (k+1) c))=true):¬i=k:=by
 rw[Az]at q
 rcases h with h|h
 ·rintro rfl;rw[h,Nat.beq_refl]at q;exact absurd q.1 (by decide)
 ·exact xG h q.2
theorem xJ{i a b c k:Nat}(h:autoParam (c<=i\/i=a\/i=b) tA)(q:(!Nat.beq a k&&(!Nat.beq b k&&Gw (k+1) c))=true):¬i=k:=
 xH (h.elim (fun h=> .inr (.inr h)) fun h=>h.elim .inl fun h=> .inr (.inl h)) q
theorem xK{x y:Nat}(h:autoParam (x<=2*y) tA):x+1+1<=2*(y+1):=By h 2
theorem xL{x y:Nat}(h:autoParam (x<=2*y) tA):x+1<=2*(y+1):=Cy (xK h)
theorem xM{x y:Nat}(h:autoParam (x<=2*y) tA):x<=2*(y+1):=Cy (xL h)
theorem xN{x y c k m:Nat}(h:autoParam (x<=m*y) tA)(q:autoParam (y<=c) tA)(r:autoParam (Gw (m*c) k=true) tR):x<=k:=zB (Ad h (D2 m q)) r
theorem xO{a b c k:Nat}(h:autoParam (a+(b+k)<=c) tA):a+k<=c:=Ad (Dg (Ei k b) a) h
theorem xP{a b c k:Nat}(h:autoParam (a<b) tA)(q:autoParam (b<=c) tA)(r:autoParam (Gw c k=true) tR):a<=k:=zC (D7 h q) r
theorem xQ{a b c k:Nat}(h:autoParam (a<=b) tA)(q:autoParam (b<=c) tA)(r:autoParam (Gw c k=true) tR):a<=k:=zB (Ad h q) r
theorem xS{s n c:Nat}(h:autoParam (s+(n+1)=c) tA):s<c:=h▸Nat.lt_add_of_pos_right (Ha n)
theorem xX{j m s c k r:Nat}(h:autoParam (j<=m*s+r) tA)(q:autoParam (s<=c) tA)(t:autoParam (Gw (m*c+r) k=true) tR):j<=k:=zB (Ad h (By (D2 m q) r)) t
@[elab_as_elim] theorem af {α:Sort _} {P:α->Prop} {a b:α} (h:a=b) (m:P b):P a:=h▸m
@[elab_as_elim] theorem cw {α:Sort _} {P:α->Prop} {a b:α} (h:b=a) (m:P b):P a:=h▸m
theorem aq{P0 P1:Prop}{G:Prop}(h:P0/\P1)(k:P0->P1->G):G:=k h.1 h.2
theorem dY{P0 P1 P2:Prop}{G:Prop}(h:P0/\P1/\P2)(k:P0->P1->P2->G):G:=aq h.2 (k h.1)
theorem tK{P0 P1 P2 P3:Prop}{G:Prop}(h:P0/\P1/\P2/\P3)(k:P0->P1->P2->P3->G):G:=dY h.2 (k h.1)
theorem AO{P0 P1 P2 P3 P4:Prop}{G:Prop}(h:P0/\P1/\P2/\P3/\P4)(k:P0->P1->P2->P3->P4->G):G:=tK h.2 (k h.1)
theorem OO{P0 P1 P2 P3 P4 P5:Prop}{G:Prop}(h:P0/\P1/\P2/\P3/\P4/\P5)(k:P0->P1->P2->P3->P4->P5->G):G:=AO h.2 (k h.1)
theorem OP{P0 P1 P2 P3 P4 P5 P6:Prop}{G:Prop}(h:P0/\P1/\P2/\P3/\P4/\P5/\P6)(k:P0->P1->P2->P3->P4->P5->P6->G):G:=OO h.2 (k h.1)
theorem aH{aS:Type}{P0:aS->Prop}{G:Prop}(h:∃a0,P0 a0)(k:∀a0,P0 a0->G):G:=h.elim k
theorem aB{aS:Type}{P0 P1:aS->Prop}{G:Prop}(h:∃a0,P0 a0/\P1 a0)(k:∀a0,P0 a0->P1 a0->G):G:=h.elim fun a h=>aq h (k a)
theorem lh{aS:Type}{P0 P1 P2:aS->Prop}{G:Prop}(h:∃a0,P0 a0/\P1 a0/\P2 a0)(k:∀a0,P0 a0->P1 a0->P2 a0->G):G:=h.elim fun a h=>dY h (k a)
theorem j9{aS:Type}{P0 P1 P2 P3:aS->Prop}{G:Prop}(h:∃a0,P0 a0/\P1 a0/\P2 a0/\P3 a0)(k:∀a0,P0 a0->P1 a0->P2 a0->P3 a0->G):G:=h.elim fun a h=>tK h (k a)
theorem pQ{aS:Type}{P0 P1 P2 P3 P4:aS->Prop}{G:Prop}(h:∃a0,P0 a0/\P1 a0/\P2 a0/\P3 a0/\P4 a0)(k:∀a0,P0 a0->P1 a0->P2 a0->P3 a0->P4 a0->G):G:=h.elim fun a h=>AO h (k a)
theorem qW{aS:Type}{P0 P1 P2 P3 P4 P5:aS->Prop}{G:Prop}(h:∃a0,P0 a0/\P1 a0/\P2 a0/\P3 a0/\P4 a0/\P5 a0)(k:∀a0,P0 a0->P1 a0->P2 a0->P3 a0->P4 a0->P5 a0->G):G:=h.elim fun a h=>OO h (k a)
theorem fT{aS bB:Type}{P0:aS->bB->Prop}{G:Prop}(h:∃a0 a1,P0 a0 a1)(k:∀a0 a1,P0 a0 a1->G):G:=h.elim fun a h=>aH h (k a)
theorem dZ{aS bB:Type}{P0 P1:aS->bB->Prop}{G:Prop}(h:∃a0 a1,P0 a0 a1/\P1 a0 a1)(k:∀a0 a1,P0 a0 a1->P1 a0 a1->G):G:=h.elim fun a h=>aB h (k a)
theorem da{aS bB:Type}{P0 P1 P2:aS->bB->Prop}{G:Prop}(h:∃a0 a1,P0 a0 a1/\P1 a0 a1/\P2 a0 a1)(k:∀a0 a1,P0 a0 a1->P1 a0 a1->P2 a0 a1->G):G:=h.elim fun a h=>lh h (k a)
theorem u1{aS bB:Type}{P0 P1 P2 P3:aS->bB->Prop}{G:Prop}(h:∃a0 a1,P0 a0 a1/\P1 a0 a1/\P2 a0 a1/\P3 a0 a1)(k:∀a0 a1,P0 a0 a1->P1 a0 a1->P2 a0 a1->P3 a0 a1->G):G:=h.elim fun a h=>j9 h (k a)
theorem FY{aS bB:Type}{P0 P1 P2 P3 P4:aS->bB->Prop}{G:Prop}(h:∃a0 a1,P0 a0 a1/\P1 a0 a1/\P2 a0 a1/\P3 a0 a1/\P4 a0 a1)(k:∀a0 a1,P0 a0 a1->P1 a0 a1->P2 a0 a1->P3 a0 a1->P4 a0 a1->G):G:=h.elim fun a h=>pQ h (k a)
theorem u2{aS bB:Type}{P0 P1 P2 P3 P4 P5:aS->bB->Prop}{G:Prop}(h:∃a0 a1,P0 a0 a1/\P1 a0 a1/\P2 a0 a1/\P3 a0 a1/\P4 a0 a1/\P5 a0 a1)(k:∀a0 a1,P0 a0 a1->P1 a0 a1->P2 a0 a1->P3 a0 a1->P4 a0 a1->P5 a0 a1->G):G:=h.elim fun a h=>qW h (k a)
theorem AP{aS bB cM:Type}{P0:aS->bB->cM->Prop}{G:Prop}(h:∃a0 a1 a2,P0 a0 a1 a2)(k:∀a0 a1 a2,P0 a0 a1 a2->G):G:=h.elim fun a h=>fT h (k a)
theorem qX{aS bB cM:Type}{P0 P1:aS->bB->cM->Prop}{G:Prop}(h:∃a0 a1 a2,P0 a0 a1 a2/\P1 a0 a1 a2)(k:∀a0 a1 a2,P0 a0 a1 a2->P1 a0 a1 a2->G):G:=h.elim fun a h=>dZ h (k a)
theorem nT{aS bB cM:Type}{P0 P1 P2:aS->bB->cM->Prop}{G:Prop}(h:∃a0 a1 a2,P0 a0 a1 a2/\P1 a0 a1 a2/\P2 a0 a1 a2)(k:∀a0 a1 a2,P0 a0 a1 a2->P1 a0 a1 a2->P2 a0 a1 a2->G):G:=h.elim fun a h=>da h (k a)
theorem i5{aS bB cM:Type}{P0 P1 P2 P3:aS->bB->cM->Prop}{G:Prop}(h:∃a0 a1 a2,P0 a0 a1 a2/\P1 a0 a1 a2/\P2 a0 a1 a2/\P3 a0 a1 a2)(k:∀a0 a1 a2,P0 a0 a1 a2->P1 a0 a1 a2->P2 a0 a1 a2->P3 a0 a1 a2->G):G:=h.elim fun a h=>u1 h (k a)
theorem AQ{aS bB cM:Type}{P0 P1 P2 P3 P4:aS->bB->cM->Prop}{G:Prop}(h:∃a0 a1 a2,P0 a0 a1 a2/\P1 a0 a1 a2/\P2 a0 a1 a2/\P3 a0 a1 a2/\P4 a0 a1 a2)(k:∀a0 a1 a2,P0 a0 a1 a2->P1 a0 a1 a2->P2 a0 a1 a2->P3 a0 a1 a2->P4 a0 a1 a2->G):G:=h.elim fun a h=>FY h (k a)
theorem FZ{aS bB cM:Type}{P0 P1 P2 P3 P4 P5:aS->bB->cM->Prop}{G:Prop}(h:∃a0 a1 a2,P0 a0 a1 a2/\P1 a0 a1 a2/\P2 a0 a1 a2/\P3 a0 a1 a2/\P4 a0 a1 a2/\P5 a0 a1 a2)(k:∀a0 a1 a2,P0 a0 a1 a2->P1 a0 a1 a2->P2 a0 a1 a2->P3 a0 a1 a2->P4 a0 a1 a2->P5 a0 a1 a2->G):G:=h.elim fun a h=>u2 h (k a)
theorem tL{aS bB cM gG:Type}{P0 P1:aS->bB->cM->gG->Prop}{G:Prop}(h:∃a0 a1 a2 a3,P0 a0 a1 a2 a3/\P1 a0 a1 a2 a3)(k:∀a0 a1 a2 a3,P0 a0 a1 a2 a3->P1 a0 a1 a2 a3->G):G:=h.elim fun a h=>qX h (k a)
theorem qY{aS bB cM gG:Type}{P0 P1 P2:aS->bB->cM->gG->Prop}{G:Prop}(h:∃a0 a1 a2 a3,P0 a0 a1 a2 a3/\P1 a0 a1 a2 a3/\P2 a0 a1 a2 a3)(k:∀a0 a1 a2 a3,P0 a0 a1 a2 a3->P1 a0 a1 a2 a3->P2 a0 a1 a2 a3->G):G:=h.elim fun a h=>nT h (k a)
theorem tM{aS bB cM gG:Type}{P0 P1 P2 P3:aS->bB->cM->gG->Prop}{G:Prop}(h:∃a0 a1 a2 a3,P0 a0 a1 a2 a3/\P1 a0 a1 a2 a3/\P2 a0 a1 a2 a3/\P3 a0 a1 a2 a3)(k:∀a0 a1 a2 a3,P0 a0 a1 a2 a3->P1 a0 a1 a2 a3->P2 a0 a1 a2 a3->P3 a0 a1 a2 a3->G):G:=h.elim fun a h=>i5 h (k a)
theorem u3{aS bB cM gG:Type}{P0 P1 P2 P3 P4:aS->bB->cM->gG->Prop}{G:Prop}(h:∃a0 a1 a2 a3,P0 a0 a1 a2 a3/\P1 a0 a1 a2 a3/\P2 a0 a1 a2 a3/\P3 a0 a1 a2 a3/\P4 a0 a1 a2 a3)(k:∀a0 a1 a2 a3,P0 a0 a1 a2 a3->P1 a0 a1 a2 a3->P2 a0 a1 a2 a3->P3 a0 a1 a2 a3->P4 a0 a1 a2 a3->G):G:=h.elim fun a h=>AQ h (k a)
theorem u4{aS bB cM gG:Type}{P0 P1 P2 P3 P4 P5:aS->bB->cM->gG->Prop}{G:Prop}(h:∃a0 a1 a2 a3,P0 a0 a1 a2 a3/\P1 a0 a1 a2 a3/\P2 a0 a1 a2 a3/\P3 a0 a1 a2 a3/\P4 a0 a1 a2 a3/\P5 a0 a1 a2 a3)(k:∀a0 a1 a2 a3,P0 a0 a1 a2 a3->P1 a0 a1 a2 a3->P2 a0 a1 a2 a3->P3 a0 a1 a2 a3->P4 a0 a1 a2 a3->P5 a0 a1 a2 a3->G):G:=h.elim fun a h=>FZ h (k a)
theorem AR{aS bB cM gG GA:Type}{P0 P1 P2:aS->bB->cM->gG->GA->Prop}{G:Prop}(h:∃a0 a1 a2 a3 a4,P0 a0 a1 a2 a3 a4/\P1 a0 a1 a2 a3 a4/\P2 a0 a1 a2 a3 a4)(k:∀a0 a1 a2 a3 a4,P0 a0 a1 a2 a3 a4->P1 a0 a1 a2 a3 a4->P2 a0 a1 a2 a3 a4->G):G:=h.elim fun a h=>qY h (k a)
theorem GC{aS bB cM gG GA Vy:Type}{P0 P1 P2:aS->bB->cM->gG->GA->Vy->Prop}{G:Prop}(h:∃a0 a1 a2 a3 a4 a5,P0 a0 a1 a2 a3 a4 a5/\P1 a0 a1 a2 a3 a4 a5/\P2 a0 a1 a2 a3 a4 a5)(k:∀a0 a1 a2 a3 a4 a5,P0 a0 a1 a2 a3 a4 a5->P1 a0 a1 a2 a3 a4 a5->P2 a0 a1 a2 a3 a4 a5->G):G:=h.elim fun a h=>AR h (k a)
theorem bZ{P0 P1:Prop} (h0:P0)(h1:P1):P0/\P1:=⟨h0,h1⟩
theorem nU{P0 P1 P2:Prop} (h0:P0)(h1:P1)(h2:P2):P0/\P1/\P2:=⟨h0,h1,h2⟩
theorem OQ{P0 P1 P2 P3:Prop} (h0:P0)(h1:P1)(h2:P2)(h3:P3):P0/\P1/\P2/\P3:=⟨h0,h1,h2,h3⟩
theorem u5{P0 P1 P2 P3 P4:Prop} (h0:P0)(h1:P1)(h2:P2)(h3:P3)(h4:P4):P0/\P1/\P2/\P3/\P4:=⟨h0,h1,h2,h3,h4⟩
theorem cu{aS:Type}{P0:aS->Prop}(a0:aS)(h0:P0 a0):∃a0,P0 a0:=⟨a0,h0⟩
theorem i12{aS:Type}{P0 P1:aS->Prop}(a0:aS)(h0:P0 a0)(h1:P1 a0):∃a0,P0 a0/\P1 a0:=⟨a0,h0,h1⟩
theorem GD{aS:Type}{P0 P1 P2:aS->Prop}(a0:aS)(h0:P0 a0)(h1:P1 a0)(h2:P2 a0):∃a0,P0 a0/\P1 a0/\P2 a0:=⟨a0,h0,h1,h2⟩
theorem GF{aS:Type}{P0 P1 P2 P3:aS->Prop}(a0:aS)(h0:P0 a0)(h1:P1 a0)(h2:P2 a0)(h3:P3 a0):∃a0,P0 a0/\P1 a0/\P2 a0/\P3 a0:=⟨a0,h0,h1,h2,h3⟩
theorem GG{aS:Type}{P0 P1 P2 P3 P4:aS->Prop}(a0:aS)(h0:P0 a0)(h1:P1 a0)(h2:P2 a0)(h3:P3 a0)(h4:P4 a0):∃a0,P0 a0/\P1 a0/\P2 a0/\P3 a0/\P4 a0:=⟨a0,h0,h1,h2,h3,h4⟩
theorem OR{aS:Type}{P0 P1 P2 P3 P4 P5 P6:aS->Prop}(a0:aS)(h0:P0 a0)(h1:P1 a0)(h2:P2 a0)(h3:P3 a0)(h4:P4 a0)(h5:P5 a0)(h6:P6 a0):∃a0,P0 a0/\P1 a0/\P2 a0/\P3 a0/\P4 a0/\P5 a0/\P6 a0:=⟨a0,h0,h1,h2,h3,h4,h5,h6⟩
theorem GH{aS bB:Type}{P0:aS->bB->Prop}(a0:aS)(a1:bB)(h0:P0 a0 a1):∃a0 a1,P0 a0 a1:=⟨a0,a1,h0⟩
theorem nV{aS bB:Type}{P0 P1:aS->bB->Prop}(a0:aS)(a1:bB)(h0:P0 a0 a1)(h1:P1 a0 a1):∃a0 a1,P0 a0 a1/\P1 a0 a1:=⟨a0,a1,h0,h1⟩
theorem tN{aS bB:Type}{P0 P1 P2:aS->bB->Prop}(a0:aS)(a1:bB)(h0:P0 a0 a1)(h1:P1 a0 a1)(h2:P2 a0 a1):∃a0 a1,P0 a0 a1/\P1 a0 a1/\P2 a0 a1:=⟨a0,a1,h0,h1,h2⟩
theorem lU{aS bB:Type}{P0 P1 P2 P3 P4 P5:aS->bB->Prop}(a0:aS)(a1:bB)(h0:P0 a0 a1)(h1:P1 a0 a1)(h2:P2 a0 a1)(h3:P3 a0 a1)(h4:P4 a0 a1)(h5:P5 a0 a1):∃a0 a1,P0 a0 a1/\P1 a0 a1/\P2 a0 a1/\P3 a0 a1/\P4 a0 a1/\P5 a0 a1:=⟨a0,a1,h0,h1,h2,h3,h4,h5⟩
theorem OS{aS bB cM:Type}{P0 P1:aS->bB->cM->Prop}(a0:aS)(a1:bB)(a2:cM)(h0:P0 a0 a1 a2)(h1:P1 a0 a1 a2):∃a0 a1 a2,P0 a0 a1 a2/\P1 a0 a1 a2:=⟨a0,a1,a2,h0,h1⟩
theorem Vz{aS bB cM:Type}{P0 P1 P2:aS->bB->cM->Prop}(a0:aS)(a1:bB)(a2:cM)(h0:P0 a0 a1 a2)(h1:P1 a0 a1 a2)(h2:P2 a0 a1 a2):∃a0 a1 a2,P0 a0 a1 a2/\P1 a0 a1 a2/\P2 a0 a1 a2:=⟨a0,a1,a2,h0,h1,h2⟩
theorem OT{aS bB cM:Type}{P0 P1 P2 P3:aS->bB->cM->Prop}(a0:aS)(a1:bB)(a2:cM)(h0:P0 a0 a1 a2)(h1:P1 a0 a1 a2)(h2:P2 a0 a1 a2)(h3:P3 a0 a1 a2):∃a0 a1 a2,P0 a0 a1 a2/\P1 a0 a1 a2/\P2 a0 a1 a2/\P3 a0 a1 a2:=⟨a0,a1,a2,h0,h1,h2,h3⟩
theorem VA{aS bB cM:Type}{P0 P1 P2 P3 P4:aS->bB->cM->Prop}(a0:aS)(a1:bB)(a2:cM)(h0:P0 a0 a1 a2)(h1:P1 a0 a1 a2)(h2:P2 a0 a1 a2)(h3:P3 a0 a1 a2)(h4:P4 a0 a1 a2):∃a0 a1 a2,P0 a0 a1 a2/\P1 a0 a1 a2/\P2 a0 a1 a2/\P3 a0 a1 a2/\P4 a0 a1 a2:=⟨a0,a1,a2,h0,h1,h2,h3,h4⟩
theorem VB{aS bB cM gG:Type}{P0 P1 P2 P3:aS->bB->cM->gG->Prop}(a0:aS)(a1:bB)(a2:cM)(a3:gG)(h0:P0 a0 a1 a2 a3)(h1:P1 a0 a1 a2 a3)(h2:P2 a0 a1 a2 a3)(h3:P3 a0 a1 a2 a3):∃a0 a1 a2 a3,P0 a0 a1 a2 a3/\P1 a0 a1 a2 a3/\P2 a0 a1 a2 a3/\P3 a0 a1 a2 a3:=⟨a0,a1,a2,a3,h0,h1,h2,h3⟩
theorem VC{aS bB cM gG:Type}{P0 P1 P2 P3 P4:aS->bB->cM->gG->Prop}(a0:aS)(a1:bB)(a2:cM)(a3:gG)(h0:P0 a0 a1 a2 a3)(h1:P1 a0 a1 a2 a3)(h2:P2 a0 a1 a2 a3)(h3:P3 a0 a1 a2 a3)(h4:P4 a0 a1 a2 a3):∃a0 a1 a2 a3,P0 a0 a1 a2 a3/\P1 a0 a1 a2 a3/\P2 a0 a1 a2 a3/\P3 a0 a1 a2 a3/\P4 a0 a1 a2 a3:=⟨a0,a1,a2,a3,h0,h1,h2,h3,h4⟩
theorem tO{M:Mo}{A:Am}{α:Type}{Q:α->Ab->Prop}{E:Value->Ab->Prop}{s:Ab}{c:Prop}[Decidable c]{a b:Ks α}(h:c)(k:Al M A a Q E s):Al M A (if c then a else b) Q E s:=(if_pos h).symm▸k
theorem iU{M:Mo}{A:Am}{α:Type}{Q:α->Ab->Prop}{E:Value->Ab->Prop}{s:Ab}{c:Prop}[Decidable c]{a b:Ks α}(h:¬c)(k:Al M A b Q E s):Al M A (if c then a else b) Q E s:=(if_neg h).symm▸k
theorem xT{α:Type}{c:Prop}[Decidable c]{a b r:α}(h:c)(k:a=r):(if c then a else b)=r:=(if_pos h).trans k
theorem eV{α:Type}{c:Prop}[Decidable c]{a b r:α}(h:¬c)(k:b=r):(if c then a else b)=r:=(if_neg h).trans k
theorem zK{α β:Type}{x:Option α}{a:α}{f:α->Option β}{r:Option β}(h:x=some a)(k:f a=r):x.bind f=r:=h▸k
theorem ao.ind{h:Ap}{M:List PV->List Value->List Addr->Prop}(h0:M [] [] [])(h1:∀{p:PV}{v:Value}{n:List Addr}{ps:List PV}{vs:List Value}{ns:List Addr},VR h p v n->ao h ps vs ns->M ps vs ns->M (p::ps) (v::vs) (n++ns)){ps:List PV}{vs:List Value}{ns:List Addr}(x:ao h ps vs ns):M ps vs ns:=
 ao.rec (motive_1:=fun _ _ _ _=>True) (motive_2:=fun a b c _=>M a b c) trivial (fun _=>trivial) (fun _ _=>trivial) (fun _ _=>trivial) (fun _=>trivial) (fun _ _ _=>trivial) h0 (fun a b _ d=>h1 a b d) x
noncomputable def GI(h h':Ap)(ns:List Addr):Prop:=∀a∈ns,∀o,h.get? a=some o->h'.get? a=some o
theorem VR.on{h h':Ap}{p:PV}{v:Value}{ns:List Addr}(x:VR h p v ns):(∀a∈ns,∀o,h.get? a=some o->h'.get? a=some o)->VR h' p v ns:=
 VR.rec (motive_1:=fun p v ns _=>GI h h' ns->VR h' p v ns) (motive_2:=fun p v ns _=>GI h h' ns->ao h' p v ns) (fun _=> .none) (fun b _=> .bool b) (fun i t _=> .int i t) (fun x t _=> .str x t) (fun v _=> .obj v)
  (fun hl _ f k=> .list (hl.at fun o e=>k _ (Aj ..) o e) (f fun a ha o e=>k a (Ai _ ha) o e)) (fun _=> .nil) (fun _ _ f g k=> .cons (f fun a ha o e=>k a (Ax _ ha) o e) (g fun a ha o e=>k a (Ar _ ha) o e)) x
theorem ao.on{h h':Ap}{p:List PV}{v:List Value}{ns:List Addr}(x:ao h p v ns):(∀a∈ns,∀o,h.get? a=some o->h'.get? a=some o)->ao h' p v ns:=
 ao.ind (M:=fun p v ns=>GI h h' ns->ao h' p v ns) (fun _=> .nil) (fun hv _ g k=> .cons (hv.on fun a ha o e=>k a (Ax _ ha) o e) (g fun a ha o e=>k a (Ar _ ha) o e)) x
theorem VR.sub{h h':Ap}{p:PV}{v:Value}{ns:List Addr}(x:VR h p v ns)(k:Sub h h'):VR h' p v ns:=x.on fun a _ o e=>k a o e
theorem ao.sub{h h':Ap}{p:List PV}{v:List Value}{ns:List Addr}(x:ao h p v ns)(k:Sub h h'):ao h' p v ns:=x.on fun a _ o e=>k a o e
theorem ao.length{h:Ap}{ps:List PV}{vs:List Value}{ns:List Addr}(x:ao h ps vs ns):vs.length=ps.length:=
 x.ind (M:=fun ps vs _=>vs.length=ps.length) rfl fun _ _ ih=>congrArg (· +1) ih
theorem ao.append{h:Ap}{ps qs:List PV}{vs us:List Value}{ns ms:List Addr}(x:ao h ps vs ns)(y:ao h qs us ms):ao h (ps++qs) (vs++us) (ns++ms):=
 x.ind (M:=fun ps vs ns=>ao h (ps++qs) (vs++us) (ns++ms)) y fun hv _ ih=>by
  rw[Bf];exact .cons hv ih
theorem ao.one{h:Ap}{p:PV}{v:Value}{n:List Addr}(x:VR h p v n):ao h [p] [v] n:=by
 have:=ao.cons x (ao.nil (h:=h));rwa[Bx]at this
theorem ao.get{h:Ap}{ps:List PV}{vs:List Value}{ns:List Addr}(x:ao h ps vs ns):∀{i:Nat} {p:PV},ps[i]?=some p->∃v n,vs[i]?=some v/\VR h p v n/\∀a∈n,a∈ns:=
 x.ind (M:=fun ps vs ns=>∀{i:Nat} {p:PV},ps[i]?=some p->∃v n,vs[i]?=some v/\VR h p v n/\∀a∈n,a∈ns) (fun e=>nn e) fun hv hs ih i p e=>by
  cases i with
  |zero=>exact Aa e▸⟨_,_,rfl,hv,fun a ha=>Ax _ ha⟩
  |succ i=>
   refine da (ih (i:=i) e) fun v n e1 e2 e3=>?_
   exact tN v n e1 e2 (fun a ha=>Ar _ (e3 a ha))
theorem ao.pick{h:Ap}{ps:List PV}{vs:List Value}{ns:List Addr}(x:ao h ps vs ns):∀is:List Nat,∃ms,ao h (is.filterMap (ps[·]?)) (is.filterMap (vs[·]?)) ms/\∀a∈ms,a∈ns
 |[]=>⟨[], .nil,fun _ h=>nomatch h⟩
 |i::is=>by
  refine aB (ao.pick x is) fun ms e1 e2=>?_
  cases hp:ps[i]? with
  |none=>
   have hv:vs[i]?=Jc:=by
    rw[List.getElem?_eq_none_iff]at hp⊢;refine af x.length ?_;exact hp
   (refine af Dh ?_;refine af Dh ?_;refine af hp ?_;refine af hv ?_);exact⟨ms,e1,e2⟩
  |some p=>
   refine da (x.get hp) fun v n e3 e4 e5=>?_
   refine af Dh ?_
   refine af Dh ?_
   refine af hp ?_
   refine af e3 ?_
   exact i12 (n++ms) (.cons e4 e1) (fun a ha=>(Bb.mp ha).elim (e5 a) (e2 a))
theorem ao.take{h:Ap}{ps:List PV}{vs:List Value}{ns:List Addr}(x:ao h ps vs ns):∀k:Nat,∃ms,ao h (ps.take k) (vs.take k) ms/\∀a∈ms,a∈ns:=
 x.ind (M:=fun ps vs ns=>∀k:Nat,∃ms,ao h (ps.take k) (vs.take k) ms/\∀a∈ms,a∈ns) (fun k=>⟨[],by rw[List.take_nil,List.take_nil];exact .nil,fun _ h=>h⟩) fun hv _ ih k=>by
  cases k with
  |zero=>exact⟨[], .nil,fun a h=>(Aq h).elim⟩
  |succ k=>
   refine aB (ih k) fun ms e1 e2=>?_
   exact i12 _ (.cons hv e1) (fun a ha=>Bb.mpr ((Bb.mp ha).imp id (e2 a)))
theorem ao.drop{h:Ap}{ps:List PV}{vs:List Value}{ns:List Addr}(x:ao h ps vs ns):∀k:Nat,∃ms,ao h (ps.drop k) (vs.drop k) ms/\∀a∈ms,a∈ns:=
 x.ind (M:=fun ps vs ns=>∀k:Nat,∃ms,ao h (ps.drop k) (vs.drop k) ms/\∀a∈ms,a∈ns) (fun k=>⟨[],by rw[List.drop_nil,List.drop_nil];exact .nil,fun _ h=>h⟩) fun hv hs ih k=>by
  cases k with
  |zero=>exact⟨_, .cons hv hs,fun _ h=>h⟩
  |succ k=>
   refine aB (ih k) fun ms e1 e2=>?_
   exact i12 _ e1 (fun a ha=>Ar _ (e2 a ha))
noncomputable def PV.int?:PV->Option Int
 | .int i=>some i
 |_=>Jc
noncomputable def PV.dr:PV->Option (List Nat)
 | .str s=>some s
 |_=>Jc
noncomputable def PV.ints:List PV->Option (List Int)
 |[]=>some []
 |p::r=>p.int?.bind fun i=>(PV.ints r).map (i:: ·)
noncomputable def PV.strs:List PV->Option (List (List Nat))
 |[]=>some []
 |p::r=>p.dr.bind fun i=>(PV.strs r).map (i:: ·)
noncomputable def VD(h:Ap)(v:Value)(ns:List Addr):PV->Prop
 | .none=>v= .none/\ns=[]
 | .bool b=>v= .bool b/\ns=[]
 | .int i=>∃t,v= .int i t/\ns=[]
 | .str y=>∃t,v= .str ⟨y.toArray⟩ t/\ns=[]
 | .obj u=>v=u/\ns=[]
 | .list ps=>∃a vs ms,h.PlainList a (En vs)/\ao h ps vs ms/\v= .ref a/\ns=a::ms
theorem VR.inv{h:Ap}{p:PV}{v:Value}{ns:List Addr}(x:VR h p v ns):VD h v ns p:=
 x.casesOn ⟨rfl,rfl⟩ (fun _=>⟨rfl,rfl⟩) (fun _ t=>⟨t,rfl,rfl⟩) (fun _ t=>⟨t,rfl,rfl⟩) (fun _=>⟨rfl,rfl⟩) fun hl hs=>⟨_,_,_,hl,hs,rfl,rfl⟩
noncomputable def VE(h:Ap)(vs:List Value)(ns:List Addr):List PV->Prop
 |[]=>vs=[]/\ns=[]
 |p::ps=>∃v n us ms,VR h p v n/\ao h ps us ms/\vs=v::us/\ns=n++ms
theorem ao.inv{h:Ap}{p:List PV}{v:List Value}{ns:List Addr}(x:ao h p v ns):VE h v ns p:=
 x.casesOn ⟨rfl,rfl⟩ fun hv hs=>⟨_,_,_,_,hv,hs,rfl,rfl⟩
theorem two{α β:Type}{a a':α}{b b':β}{M:α->β->Prop}(h1:a=a')(h2:b=b')(k:M a' b'):M a b:=h1▸h2▸k
@[elab_as_elim] theorem VR.lV {h:Ap} {v:Value} {ns:List Addr} {M:Value->List Addr->Prop} (x:VR h .none v ns) (k:M .none []):M v ns:=two x.inv.1 x.inv.2 k
@[elab_as_elim] theorem VR.pR {h:Ap} {b:Bool} {v:Value} {ns:List Addr} {M:Value->List Addr->Prop} (x:VR h (.bool b) v ns) (k:M (.bool b) []):M v ns:=two x.inv.1 x.inv.2 k
@[elab_as_elim] theorem VR.d0 {h:Ap} {i:Int} {v:Value} {ns:List Addr} {M:Value->List Addr->Prop} (x:VR h (.int i) v ns) (k:∀t,M (.int i t) []):M v ns:=x.inv.elim fun t e=>two e.1 e.2 (k t)
@[elab_as_elim] theorem VR.eW {h:Ap} {y:List Nat} {v:Value} {ns:List Addr} {M:Value->List Addr->Prop} (x:VR h (.str y) v ns) (k:∀t,M (.str ⟨y.toArray⟩ t) []):M v ns:=x.inv.elim fun t e=>two e.1 e.2 (k t)
@[elab_as_elim] theorem VR.VF {h:Ap} {u v:Value} {ns:List Addr} {M:Value->List Addr->Prop} (x:VR h (.obj u) v ns) (k:M u []):M v ns:=two x.inv.1 x.inv.2 k
@[elab_as_elim] theorem VR.cW {h:Ap} {ps:List PV} {v:Value} {ns:List Addr} {M:Value->List Addr->Prop} (x:VR h (.list ps) v ns) (k:∀a vs ms,h.PlainList a vs.toArray->ao h ps vs ms->M (.ref a) (a::ms)):M v ns:=
 let⟨a,vs,ms,h1,h2,e1,e2⟩:=x.inv;two e1 e2 (k a vs ms h1 h2)
@[elab_as_elim] theorem ao.lW {h:Ap} {vs:List Value} {ns:List Addr} {M:List Value->List Addr->Prop} (x:ao h [] vs ns) (k:M [] []):M vs ns:=two x.inv.1 x.inv.2 k
@[elab_as_elim] theorem ao.fq {h:Ap} {p:PV} {ps:List PV} {vs:List Value} {ns:List Addr} {M:List Value->List Addr->Prop} (x:ao h (p::ps) vs ns) (k:∀v n us ms,VR h p v n->ao h ps us ms->M (v::us) (n++ms)):M vs ns:=
 let⟨v,n,us,ms,h1,h2,e1,e2⟩:=x.inv;two e1 e2 (k v n us ms h1 h2)
@[elab_as_elim] theorem ao.lX {h:Ap} {p:PV} {vs:List Value} {ns:List Addr} {M:List Value->Prop} (x:ao h [p] vs ns) (k:∀v,VR h p v ns->M [v]):M vs:=
 x.fq (M:=fun vs ms=>(∀v,VR h p v ms->M [v])->M vs) (fun v n _ _ hv hs=>hs.lW (M:=fun us ms=>(∀v,VR h p v (n++ms)->M [v])->M (v::us)) fun k=>k v (by rw[Bx];exact hv)) k
theorem PV.ea{p:PV}{a:Int}(e:p.int?=some a):p= .int a:=by
 cases p with
 |int b=>exact congrArg PV.int (Aa e)
 |_=>exact nn e
theorem PV.bO{p:PV}{a:List Nat}(e:p.dr=some a):p= .str a:=by
 cases p with
 |str b=>exact congrArg PV.str (Aa e)
 |_=>exact nn e
@[elab_as_elim] theorem VR.dt {h:Ap} {p:PV} {v:Value} {ns:List Addr} {a:Int} {M:Value->List Addr->Prop} (x:VR h p v ns) (e:p.int?=some a) (k:∀t,M (.int a t) []):M v ns:=VR.d0 (M:=M) (PV.ea e▸x) k
@[elab_as_elim] theorem VR.il {h:Ap} {p:PV} {v:Value} {ns:List Addr} {a:List Nat} {M:Value->List Addr->Prop} (x:VR h p v ns) (e:p.dr=some a) (k:∀t,M (.str ⟨a.toArray⟩ t) []):M v ns:=VR.eW (M:=M) (PV.bO e▸x) k
theorem ao.ints{h:Ap}{ps:List PV}{vs:List Value}{ns:List Addr}(x:ao h ps vs ns):∀{is:List Int},PV.ints ps=some is->H7 vs is:=
 x.ind (M:=fun ps vs _=>∀{is:List Int},PV.ints ps=some is->H7 vs is) (fun e=>Aa e▸ .nil) fun hv _ ih is e=>by
  refine aB (Fh.mp e) fun i e1 e2=>?_
  refine aB (Bp.mp e2) fun r e3 cz=>?_
  subst cz
  exact hv.dt (M:=fun v _=>H7 (v::_) _) e1 fun t=> .cons i t (ih e3)
noncomputable def mkStr(x:List Nat):Str:=⟨x.toArray⟩
theorem ao.strs{h:Ap}{ps:List PV}{vs:List Value}{ns:List Addr}(x:ao h ps vs ns):∀{is:List (List Nat)},PV.strs ps=some is->StrsAre vs (is.map mkStr):=
 x.ind (M:=fun ps vs _=>∀{is:List (List Nat)},PV.strs ps=some is->StrsAre vs (is.map mkStr)) (fun e=>Aa e▸ .nil) fun hv _ ih is e=>by
  refine aB (Fh.mp e) fun i e1 e2=>?_
  refine aB (Bp.mp e2) fun r e3 cz=>?_
  subst cz
  exact hv.il (M:=fun v _=>StrsAre (v::_) _) e1 fun t=> .cons _ t (ih e3)
theorem VR.aC{h:Ap}{p:PV}{v:Value}{ns:List Addr}(x:VR h p v ns)(hp:p.ba=true):ns=[]:=by
 cases p with
 |list l=>exact ft hp
 |int i=>exact x.inv.elim fun _ e=>e.2
 |str i=>exact x.inv.elim fun _ e=>e.2
 |_=>exact x.inv.2
theorem ao.aC{h:Ap}{ps:List PV}{vs:List Value}{ns:List Addr}(x:ao h ps vs ns):ps.all PV.ba=true->ns=[]:=
 x.ind (M:=fun ps _ ns=>ps.all PV.ba=true->ns=[]) (fun _=>rfl) fun hv _ ih hp=>by rw[hv.aC (Ba.mp hp).1,ih (Ba.mp hp).2];rfl
theorem VR.bP{h h':Ap}{p:PV}{v:Value}{ns:List Addr}(x:VR h p v ns)(hp:p.ba=true):VR h' p v []:=(x.aC hp▸x).on fun a ha=>(Aq ha).elim
@[elab_as_elim] theorem so {α:Type} {a b:α} {M:α->Prop} (e:some a=some b) (k:M a):M b:=Aa e▸k
@[elab_as_elim] theorem sp {α β:Type} {a a':α} {b b':β} {M:α->β->Prop} (e:some (a,b)=some (a',b')) (k:M a b):M a' b':=two (M:=M) (congrArg Prod.fst (Aa e)).symm (congrArg Prod.snd (Aa e)).symm k
structure pS(g g':Array Hb):Prop where
 get:∀(i:Nat) x,g[i]?=some x->g'[i]?=some x
 bare:L5 g->L5 g'
theorem pS.rfl'(g:Array Hb):pS g g:=⟨fun _ _ e=>e,fun x=>x⟩
theorem pS.trans{a b c:Array Hb}(x:pS a b)(y:pS b c):pS a c:=⟨fun i o e=>y.get i o (x.get i o e),fun h=>y.bare (x.bare h)⟩
inductive KG(s s':Ab):Prop
 |mk (h:Ap) (t:Nat) (g:Array Hb) (e:s'={s with heap:=h,toks:=t,gens:=g}) (k:Sub s.heap h) (x:pS s.gens g):KG s s'
theorem jG(s:Ab):KG s s:=⟨s.heap,s.toks,s.gens,rfl,fun _ _ e=>e, .rfl' _⟩
theorem zI{s s' bN:Ab}(a:KG s s')(b:KG s' bN):KG s bN:=by
 obtain⟨h,t,g,rfl,k,x⟩:=a
 obtain⟨h',t',g',rfl,k',x'⟩:=b
 exact⟨h',t',g',rfl,fun b o e=>k' b o (k b o e),x.trans x'⟩
theorem zV{s s':Ab}(a:KG s s'):Sub s.heap s'.heap:=by obtain⟨h,t,g,rfl,k,_⟩:=a;exact k
theorem wZ(s:Ab)(t:Nat):KG s {s with toks:=t}:=⟨s.heap,t,s.gens,rfl,fun _ _ e=>e, .rfl' _⟩
theorem jH(s:Ab)(h:Ap)(t:Nat)(k:Sub s.heap h):KG s {s with heap:=h,toks:=t}:=⟨h,t,s.gens,rfl,k, .rfl' _⟩
theorem pT(s:Ab)(o:Obj)(t:Nat):KG s {s with heap:=s.heap.push o,toks:=t}:=⟨_,t,s.gens,rfl,fun _ _ e=>Ag _ e, .rfl' _⟩
structure wN(h:Ap)(ns:List Addr):Prop where
 nodup:ns.Nodup
 new:∀a∈ns,h.get? a=none
theorem wN.nil(h:Ap):wN h []:=⟨Eu,fun _ h=>nomatch h⟩
theorem wN.back{h h':Ap}{ns:List Addr}(x:wN h' ns)(k:Sub h h'):wN h ns:=⟨x.nodup,fun a ha=>by
 cases e:h.get? a with
 |none=>rfl
 |some o=>rw[<-k a o e];exact x.new a ha⟩
section
set_option genSizeOf false
set_option genInjectivity false
mutual
inductive PE where
 |lit (v:PV)
 |var (i:Nat)
 |bin (op:Ia) (a b:PE)
 |neg (a:PE)
 |cmp (op:CmpOp) (a b:PE)
 |kb (a b:PE)
 |gH (a b:PE)
 |ite (c:PT) (a b:PE)
 |idx (a i:PE)
 |bI (a:PE) (lo hi st:PO)
 |list (es:kc)
 |comp (elt:PE) (src:nW) (ifs:eC)
 |bi (f:Nat) (es:kc)
 |me (f:Nat) (o:PE) (es:kc)
 |uc (k:Nat) (es:kc)
inductive PO where
 |no
 |yes (e:PE)
inductive kc where
 |nil
 |cons (e:PE) (r:kc)
inductive PT where
 |cmp (op:CmpOp) (a b:PE)
 |not (t:PT)
 |and (ts:eC)
 |or (ts:eC)
 |eO (e:PE)
inductive eC where
 |nil
 |cons (t:PT) (r:eC)
inductive nW where
 |items (e:PE)
 |eD (e:PE)
 |enum (e:PE)
 |zip (a b:PE)
end
noncomputable def ag:Nat:=16777216
noncomputable def wC(i:Int):Bool:=decide (-9223372036854775808<=i)&&decide (i<9223372036854775808)
noncomputable def qZ:PV->Option Bool
 | .none=>some false
 | .bool b=>some b
 | .int i=>some (i !=0)
 | .str s=>if s.length<=ag then some (!s.isEmpty)else none
 | .list l=>if l.length<=ag then some (!l.isEmpty)else none
 | .obj _=>none
noncomputable def PV.dM:PV->Option (List PV)
 | .list l=>some l
 |_=>Jc
noncomputable def PV.bool?:PV->Option Bool
 | .bool b=>some b
 |_=>Jc
noncomputable def PV.isNone:PV->Bool
 | .none=>true
 |_=>false
noncomputable def one{α:Type}:List α->Option α
 |[a]=>some a
 |_=>none
noncomputable def OU:PV->PV->Option PV
 | .int a,y=>y.int?.bind fun b=>some (.int (a+b))
 | .str a,y=>y.dr.bind fun b=>if a.length+b.length<=ag then some (.str (a++b))else none
 | .list a,y=>y.dM.bind fun b=>if a.length+b.length<=ag then some (.list (a++b))else none
 |_,_=>none
noncomputable def OV:PV->PV->Option PV
 | .int a,y=>y.int?.bind fun b=>if wC a&&wC b then some (.int (a*b))else none
 | .str a,y=>y.int?.bind fun n=>if wC n&&decide (a.length*n.toNat<=ag)then some (.str (A0 n.toNat a).flatten)else none
 | .list a,y=>y.int?.bind fun n=>if a.length==1&&PV.ba (a.headD .none)&&decide (0<=n)&&decide (n<=1000)then some (.list (A0 n.toNat (a.headD .none)))else none
 |_,_=>none
noncomputable def tP(f:Int->Int->Option Int)(x y:PV):Option PV:=x.int?.bind fun a=>y.int?.bind fun b=>(f a b).map .int
noncomputable def AS(op:Ia)(x y:PV):Option PV:=match op with
 | .Add=>OU x y
 | .Mult=>OV x y
 | .Sub=>tP (fun a b=>some (a-b)) x y
 | .FloorDiv=>tP (fun a b=>if decide (0<b)&&decide (b<1073741824)then some (a/b)else none) x y
 | .Mod=>tP (fun a b=>if decide (0<b)then some (a%b)else none) x y
 | .Pow=>tP (fun a n=>if decide (a=2)&&decide (0<=n)&&decide (n<=60)then some (2^n.toNat)else none) x y
 |_=>none
noncomputable def OW:PV->PV->Option Bool
 | .int a,y=>y.int?.map fun b=>a==b
 | .str a,y=>y.dr.map fun b=>a==b
 |_,_=>none
noncomputable def tQ:List PV->List PV->Option Bool
 |[],[]=>some true
 |a::r,b::t=>(OW a b).bind fun x=>(tQ r t).map fun y=>x&&y
 |_,_=>none
noncomputable def vEq:PV->PV->Option Bool
 | .int a,y=>y.int?.map fun b=>a==b
 | .str a,y=>y.dr.map fun b=>a==b
 | .list a,y=>y.dM.bind fun b=>if a.length==b.length then tQ a b else some false
 |_,_=>none
noncomputable def u6(f:Int->Int->Bool)(x y:PV):Option Bool:=x.int?.bind fun a=>y.int?.map (f a)
noncomputable def GJ(x y:PV):Option Bool:=x.dr.bind fun s=>(one s).bind fun c=>y.dr.map fun t=>t.contains c
noncomputable def VG:PV->PV->Option Bool
 | .int k,y=>y.dM.bind fun l=>(PV.ints l).map fun is=>is.any (· ==k)
 |x,y=>GJ x y
noncomputable def GL(x y:PV):Option Bool:=x.bool?.bind fun a=>y.bool?.map fun b=>a==b
noncomputable def VH:PV->PV->Option Bool
 | .none,y=>if y.isNone then some true else none
 | .int _,y=>if y.isNone then some false else none
 |x,y=>GL x y
noncomputable def AU(op:CmpOp)(x y:PV):Option Bool:=match op with
 | .Eq=>vEq x y
 | .NotEq=>(vEq x y).map (!·)
 | .Lt=>u6 (fun a b=>decide (a<b)) x y
 | .LtE=>u6 (fun a b=>decide (a<=b)) x y
 | .Gt=>u6 (fun a b=>decide (b<a)) x y
 | .GtE=>u6 (fun a b=>decide (b<=a)) x y
 | .In=>VG x y
 | .NotIn=>(GJ x y).map (!·)
 | .Is=>VH x y
 | .IsNot=>(GL x y).map (!·)
noncomputable def tS:PV->PV->Option PV
 | .str s, .int i=>if wC i then((F6 i s.length).bind fun j=>s[j]?).map fun c=> .str [c]else none
 | .list l, .int i=>if wC i then(F6 i l.length).bind fun j=>l[j]? else none
 |_,_=>none
noncomputable def GN:Option PV->Option (Option Int)
 |none=>some none
 |some .none=>some none
 |some (.int i)=>some (some i)
 |_=>none
noncomputable def AV:PV->Option Int->Option Int->Option Int->Option PV
 | .str s,lo,hi,none=>if s.length<=ag then some (.str ((s.drop (C9 lo s.length)).take (Fu hi s.length-C9 lo s.length)))else none
 | .list l,lo,hi,none=>if l.length<=ag then some (.list ((l.drop (C9 lo l.length)).take (Fu hi l.length-C9 lo l.length)))else none
 | .list l,lo,hi,some k=>if k==0||decide (ag<l.length)then none else some (.list ((Gz (Ck lo hi (some k) l.length).1 (Ck lo hi (some k) l.length).2.1 (Ck lo hi (some k) l.length).2.2).filterMap (l[·]?)))
 |_,_,_,_=>none
noncomputable def pU(n:Int):List PV:=(Au n.toNat).map fun(i:Nat)=>PV.int (i:Int)
noncomputable def ra(a b c:Int):List PV:=(Au (if a<b then((b-a-1)/c+1).toNat else 0)).map fun(i:Nat)=>PV.int (a+(i:Int)*c)
noncomputable def GO:List Int->Option Int
 |[]=>none
 |a::r=>some (r.foldl min a)
noncomputable def OX:PV->Option PV
 | .str s=>if s.length<=ag then some (.int s.length)else none
 | .list l=>if l.length<=ag then some (.int l.length)else none
 |_=>none
noncomputable def GP(f:List Int->Option Int)(p:PV):Option PV:=p.dM.bind fun l=>(PV.ints l).bind fun is=>(f is).map .int
noncomputable def tT(f:Nat)(ps:List PV):Option PV:=match f with
 |0=>(one ps).bind OX
 |1=>(one ps).bind (GP fun is=>some is.sum)
 |2=>(one ps).bind (GP GO)
 |3=>(PV.ints ps).bind fun is=>match is with|[a,b]=>some (.int (if b<a then b else a))|_=>none
 |4=>(PV.ints ps).bind fun is=>(one is).map fun a=> .int (if a<0 then -a else a)
 |5=>(PV.ints ps).bind fun is=>match is with|[a,b,c]=>if decide (0<=a)&&decide (a<=1000)&&decide (0<=b)&&decide (b<=1000)&&decide (0<c)&&decide (c<=1000)then some (.list (ra a b c))else none|_=>none
 |_=>none
noncomputable def lj(sep:List Nat):List (List Nat)->List Nat
 |[]=> []
 |[x]=>x
 |x::r=>x++sep++lj sep r
noncomputable def VI(l:List PV):PV->Option PV
 | .int k=>(PV.ints l).bind fun is=>if is.contains k&&decide (is.length<=ag)then some (.int (is.idxOf k))else none
 | .str k=>(PV.strs l).bind fun is=>if is.contains k&&decide (is.length<=ag)then some (.int (is.idxOf k))else none
 |_=>none
noncomputable def OY(c:Nat):Option PV:=if c<128 then some (.str [if 65<=c&&c<=90 then c+32 else c])else none
noncomputable def tU(f:Nat)(x:PV)(ps:List PV):Option PV:=match f with
 |0=>x.dr.bind fun sep=>(one ps).bind fun y=>y.dM.bind fun l=>(PV.strs l).bind fun xs=>if(xs.map B3).sum+xs.length*sep.length<=ag then some (.str (lj sep xs))else none
 |1=>x.dr.bind fun s=>(one s).bind fun c=>if ps.isEmpty then OY c else none
 |2=>x.dr.bind fun s=>(one ps).bind fun y=>y.dr.bind fun t=>(one t).map fun c=> .int (s.count c)
 |3=>x.dM.bind fun l=>(one ps).bind (VI l)
 |_=>none
noncomputable def nX:List PV->List PV->List (List PV)
 |a::r,b::t=> [a,b]::nX r t
 |_,_=> []
noncomputable def wM(i:Nat):List PV->List (List PV)
 |[]=> []
 |a::r=> [.int (i:Int),a]::wM (i+1) r
noncomputable def pV:PV->Option (List (List PV))
 | .list l=>some (l.map fun x=> [x])
 | .str s=>some (s.map fun c=> [.str [c]])
 |_=>none
noncomputable abbrev Uc:=Nat->List PV->Option PV
noncomputable def zQ(f:List PV->Option (Option PV)):List (List PV)->Option (List PV)
 |[]=>some []
 |x::r=>match f x with
  |some (some y)=>(zQ f r).map (y:: ·)
  |some none=>zQ f r
  |none=>none
noncomputable def PE.makes:PE->Bool
 | .list _=>true
 | .bI ..=>true
 | .bin ..=>true
 | .bi ..=>true
 |_=>false
noncomputable def fresh:PE->PV->Bool
 | .comp elt _ _,p=>match p with| .list ps=>ps.all (fresh elt)|_=>true
 |e,p=>match p with| .list ps=>e.makes&&ps.all PV.ba|_=>true
section
variable(U:Uc)
mutual
noncomputable def ev:PE->List (Option PV)->Option PV
 | .lit v,_=>some v
 | .var i,σ=>(σ[i]?).bind id
 | .bin op a b,σ=>(ev a σ).bind fun x=>(ev b σ).bind fun y=>AS op x y
 | .neg a,σ=>(ev a σ).bind fun x=>match x with| .int i=>some (.int (-i))|_=>none
 | .cmp op a b,σ=>(ev a σ).bind fun x=>(ev b σ).bind fun y=>(AU op x y).map .bool
 | .kb a b,σ=>(ev a σ).bind fun x=>(qZ x).bind fun t=>if t then ev b σ else some x
 | .gH a b,σ=>(ev a σ).bind fun x=>(qZ x).bind fun t=>if t then some x else ev b σ
 | .ite c a b,σ=>(aZ c σ).bind fun t=>if t then ev a σ else ev b σ
 | .idx a i,σ=>(ev a σ).bind fun x=>(ev i σ).bind fun y=>tS x y
 | .bI a lo hi st,σ=>(ev a σ).bind fun x=>(tV lo σ).bind fun l=>(tV hi σ).bind fun h=>(tV st σ).bind fun k=>AV x l h k
 | .list es,σ=>(tW es σ).bind fun l=>if l.length<=ag then some (.list l)else none
 | .comp elt src ifs,σ=>(kh src σ).bind fun items=>if items.length<=ag then(zQ (fun it=>(nY ifs (σ++it.map some)).bind fun ok=>if ok then(ev elt (σ++it.map some)).bind fun y=>if fresh elt y then some (some y)else none else some none) items).map .list else none
 | .bi f es,σ=>(tW es σ).bind (tT f)
 | .me f o es,σ=>(ev o σ).bind fun x=>(tW es σ).bind (tU f x)
 | .uc k es,σ=>(tW es σ).bind (U k)
noncomputable def tV:PO->List (Option PV)->Option (Option Int)
 | .no,_=>some none
 | .yes e,σ=>(ev e σ).bind fun x=>GN (some x)
noncomputable def tW:kc->List (Option PV)->Option (List PV)
 | .nil,_=>some []
 | .cons e r,σ=>(ev e σ).bind fun x=>(tW r σ).map (x:: ·)
noncomputable def aZ:PT->List (Option PV)->Option Bool
 | .cmp op a b,σ=>(ev a σ).bind fun x=>(ev b σ).bind fun y=>AU op x y
 | .not t,σ=>(aZ t σ).map (!·)
 | .and ts,σ=>u7 true ts σ
 | .or ts,σ=>u7 false ts σ
 | .eO e,σ=>(ev e σ).bind qZ
noncomputable def u7(u:Bool):eC->List (Option PV)->Option Bool
 | .nil,_=>some u
 | .cons t r,σ=>(aZ t σ).bind fun b=>if b==u then u7 u r σ else some (!u)
noncomputable def nY:eC->List (Option PV)->Option Bool
 | .nil,_=>some true
 | .cons t r,σ=>(aZ t σ).bind fun b=>if b then nY r σ else some false
noncomputable def kh:nW->List (Option PV)->Option (List (List PV))
 | .items e,σ=>(ev e σ).bind pV
 | .eD e,σ=>(ev e σ).bind fun x=>match x with| .int n=>if wC n&&decide (n<=16777216)then some ((pU n).map fun x=> [x])else none|_=>none
 | .enum e,σ=>(ev e σ).bind fun x=>match x with| .list l=>some (wM 0 l)|_=>none
 | .zip a b,σ=>(ev a σ).bind fun x=>(ev b σ).bind fun y=>match x,y with| .list l, .list m=>some (nX l m)|_,_=>none
end
end
set_option genInjectivity true
end
set_option genSizeOf false
set_option genInjectivity false
structure wO(D:Nat)(A:Am):Prop where
 hh:A.handled=none
 depth:A.depth+D<recursionLimit
 units:A.units+8*D+60<cLine
structure bx where
 prog:Program
 w:Co
 Wd:Ap->Prop
 mono:∀{h h':Ap},Wd h->Sub h h'->Wd h'
 mg:Str->Option Value
 mb:Str->Option Value
 g:∀{h:Ap},Wd h->h.Ns mainGlobals mg
 b:∀{h:Ap},Wd h->h.Ns builtinsNs mb
 D:Nat
 U:Uc
 i6:Nat->Addr
 n5:∀{h:Ap} (k:Nat),(∃ps r,U k ps=some r)->Wd h->∃o fd,h.get? (i6 k)=some o/\o.data= .func fd
 call:∀(k:Nat) (A:Am) (s:Ab) (ps:List PV) (vs:List Value) (ns:List Addr) (r:PV),wO D A->Wd s.heap->ao s.heap ps vs ns->U k ps=some r->
  Ca (Af prog w) A (.call (.ref (i6 k)) ⟨vs,[]⟩) (fun res s'=>∃v ms,res= .ok (.ret v)/\KG s s'/\VR s'.heap r v ms) s
structure Cx where
 kn:List (Str×Dd)
 Γ:List (Str×Nat)
 n:Nat
noncomputable def Acc(env:Dy)(h:Ap)(x:Str)(v:Value):Prop:=
 (env.kindOf x=some .local/\∃m,h.Ns env.locals m/\m x=some v)\/
 ((env.kindOf x=some .cell\/env.kindOf x=some .free)/\∃c,env.cells.lookup x=some c/\h.IsCell c (some v))
theorem Acc.sub{env:Dy}{h h':Ap}{x:Str}{v:Value}(a:Acc env h x v)(k:Sub h h'):Acc env h' x v:=by
 rcases a with⟨hk,m,hn,hm⟩|⟨hk,c,hc,hv⟩
 ·exact .inl ⟨hk,m,hn.keeps k,hm⟩
 ·exact .inr ⟨hk,c,hc,hv.keeps k⟩
noncomputable def u9(k:Dd):Bool:=k== .local||k== .cell||k== .free
structure Pre(W:bx)(C:Cx)(env:Dy)(A:Am)(σ:List (Option PV))(s:Ab):Prop where
 kind:env.scope.kind= .function
 names:env.scope.names=C.kn
 gl:env.globals=mainGlobals
 bl:env.builtins=builtinsNs
 room:wO W.D A
 len:σ.length=C.n
 rd:∀x i p k,C.kn.lookup x=some k->u9 k=true->C.Γ.lookup x=some i->σ[i]?=some (some p)->∃v ns,Acc env s.heap x v/\VR s.heap p v ns
 wd:W.Wd s.heap
 eP:∀x k,C.kn.lookup x=some k->k= .cell\/k= .free->∃c,env.cells.lookup x=some c
theorem Pre.kp{W:bx}{C:Cx}{env:Dy}{A:Am}{σ:List (Option PV)}{s s':Ab}(P:Pre W C env A σ s)(k:KG s s'):Pre W C env A σ s':=
 {P with
  rd:=fun x i p kk e1 e2 e3 e4=>by
   refine dZ (P.rd x i p kk e1 e2 e3 e4) fun v ns a r=>?_
   exact nV v ns (a.sub (zV k)) (r.sub (zV k))
  wd:=W.mono P.wd (zV k)}
inductive Got(s:Ab)(b:Bool)(p:PV)(v:Value)(s':Ab):Prop
 |mk (k:KG s s') (ns:List Addr) (r:VR s'.heap p v ns) (f:b=true->wN s.heap ns):Got s b p v s'
theorem Got.ba{s s':Ab}{b:Bool}{p:PV}{v:Value}(k:KG s s')(r:VR s'.heap p v []):Got s b p v s':=⟨k,[],r,fun _=>wN.nil _⟩
noncomputable def OZ(W:bx)(env:Dy)(A:Am)(E:Value->Ab->Prop)(s:Ab)(e:Expr)(b:Bool)(p:PV):Prop:=Al (Af W.prog W.w) A (eval e env) (Got s b p) E s
noncomputable def VJ(W:bx)(env:Dy)(A:Am)(E:Value->Ab->Prop)(s:Ab)(e:Expr)(b:Bool):Prop:=Al (Af W.prog W.w) A (Lp e env (eval e env)) (fun b' s'=>b'=b/\KG s s') E s
section
variable(W:bx)(C:Cx)
noncomputable def av(e:Expr)(pe:PE):Prop:=∀env A E s σ p,Pre W C env A σ s->ev W.U pe σ=some p->OZ W env A E s e (fresh pe p) p
noncomputable def du(e:Expr)(t:PT):Prop:=∀env A E s σ b,Pre W C env A σ s->aZ W.U t σ=some b->VJ W env A E s e b
noncomputable def kj(e:Option Expr)(o:PO):Prop:=∀env A E s σ k,Pre W C env A σ s->tV W.U o σ=some k->Al (Af W.prog W.w) A (evalPart e env) (fun v s'=>J4 v k/\KG s s') E s
noncomputable def ll(es:List Expr)(VK:kc):Prop:=∀env A E s σ ps,Pre W C env A σ s->tW W.U VK σ=some ps->∀pos,Al (Af W.prog W.w) A (spliced (J5 pos (B1 es env))) (fun vs s'=>KG s s'/\∃ns,ao s'.heap ps vs ns) E s
end
section
variable{W:bx}{C:Cx}
inductive OB{α β:Type}(x:Option α)(f:α->Option β)(y:β):Prop
 |mk (a:α) (h:x=some a) (k:f a=some y):OB x f y
inductive OM{α β:Type}(x:Option α)(f:α->β)(y:β):Prop
 |mk (a:α) (h:x=some a) (k:f a=y):OM x f y
theorem wG{α β:Type}{x:Option α}{f:α->Option β}{y:β}(h:x.bind f=some y):OB x f y:=let⟨a,h1,h2⟩:=Fh.mp h;⟨a,h1,h2⟩
theorem oB{α β:Type}{x:Option α}{f:α->Option β}{y:β}{G:Prop}(h:x.bind f=some y)(k:∀a,x=some a->f a=some y->G):G:=(Fh.mp h).elim fun a q=>k a q.1 q.2
theorem dk{α β:Type}{x:Option α}{f:α->β}{y:β}(h:x.map f=some y):OM x f y:=let⟨a,h1,h2⟩:=Bp.mp h;⟨a,h1,h2⟩
theorem av.cInt{i:Int}{k:Nat}{pos:B0}:av W C (.Constant (.int i) k pos) (.lit (.int i)):=fun env A E s σ p P e=>by
 obtain rfl:=Aa e;exact Fv (.ba (wZ ..) (.int ..))
theorem av.cStr{x:Str}{l:List Nat}{k:Nat}{pos:B0}(h:x=mkStr l):av W C (.Constant (.str x) k pos) (.lit (.str l)):=fun env A E s σ p P e=>by
 obtain rfl:=Aa e;subst h;exact Dt (.ba (wZ ..) (.str ..))
theorem av.cBool{b:Bool}{k:Nat}{pos:B0}:av W C (.Constant (.bool b) k pos) (.lit (.bool b)):=fun env A E s σ p P e=>by
 obtain rfl:=Aa e;exact wpAny_Constant_bool (.ba (jG _) (.bool _))
theorem av.va{k:Nat}{pos:B0}:av W C (.Constant .none k pos) (.lit .none):=fun env A E s σ p P e=>by
 obtain rfl:=Aa e;exact wpAny_Constant_none (.ba (jG _) .none)
theorem zS{prog:Program}{w:Co}{A:Am}{E:Value->Ab->Prop}{s:Ab}{env:Dy}{x:Str}{v:Value}{Q:Value->Ab->Prop}(hk:env.scope.kind= .function)(a:Acc env s.heap x v)(h:Q v s)
  (hn:(x==("__classdict__" :Str))=false):Al (Af prog w) A (loadName env x) Q E s:=by
 rcases a with⟨hl,m,hm,hv⟩|⟨hl|hl,c,hc,hv⟩
 ·exact wpAny_loadName_local hk hl hm hv h
 ·exact wpAny_loadName_cell hk hl hc hv h
 ·exact wpAny_loadName_free hk hl hc hv h hn
theorem av.var{x:Str}{i:Nat}{pos:B0}{k:Dd}(hk:C.kn.lookup x=some k)(hb:u9 k=true)(hi:C.Γ.lookup x=some i)
  (hd:(x==("__debug__" :Str))=false) (hn:(x==("__classdict__" :Str))=false):av W C (.Name x pos) (.var i):=fun env A E s σ p P e=>by
 refine oB e fun q e1 e2=>?_
 have e2:q=some p:=e2
 subst e2
 refine dZ (P.rd x i p k hk hb hi e1) fun v ns a r=>?_
 refine Bq (zS P.kind a ⟨jG _,ns,r,fun hf=>?_⟩ hn) hd
 have hp:p.ba=true:=by cases p<;>first|rfl|exact ft hf
 rw[r.aC hp];exact wN.nil _
theorem av.dt{x:Str}{i:Int}{t:Js}{pos:B0}(hk:C.kn.lookup x=some .globalImplicit)(hg:W.mg x=some (.int i t))(hd:(x==("__debug__" :Str))=false):
  av W C (.Name x pos) (.lit (.int i)):=fun env A E s σ p P e=>by
 obtain rfl:=Aa e
 refine A6 P.kind (by unfold Be;rw[P.names];exact hk) (Dk ?_ hg (.ba (jG _) (.int ..))) hd
 rw[P.gl];exact W.g P.wd
theorem zE{prog:Program}{w:Co}{A:Am}{E:Value->Ab->Prop}{α:Type}{s:Ab}{t:Ks α}{f:α->Ab->Prop}{Q:α->Ab->Prop}(h:Al (Af prog w) A t f E s)(k:∀a s',f a s'->Q a s'):
  Al (Af prog w) A t Q E s:=Bu h k fun _ _ e=>e
theorem VL{a b:Int}(ha:wC a=true)(hb:wC b=true):IntMulOk a b:=by
 unfold wC at ha hb
 simp only[Az,decide_eq_true_eq]at ha hb
 have q:Ff a<=64:=intBits_le_64 (by lia) (by exact yK)
 unfold IntMulOk
 have:decide (Ff a>shortFactorBits)=false:=decide_eq_false (by refine(?_:¬(Ff a>64));exact Hs ‹_›)
 rw[this];simp
theorem GQ(a b:List Nat):(⟨a.toArray⟩:Str)++⟨b.toArray⟩=⟨(a++b).toArray⟩:=by
 refine(?_:Str.mk (a.toArray++b.toArray)=_)
 simp
theorem VM{a b:List Nat}{t u:Js}{s s₀:Ab}{bb:Bool}(k:KG s₀ s)(hl:a.length+b.length<=ag):
  (if((⟨a.toArray⟩:Str).length==0)=true then Made.val (.str ⟨b.toArray⟩ u)else if((⟨b.toArray⟩:Str).length==0)=true then Made.val (.str ⟨a.toArray⟩ t)else Made.str (⟨a.toArray⟩++⟨b.toArray⟩)).post (Got s₀ bb (.str (a++b))) s:=by
 have la:(⟨a.toArray⟩:Str).length=a.length:=by simp[Cf]
 have lb:(⟨b.toArray⟩:Str).length=b.length:=by simp[Cf]
 refine af la ?_
 refine af lb ?_
 by_cases h1:(a.length==0)=true
 ·refine af (if_pos h1) ?_
  have:a=[]:=by simpa using h1
  subst this
  exact Got.ba k (.str ..)
 ·refine af (if_neg h1) ?_
  by_cases h2:(b.length==0)=true
  ·refine af (if_pos h2) ?_
   have:b=[]:=by simpa using h2
   subst this
   refine af (Bx ..) ?_
   exact Got.ba k (.str ..)
  ·refine af (if_neg h2) ?_
   refine bZ ?_ ?_
   ·refine af (GQ ..) ?_;simp only[Cf,A3,Ah]
    refine af Bo ?_;exact hl
   ·refine af (GQ ..) ?_;exact Got.ba (zI k (wZ ..)) (.str ..)
theorem O0(a:List Nat):∀(n:Nat) (acc:Array Nat),(A0 n a.toArray).foldl (· ++ ·) acc=acc++(A0 n a).flatten.toArray
 |0,acc=>by simp
 |n+1,acc=>by
  refine af Di ?_
  refine af F3 ?_
  refine af (O0 a n ..) ?_
  refine af Di ?_
  refine af List.flatten_cons ?_
  refine af Lq ?_
  simp
theorem VN(a:List Nat)(n:Int):Txt.mul ⟨a.toArray⟩ n=⟨(A0 n.toNat a).flatten.toArray⟩:=by
 unfold Txt.mul
 split
 ·rename_i h
  have:n.toNat=0:=by lia
  refine af this ?_;rfl
 ·rename_i h
  split
  ·rename_i h2
   simp only[Ej,beq_iff_eq]at h2
   rcases h2 with h2|h2
   ·subst h2;simp
   ·have:a=[]:=by simpa[Cf]using h2
    subst this
    have:∀k:Nat,(A0 k ([]:List Nat)).flatten=[]:=fun k=>by simp
    exact af (this ..) rfl
  ·refine af (O0 ..) ?_;simp
end
set_option genInjectivity true
theorem GR{i:Int}:wC i=true↔ -9223372036854775808<=i/\i<9223372036854775808:=by
 unfold wC;simp only[Az,decide_eq_true_eq]
section
variable{prog:Program}{w:Co}{A:Am}{E:Value->Ab->Prop}{s s₀:Ab}{bb:Bool}
theorem VO{l:Addr}{items:Array Value}{x:Int}{u:Js}{Q:Value->Ab->Prop}(hl:s.heap.PlainList l items)
  (O1: -(2^63:Int)<=x) (hhi:x<2^63) (hsz:items.size*x.toNat<=2^24)
  (h:Q (.ref s.heap.objs.size) {s with heap:=s.heap.push {cls:= .type "list",data:= .seq (List.foldl (fun x1 x2=>x1++x2) #[] (A0 (if items.isEmpty=true then 0 else x.toNat) items))} }):
  Al (Af prog w) A (Kv .Mult (.ref l) (.int x u)) Q E s:=by
 refine aH hl fun k hl=>?_
 exact wpAny_binaryOp_repeat_ref (T:= "list") (U:= "int") (by decide) ⟨_,hl,rfl⟩ (fun s'=>typeIs_int s' x u) noFill_list_mul F.fills_int_mul F.slot_int_rmul repeat_list F.slot_int_index.lookup
  (I1 F.slot_int_rmul (typeIs_int s x u) F.entry_int_rmul (F.args_int_rmul_2 _ _) (int___rmul___int_list x u l items k)
   ⟨hl,rfl,⟨_,hl,rfl⟩,I1 F.slot_list_mul ⟨_,hl,rfl⟩ F.entry_list_mul (F.args_list_mul_2 _ _)
    (AutoListH.list___mul___list_int_3 l items k x u (by simp[Builtin.List.listFitsIndex];lia) (by exact yR) (by simp[Builtin.List.listTooLong,sizeLine];assumption))
    ⟨hl,h⟩⟩)
theorem O2(v:Value):∀(n:Nat) (acc:Array Value),(A0 n #[v]).foldl (· ++ ·) acc=acc++(A0 n v).toArray
 |0,acc=>by simp
 |n+1,acc=>by
  refine af Di ?_
  refine af F3 ?_
  refine af (O2 v n ..) ?_
  refine af Di ?_
  refine af Lq ?_
  apply Array.toList_inj.mp
  simp
theorem VP(v:Value)(n:Nat):List.foldl (fun x1 x2=>x1++x2) #[] (A0 (if([v]:List Value).toArray.isEmpty=true then 0 else n) ([v]:List Value).toArray)=(A0 n v).toArray:=by
 rw[if_neg (by simp)]
 have:=O2 v n #[]
 simpa using this
theorem ao.replicate{h:Ap}{p:PV}{v:Value}(x:VR h p v []):∀n:Nat,ao h (A0 n p) (A0 n v) []
 |0=> .nil
 |n+1=>by rw[Di,Di];exact ao.cons x (ao.replicate x n)
theorem VR.gr{h:Ap}{ps:List PV}{vs:List Value}{ns:List Addr}(x:ao h ps vs ns):VR (h.push {cls:= .type "list",data:= .seq vs.toArray}) (.list ps) (.ref h.objs.size) (h.objs.size::ns):=
 .list ⟨0,Av _ rfl⟩ (x.sub fun _ _ e=>Ag _ e)
theorem GU(h:Ap):h.get? h.objs.size=none:=by
 cases e:h.get? h.objs.size with
 |none=>rfl
 |some o=>exact absurd (Bm e) (Jk _)
theorem vc{h:Ap}{a:Addr}(ha:h.objs.size<=a):h.get? a=none:=by
 cases e:h.get? a with
 |none=>rfl
 |some o=>exact absurd (Bm e) (Ew.mpr ha)
theorem ny{h h':Ap}{a:Addr}(k:Sub h h')(x:h'.get? a=none):h.get? a=none:=by
 cases e:h.get? a with
 |none=>rfl
 |some o=>rw[k a o e]at x;exact sn x
theorem AW{ps:List PV}{vs:List Value}{ns:List Addr}(k:KG s₀ s)(x:ao s.heap ps vs ns)(hp:bb=true->ns=[]):
  Got s₀ bb (.list ps) (.ref s.heap.objs.size) {s with heap:=s.heap.push {cls:= .type "list",data:= .seq vs.toArray} }:=by
 refine⟨zI k (pT s _ s.toks),_,VR.gr x,fun hb=>?_⟩
 rw[hp hb]
 exact⟨by simp,fun a ha=>by rw[Ae.mp ha];exact ny (zV k) (GU _)⟩
theorem PV.kq{p:PV}{a:Bool}(e:p.bool?=some a):p= .bool a:=by
 cases p with
 |bool b=>exact congrArg PV.bool (Aa e)
 |_=>exact nn e
theorem PV.cX{p:PV}{a:List PV}(e:p.dM=some a):p= .list a:=by
 cases p with
 |list b=>exact congrArg PV.list (Aa e)
 |_=>exact nn e
@[elab_as_elim] theorem VR.pW {h:Ap} {p:PV} {v:Value} {ns:List Addr} {a:Bool} {M:Value->List Addr->Prop} (x:VR h p v ns) (e:p.bool?=some a) (k:M (.bool a) []):M v ns:=VR.pR (M:=M) (PV.kq e▸x) k
@[elab_as_elim] theorem VR.iu {h:Ap} {p:PV} {v:Value} {ns:List Addr} {a:List PV} {M:Value->List Addr->Prop} (x:VR h p v ns) (e:p.dM=some a) (k:∀b vs ms,h.PlainList b vs.toArray->ao h a vs ms->M (.ref b) (b::ms)):M v ns:=VR.cW (M:=M) (PV.cX e▸x) k
theorem n7{α:Type}{l:List α}{a:α}(e:one l=some a):l=[a]:=
 match l,e with
 |[_],e=>congrArg (fun x=> [x]) (Aa e)
 |[],e=>nn e
 |_::_::_,e=>nn e
theorem rb{α:Type}{c:Prop}[Decidable c]{x:Option α}{r:α}(e:(if c then x else none)=some r):c/\x=some r:=by
 by_cases h:c
 ·rw[if_pos h]at e;exact⟨h,e⟩
 ·rw[if_neg h]at e;exact nn e
theorem oI{α:Type}{c:Prop}[Decidable c]{x:Option α}{r:α}{G:Prop}(e:(if c then x else none)=some r)(k:c->x=some r->G):G:=k (rb e).1 (rb e).2
theorem VQ{α:Type}{c:Prop}[Decidable c]{x:Option α}{r:α}(e:(if c then none else x)=some r):¬c/\x=some r:=by
 by_cases h:c
 ·rw[if_pos h]at e;exact nn e
 ·rw[if_neg h]at e;exact⟨h,e⟩
theorem b2{a b:Bool}(h:(a&&b)=true):a=true/\b=true:=Ba.mp h
@[elab_as_elim] theorem vd {h:Ap} {x y r:PV} {v u:Value} {ns ms:List Addr} {f:Int->Int->Option Int} {M:PV->Value->Value->Prop} (hx:VR h x v ns) (hy:VR h y u ms) (e:tP f x y=some r)
  (k:∀a b c t t',f a b=some c->M (.int c) (.int a t) (.int b t')):M r v u:=by
 refine oB e fun a e1 e=>?_
 refine oB e fun b e2 e=>?_
 obtain⟨c,e3,rfl⟩:=dk e
 exact hx.dt e1 (M:=fun v _=>M _ v u) fun t=>hy.dt e2 (M:=fun u _=>M _ _ u) fun t'=>k a b c t t' e3
theorem VS{a:List Nat}{n:Int}(h1:n.toNat*a.length<=ag\/a.length*n.toNat<=ag)(hn:0<n):¬((2^63-1:Int)/n<a.length):=fun h5=>by
 have h6:=(Int.ediv_lt_iff_lt_mul hn).mp h5
 have hl:a.length*n.toNat<=16777216:=h1.elim (fun h=>by rw[Nat.mul_comm];exact h) id
 have e1:((a.length*n.toNat:Nat):Int)<=16777216:=E6.mpr hl
 rw[Int.natCast_mul,Im (Iv hn)]at e1
 lia
theorem VT{x y r:PV}{v u:Value}{ns ms:List Addr}(k:KG s₀ s)(hx:VR s.heap x v ns)(hy:VR s.heap y u ms)(e:OU x y=some r)
  (tX:bb=true->∀l,r= .list l->l.all PV.ba=true):Al (Af prog w) A (Kv .Add v u) (Got s₀ bb r) E s:=by
 cases x with
 |int a=>
  refine hx.d0 fun t=>?_
  refine oB e fun b e1 e2=>?_
  obtain rfl:=Aa e2
  exact hy.dt e1 fun t=>P.add_int (.ba (zI k (wZ ..)) (.int ..))
 |str a=>
  refine hx.eW fun t=>?_
  refine oB e fun b e1 e2=>?_
  refine oI e2 fun hl e2=>?_
  obtain rfl:=Aa e2
  exact hy.il e1 fun t=>P.add_str (VM k hl)
 |list VU=>
  refine hx.cW fun a1 VV VW nz tY=>?_
  refine oB e fun b e1 e2=>?_
  refine oI e2 fun hl e2=>?_
  obtain rfl:=Aa e2
  refine hy.iu e1 fun c us ms nA tZ=>?_
  refine aH nz fun n1 h1=>?_
  refine aH nA fun n2 h2=>?_
  refine P.add_list h1 h2 ?_ (by(refine af A3 ?_;refine af A3 ?_;refine af tY.length ?_;refine af tZ.length ?_;refine af Bo ?_);exact hl)
  refine af (List.append_toArray ..) ?_
  exact AW k (ao.append tY tZ) fun hb=>ao.aC (ao.append tY tZ) (tX hb _ rfl)
 |_=>exact nn e
theorem VX{x y r:PV}{v u:Value}{ns ms:List Addr}(k:KG s₀ s)(hx:VR s.heap x v ns)(hy:VR s.heap y u ms)(e:OV x y=some r):Al (Af prog w) A (Kv .Mult v u) (Got s₀ bb r) E s:=by
 cases x with
 |int a=>
  refine hx.d0 fun t=>?_
  refine oB e fun b e1 e2=>?_
  refine oI e2 fun hl e2=>?_
  obtain rfl:=Aa e2
  exact hy.dt e1 fun t=>P.mul_int (.ba (zI k (wZ ..)) (.int ..)) (VL (b2 hl).1 (b2 hl).2)
 |str a=>
  refine hx.eW fun t=>?_
  refine oB e fun n e1 e2=>?_
  refine oI e2 fun hl e2=>?_
  obtain rfl:=Aa e2
  have AX:=of_decide_eq_true (b2 hl).2
  have la:(⟨a.toArray⟩:Str).length=a.length:=by simp[Cf]
  refine hy.dt e1 fun t=>SB.mul ⟨?_,?_,?_⟩ fun t' k'=>?_
  ·refine aq (GR.mp (b2 hl).1) fun h3 h4=>?_
   rw[E7];exact⟨decide_eq_false (by exact Lr.mpr yH),decide_eq_false (by exact Int.not_le.mpr yF)⟩
  ·intro h1 h2 O3
   rw[la]at O3
   by_cases hn:0<n
   ·exact VS (.inr AX) hn O3
   ·lia
  ·intro h1 h2
   refine af la ?_
   simp only[Ld,Bo];exact decide_eq_false (Ew.mpr AX)
  ·refine af (VN ..) ?_;exact .ba (zI k (wZ ..)) (.str ..)
 |list VU=>
  refine hx.cW fun a1 VV VW cj bf=>?_
  refine oB e fun n e1 e2=>?_
  refine oI e2 fun hl e2=>?_
  obtain rfl:=Aa e2
  simp only[Az,decide_eq_true_eq,beq_iff_eq]at hl
  refine aq hl fun bJ h4=>?_
  refine aq bJ fun bJ h3=>?_
  obtain⟨h1,h2⟩:=bJ
  refine aH (J6.mp h1) fun p aM=>?_
  subst aM
  revert cj
  refine bf.lX fun v hv cj=>?_
  have:=hv.aC h2
  subst this
  refine hy.dt e1 fun t=>VO cj (by exact yH) (by exact yG) (by simp;exact yE) ?_
  refine af (VP ..) ?_
  exact AW k (ao.replicate hv _) fun _=>rfl
 |_=>exact nn e
theorem VY{op:Ia}{x y r:PV}{v u:Value}{ns ms:List Addr}(k:KG s₀ s)(hx:VR s.heap x v ns)(hy:VR s.heap y u ms)(e:AS op x y=some r)
  (tX:bb=true->∀l,r= .list l->l.all PV.ba=true):Al (Af prog w) A (Kv op v u) (Got s₀ bb r) E s:=by
 have ki:∀{i:Int} {t:Nat},Got s₀ bb (.int i) (.int i t) {s with toks:=t+1}:= .ba (zI k (wZ ..)) (.int ..)
 cases op with
 |Add=>exact VT k hx hy e tX
 |Mult=>exact VX k hx hy e
 |Sub=>
  refine vd hx hy e fun a b c t t' e=>?_
  obtain rfl:=Aa e
  exact P.sub_int ki
 |FloorDiv=>
  refine vd hx hy e fun a b c t t' e=>?_
  refine oI e fun hl e=>?_
  obtain rfl:=Aa e
  have h2:=of_decide_eq_true (b2 hl).1
  refine PyProof.Rows.floordiv_int (Int.ne_of_gt h2) ?_ (Or.inl (J7 (by have:=of_decide_eq_true (b2 hl).2;lia)))
  refine af (Int.fdiv_eq_ediv_of_nonneg _ (Iv h2)) ?_
  exact ki
 |Mod=>
  refine vd hx hy e fun a b c t t' e=>?_
  refine oI e fun hl e=>?_
  obtain rfl:=Aa e
  have h2:=of_decide_eq_true hl
  refine PyProof.Rows.mod_int (Int.ne_of_gt h2) ?_
  refine af (Int.fmod_eq_emod_of_nonneg _ (Iv h2)) ?_
  exact ki
 |Pow=>
  refine vd hx hy e fun a b c t t' e=>?_
  refine oI e fun hl e=>?_
  obtain rfl:=Aa e
  refine aq (b2 hl) fun hl h3=>?_
  refine aq (b2 hl) fun h1 h2=>?_
  obtain rfl:=of_decide_eq_true h1
  have h2:=of_decide_eq_true h2
  have h3:=of_decide_eq_true h3
  refine PyProof.Rows.pow_int h2 ?_ ki
  have h5:(Ff 2:Int)<=64:=E6.mpr (intBits_le_64 (by decide) (by decide))
  have h6:(Ff 2:Int)*b<=64*60:=Int.mul_le_mul h5 h3 h2 (by decide)
  exact yE
 |_=>exact nn e
end
section
variable{prog:Program}{w:Co}{A:Am}{E:Value->Ab->Prop}{s s₀:Ab}{bb:Bool}
theorem VZ{x y:PV}{v u:Value}{ns ms:List Addr}{b:Bool}(hx:VR s.heap x v ns)(hy:VR s.heap y u ms)(e:OW x y=some b)(A':Am):Mq A' s v u b:=by
 cases hx with
 |int a t=>obtain⟨c,e1,rfl⟩:=dk e;exact hy.dt e1 fun _=>(MeetsSeq.EqGives.int _ _ _ _).at _ _
 |str a t=>obtain⟨c,e1,rfl⟩:=dk e;exact hy.il e1 fun _=>(Kk _ _ _ _).at _ _
 |_=>exact nn e
noncomputable def AY(s:Ab)(vs us:List Value)(b:Bool):Prop:=∃e:Nat->Bool,(∀j (h1:j<vs.length) (h2:j<us.length),∀A',Mq A' s vs[j] us[j] (e j))/\(Au vs.length).all e=b
theorem AY.cons{s:Ab}{v u:Value}{vs us:List Value}{x y:Bool}(h0:∀A',Mq A' s v u x)(h:AY s vs us y):AY s (v::vs) (u::us) (x&&y):=by
 refine aB h fun e h1 h2=>?_
 refine i12 (fun j=>Nat.casesOn j x e) (fun j=>?_) ?_
 ·cases j with
  |zero=>exact fun _ _=>h0
  |succ j=>exact fun h3 h4=>h1 j (Hc h3) (Hc h4)
 ·(refine af Cg ?_;refine af List.range_succ_eq_map ?_;refine af Lj ?_;refine af Hd ?_;refine cw h2 ?_);rfl
theorem O4:∀{xs ys:List PV} {vs us:List Value} {ns ms:List Addr} {b:Bool},ao s.heap xs vs ns->ao s.heap ys us ms->tQ xs ys=some b->AY s vs us b:=by
 intro xs
 induction xs with
 |nil=>
  intro ys vs us ns ms b hx hy h
  cases ys with
  |nil=>
   refine hx.lW (hy.lW ?_)
   obtain rfl:=Aa h
   exact i12 (fun _=>true) (fun j h1=>absurd h1 (F2 _)) rfl
  |cons=>exact nn h
 |cons x xs ih=>
  intro ys vs us ns ms b hx hy h
  cases ys with
  |nil=>exact nn h
  |cons y ys=>
   refine oB h fun c e1 h=>?_
   obtain⟨d,e2,rfl⟩:=dk h
   exact hx.fq fun v n us ms hv hs=>hy.fq fun _ _ _ _ hu ht=> .cons (VZ hv hu e1) (ih hs ht e2)
noncomputable def GB(s₀:Ab)(b:Bool)(r:Value)(s':Ab):Prop:=r= .bool b/\KG s₀ s'
theorem V0{x y:PV}{v u:Value}{ns ms:List Addr}{b:Bool}(k:KG s₀ s)(hx:VR s.heap x v ns)(hy:VR s.heap y u ms)(hu:A.units<cLine)(e:vEq x y=some b):Al (Af prog w) A (Lb .Eq v u) (GB s₀ b) E s:=by
 cases hx with
 |int a t=>obtain⟨c,e1,rfl⟩:=dk e;exact hy.dt e1 fun _=>P.eq_int ⟨rfl,k⟩
 |str a t=>obtain⟨c,e1,rfl⟩:=dk e;exact hy.il e1 fun _=>P.eq_str ⟨rfl,k⟩
 | @list _ ps _ _ hl hs=>
  refine oB e fun c e1 e=>?_
  refine hy.iu e1 fun d us ms gI dq=>?_
  have l1:=hs.length
  have l2:=dq.length
  by_cases hlen:(ps.length==c.length)=true
  ·rw[if_pos hlen]at e
   refine aB (O4 hs dq e) fun f h1 h2=>?_
   refine SeqAt.eq_listAt hl.isList gI.isList (by simp[l1,l2,beq_iff_eq.mp hlen]) hu (e:=f) (fun j h3 h4=>?_) ⟨?_,k⟩
   ·simpa using h1 j (by exact h3) (by exact h4) A.in1
   ·rw[A3,h2]
  ·rw[if_neg hlen]at e
   obtain rfl:=Aa e
   refine SeqAt.eq_list_lengthsAt hl.isList gI.isList ?_ hu ⟨rfl,k⟩
   rw[A3,A3,l1,l2,bne_iff_ne]
   exact fun q=>hlen (beq_iff_eq.mpr q)
 |_=>exact nn e
theorem V1{x y:PV}{v u:Value}{ns ms:List Addr}{b:Bool}(k:KG s₀ s)(hx:VR s.heap x v ns)(hy:VR s.heap y u ms)(hu:A.units<cLine)(e:vEq x y=some b):Al (Af prog w) A (Lb .NotEq v u) (GB s₀ !b) E s:=by
 cases hx with
 |int a t=>obtain⟨c,e1,rfl⟩:=dk e;exact hy.dt e1 fun _=>P.ne_int ⟨rfl,k⟩
 |str a t=>obtain⟨c,e1,rfl⟩:=dk e;exact hy.il e1 fun _=>P.ne_str ⟨rfl,k⟩
 | @list _ ps _ _ hl hs=>
  refine oB e fun c e1 e=>?_
  refine hy.iu e1 fun d us ms gI dq=>?_
  have l1:=hs.length
  have l2:=dq.length
  by_cases hlen:(ps.length==c.length)=true
  ·rw[if_pos hlen]at e
   refine aB (O4 hs dq e) fun f h1 h2=>?_
   refine L6 (SeqAt.RcNeAt.lists hl.isList gI.isList (by simp[l1,l2,beq_iff_eq.mp hlen]) hu (e:=f) (fun j h3 h4=>?_)) ⟨?_,k⟩
   ·simpa using h1 j (by exact h3) (by exact h4) A.in1
   ·rw[A3,h2]
  ·rw[if_neg hlen]at e
   obtain rfl:=Aa e
   refine L6 (SeqAt.RcNeAt.lists_lengths hl.isList gI.isList ?_ hu) ⟨rfl,k⟩
   rw[A3,A3,l1,l2,bne_iff_ne]
   exact fun q=>hlen (beq_iff_eq.mpr q)
 |_=>exact nn e
@[elab_as_elim] theorem AZ {h:Ap} {x y:PV} {v u:Value} {ns ms:List Addr} {f:Int->Int->Bool} {b:Bool} {M:Bool->Value->Value->Prop} (hx:VR h x v ns) (hy:VR h y u ms) (e:u6 f x y=some b)
  (k:∀a b t t',M (f a b) (.int a t) (.int b t')):M b v u:=by
 refine oB e fun a e1 e=>?_
 obtain⟨c,e2,rfl⟩:=dk e
 exact hx.dt e1 (M:=fun v _=>M _ v u) fun t=>hy.dt e2 (M:=fun u _=>M _ _ u) fun t'=>k a c t t'
@[elab_as_elim] theorem O5 {h:Ap} {x y:PV} {v u:Value} {ns ms:List Addr} {b:Bool} {M:Bool->Value->Value->Prop} (hx:VR h x v ns) (hy:VR h y u ms) (e:GJ x y=some b)
  (k:∀c (l:List Nat) t t',M (l.contains c) (.str ⟨[c].toArray⟩ t) (.str ⟨l.toArray⟩ t')):M b v u:=by
 refine oB e fun a e1 e=>?_
 refine oB e fun c e2 e=>?_
 obtain⟨d,e3,rfl⟩:=dk e
 obtain rfl:=n7 e2
 exact hx.il e1 (M:=fun v _=>M _ v u) fun t=>hy.il e3 (M:=fun u _=>M _ _ u) fun t'=>k c d t t'
@[elab_as_elim] theorem O6 {h:Ap} {x y:PV} {v u:Value} {ns ms:List Addr} {b:Bool} {M:Bool->Value->Value->Prop} (hx:VR h x v ns) (hy:VR h y u ms) (e:GL x y=some b)
  (k:∀a b:Bool,M (a==b) (.bool a) (.bool b)):M b v u:=by
 refine oB e fun a e1 e=>?_
 obtain⟨c,e2,rfl⟩:=dk e
 exact hx.pW e1 (M:=fun v _=>M _ v u) (hy.pW e2 (M:=fun u _=>M _ _ u) (k a c))
theorem PV.i7{p:PV}(e:p.isNone=true):p= .none:=by
 cases p with
 |none=>rfl
 |_=>exact ft e
@[elab_as_elim] theorem VR.pX {h:Ap} {p:PV} {v:Value} {ns:List Addr} {M:Value->List Addr->Prop} (x:VR h p v ns) (e:p.isNone=true) (k:M .none []):M v ns:=VR.lV (M:=M) (PV.i7 e▸x) k
theorem vf{op:CmpOp}{x y:PV}{v u:Value}{ns ms:List Addr}{b:Bool}(k:KG s₀ s)(hx:VR s.heap x v ns)(hy:VR s.heap y u ms)(hu:A.units<cLine)(e:AU op x y=some b):
  Al (Af prog w) A (Lb op v u) (GB s₀ b) E s:=by
 have fo:∀(c:Nat) (l:List Nat),l.contains c=decide (c∈l):=fun c l=>Bz ..
 cases op with
 |Eq=>exact V0 k hx hy hu e
 |NotEq=>obtain⟨c,e1,rfl⟩:=dk e;exact V1 k hx hy hu e1
 |Lt=>exact AZ hx hy e fun _ _ _ _=>P.lt_int ⟨rfl,k⟩
 |LtE=>exact AZ hx hy e fun _ _ _ _=>P.le_int ⟨rfl,k⟩
 |Gt=>exact AZ hx hy e fun _ _ _ _=>P.gt_int ⟨rfl,k⟩
 |GtE=>exact AZ hx hy e fun _ _ _ _=>P.ge_int ⟨rfl,k⟩
 |NotIn=>
  obtain⟨c,e1,rfl⟩:=dk e
  exact O5 hx hy e1 (M:=fun c v u=>Al (Af prog w) A (Lb .NotIn v u) (GB s₀ !c) E s) fun c l t t'=>P.notIn_str ⟨by(refine af (L7 ..) ?_;exact af (fo ..) rfl),k⟩
 |In=>
  cases x with
  |int i=>
   refine oB e fun c e1 e=>?_
   obtain⟨is,e2,rfl⟩:=dk e
   exact hx.d0 fun t=>hy.iu e1 fun b vs ms hl hs=>PyProof.Rows.in_list_ints hl.isList (hs.ints e2) ⟨rfl,k⟩
  |str l=>exact O5 hx hy e fun c l t t'=>P.in_str ⟨by(refine af (L7 ..) ?_;exact af (fo ..) rfl),k⟩
  |_=>exact nn e
 |Is=>
  cases x with
  |none=>obtain⟨h,e⟩:=rb e;obtain rfl:=Aa e;exact hx.lV (hy.pX h (is_none ⟨rfl,k⟩))
  |int=>obtain⟨h,e⟩:=rb e;obtain rfl:=Aa e;exact hx.d0 fun _=>hy.pX h (is_none ⟨rfl,k⟩)
  |bool=>exact O6 hx hy e fun _ _=>is_bool ⟨rfl,k⟩
  |_=>exact nn e
 |IsNot=>
  obtain⟨c,e1,rfl⟩:=dk e
  exact O6 hx hy e1 (M:=fun c v u=>Al (Af prog w) A (Lb .IsNot v u) (GB s₀ !c) E s) fun a c=>wpAny_isNot_plain rfl ⟨by cases a<;>cases c<;>rfl,k⟩
theorem vg{x:PV}{v:Value}{ns:List Addr}{b:Bool}(k:KG s₀ s)(hx:VR s.heap x v ns)(e:qZ x=some b):
  Al (Af prog w) A (truthy v) (fun r s'=>r=b/\KG s₀ s') E s:=by
 cases x with
 |none=>obtain rfl:=Aa e;exact hx.lV (PyProof.Rows.truthy_none ⟨rfl,k⟩)
 |bool=>obtain rfl:=Aa e;exact hx.pR (F8 ⟨rfl,k⟩)
 |int=>obtain rfl:=Aa e;exact hx.d0 fun t=>P.truthy_int ⟨rfl,zI k (jG _)⟩
 |str y=>
  refine hx.eW fun t=>?_
  have e':(if y.length<=16777216 then some (!y.isEmpty)else none)=some b:=e
  refine oI e' fun h1 e'=>?_
  ·obtain rfl:=Aa e'
   have la:(⟨y.toArray⟩:Str).length=y.length:=by simp[Cf]
   refine P.truthy_str (by refine af la ?_;exact yJ) ⟨?_,zI k (wZ ..)⟩
   refine af la ?_
   cases y with
   |nil=>rfl
   |cons a r=>simp;lia
 |obj=>exact nn e
 |list ps=>
  refine hx.cW fun a vs ns hl hs=>?_
  have e':(if ps.length<=16777216 then some (!ps.isEmpty)else none)=some b:=e
  refine oI e' fun h1 e'=>?_
  ·obtain rfl:=Aa e'
   have l1:=hs.length
   refine wpAny_truthy_list hl.isList (by(refine af A3 ?_;refine af l1 ?_);exact yA) ⟨?_,zI k (wZ ..)⟩
   cases ps with
   |nil=>obtain rfl:=Ec l1;rfl
   |cons a r=>
    cases vs with
    |nil=>cases l1
    |cons=>rfl
end
theorem V2(lo:Option Int)(n:Nat):C9 lo n<=n:=by
 unfold C9;split
 ·omega
 ·split<;>omega
theorem V3(hi:Option Int)(n:Nat):Fu hi n<=n:=by
 unfold Fu;split
 ·omega
 ·split<;>omega
theorem V4(lo hi:Option Int)(len:Nat):Cz lo hi 1 len=(Au (Fu hi len-C9 lo len)).map (C9 lo len+ ·):=by
 have h:Cz lo hi 1 len=Gz (Ck lo hi none len).1 (Ck lo hi none len).2.1 1:=by
  cases lo<;>cases hi<;>rfl
 refine af h ?_
 refine af (kms_bounds ..) ?_
 exact sliceRange_one _ _
theorem V5{α:Type}(l:List α)(a k:Nat):((Au k).map (a+ ·)).filterMap (l[·]?)=(l.drop a).take k:=by
 have:=pick_run l.toArray a k
 simpa using this
section
variable{prog:Program}{w:Co}{A:Am}{E:Value->Ab->Prop}{s s₀:Ab}{bb:Bool}
theorem V6{x:List Nat}{t:Js}{lo hi:Option (Int×Js)}(k:KG s₀ s)(hx:x.length<=ag):
  (sliceMade ⟨x.toArray⟩ t lo hi none).post (Got s₀ bb (.str ((x.drop (C9 (lo.map (·.1)) x.length)).take (Fu (hi.map (·.1)) x.length-C9 (lo.map (·.1)) x.length)))) s:=by
 have la:(⟨x.toArray⟩:Str).length=x.length:=by simp[Cf]
 have hp:Kw ⟨x.toArray⟩ lo hi none=(Au (Fu (hi.map (·.1)) x.length-C9 (lo.map (·.1)) x.length)).map (C9 (lo.map (·.1)) x.length+ ·):=by
  unfold Kw
  refine af la ?_;exact V4 _ _ _
 have hf:(Kw ⟨x.toArray⟩ lo hi none).filterMap ((⟨x.toArray⟩:Str).cps[·]?)=(x.drop (C9 (lo.map (·.1)) x.length)).take (Fu (hi.map (·.1)) x.length-C9 (lo.map (·.1)) x.length):=by
  refine af hp ?_
  have:=V5 x (C9 (lo.map (·.1)) x.length) (Fu (hi.map (·.1)) x.length-C9 (lo.map (·.1)) x.length)
  refine cw this ?_
  congr 1
  funext i
  simp
 unfold sliceMade
 split
 ·rename_i h
  simp only[Az,beq_iff_eq]at h
  have h2:=h.2
  rw[hp,la,An,F9]at h2
  have h3:=V3 (hi.map (·.1)) x.length
  have h4:C9 (lo.map (·.1)) x.length=0:=by
   cases x with
   |nil=>exact Nat.le_zero.mp (V2 _ _)
   |cons a r=>simp only[Cg]at*;omega
  have e:(x.drop (C9 (lo.map (·.1)) x.length)).take (Fu (hi.map (·.1)) x.length-C9 (lo.map (·.1)) x.length)=x:=by
   refine af h2 ?_
   refine af h4 ?_
   refine af Dz ?_
   exact af Jt rfl
  refine af e ?_
  exact .ba k (.str ..)
 ·refine af hf ?_
  refine bZ ?_ (.ba (zI k (wZ ..)) (.str ..))
  unfold ag at hx
  simp only[Cf,A3,Cu,Bw,Bo]
  omega
theorem vi{v:Value}{k:Option Int}(p:J4 v k):∃q:Option (Int×Js),v=partValue q/\q.map (·.1)=k:=by
 cases p with
 |none=>exact⟨none,rfl,rfl⟩
 |int i t=>exact⟨some (i,t),rfl,rfl⟩
theorem t6{value slice:Expr}{o i:Value}{T id:String}{Q:Value->Ab->Prop}(hT:s.TypeIs o T)
  (hl:Cq (.type T) "__getitem__" =pure (some (.builtin id))) (h:Al (Af prog w) A (Iw o i) Q E s)
  (hs:∃ops,E8 slice false o i=Jd ops (Iw o i)):
  Al (Af prog w) A (H8 value slice o i) Q E s:=by
 refine aH hs fun ops hs=>?_
 refine Ac ?_
 rw[getitemInPython_of_ne hT.not_modules]
 refine Ac (D4 hT hl ?_)
 have fin:Al (Af prog w) A (E8 slice false o i) (fun r ak=>Al (Af prog w) A (letTemporaryGo value o r>>=fun _=>pure r) Q E ak) E s:=by
  rw[hs]
  exact wpAny_operating (Bu h (fun r ak au=>Ac (wpAny_letTemporaryGo (Ak au))) fun _ _ x=>x)
 first
  |exact Ak (Ac fin)
  |exact Ac (Ak (Ac fin))
  |exact Ac fin
theorem V7{i:Int}{n j:Nat}(h:F6 i n=some j):(0<=i/\j=i.toNat/\j<n)\/(i<0/\-(n:Int)<=i/\j=(i+n).toNat/\j<n):=by
 unfold F6 at h
 by_cases h0:i<0
 ·simp only[h0,if_true]at h
  split at h
  ·rename_i h1;obtain rfl:=Aa h;simp only[Az,decide_eq_true_eq]at h1;exact .inr ⟨h0,by omega,rfl,by omega⟩
  ·exact nn h
 ·simp only[h0,if_false]at h
  split at h
  ·rename_i h1;obtain rfl:=Aa h;simp only[Az,decide_eq_true_eq]at h1;exact .inl ⟨h1.1,rfl,by omega⟩
  ·exact nn h
theorem V8{x y r:PV}{v u:Value}{ns ms:List Addr}{value slice:Expr}(k:KG s₀ s)(hx:VR s.heap x v ns)(hy:VR s.heap y u ms)(e:tS x y=some r)(hb:bb=true->r.ba=true)
  (hs:∀o i,E8 slice false o i=Jd [o,i] (Iw o i)):Al (Af prog w) A (H8 value slice v u) (Got s₀ bb r) E s:=by
 cases x with
 |str s'=>
  cases y with
  |int i=>
   refine oI e fun hf e=>?_
   obtain⟨c,e1,rfl⟩:=dk e
   have hf:=GR.mp hf
   refine hx.eW fun t=>hy.d0 fun u=>?_
   refine t6 (Ht _ _ _) F.slot_str_getitem.lookup ?_ ⟨_,hs _ _⟩
   refine P.getItem_str (c:=c) ?_ ?_ (.ba (zI k (wZ ..)) (.str ..))
   ·rw[E7];exact⟨decide_eq_false (by omega),decide_eq_false (by omega)⟩
   ·have la:∀z:List Nat,(⟨z.toArray⟩:Str).length=z.length:=fun z=>by simp[Cf]
    refine af (la ..) ?_
    refine oB e1 fun j e2 e3=>?_
    refine af e2 ?_;simpa using e3
  |_=>exact nn e
 |list l=>
  cases y with
  |int i=>
   refine oI e fun hf e=>?_
   have hf:=GR.mp hf
   refine oB e fun j e2 e3=>?_
   refine hx.cW fun la vs BA hl bf=>hy.d0 fun u=>?_
   refine da (bf.get e3) fun v' n' e4 e5 _=>?_
   have hT:=hl.isList.typeIs (s:=s)
   have g:Got s₀ bb r v' s:=⟨k,n',e5,fun q=>by refine af (e5.aC (hb q)) ?_;exact wN.nil _⟩
   refine t6 hT Io ?_ ⟨_,hs _ _⟩
   have hlen:=bf.length
   rcases V7 e2 with⟨h0,rfl,h1⟩|⟨h0,h1,rfl,h2⟩
   ·exact wpAny_getItem_list hl.isList h0 (by omega) (by simpa using e4) g
   ·refine wpAny_getItem_list_neg hl.isList h0 (by simp only[A3,hlen];omega) (by omega) ?_ g
    simp only[A3,hlen]
    simpa using e4
  |_=>exact nn e
 |_=>exact nn e
end
section
variable{W:bx}{C:Cx}
theorem BB{e:PE}{p:PV}(h:p.ba=true):fresh e p=true:=by
 cases p<;>first|(cases e<;>rfl)|exact ft h
theorem O7{a b:PE}{p:PV}(h:fresh (.kb a b) p=true):p.ba=true:=by cases p<;>first|rfl|exact ft h
theorem O8{a b:PE}{p:PV}(h:fresh (.gH a b) p=true):p.ba=true:=by cases p<;>first|rfl|exact ft h
theorem O9{c:PT}{a b:PE}{p:PV}(h:fresh (.ite c a b) p=true):p.ba=true:=by cases p<;>first|rfl|exact ft h
theorem V9{a b:PE}{p:PV}(h:fresh (.idx a b) p=true):p.ba=true:=by cases p<;>first|rfl|exact ft h
theorem vj{D:Nat}{A:Am}(R:wO D A):A.units<cLine:=by have:=R.units;lia
theorem Got.from{s aa s':Ab}{b b':Bool}{p:PV}{v:Value}(k:KG s aa)(g:Got aa b' p v s')(hb:b=true->b'=true):Got s b p v s':=by
 obtain⟨k',ns,r,f⟩:=g
 exact⟨zI k k',ns,r,fun h=>(f (hb h)).back (zV k)⟩
theorem av.bin{l r:Expr}{op:Ia}{pos:B0}{a b:PE}(hl:av W C l a)(hr:av W C r b):av W C (.BinOp l op r pos) (.bin op a b):=fun env A E s σ p P e=>by
 refine oB e fun x e1 e=>?_
 refine oB e fun y e2 e3=>?_
 refine wpAny_BinOp (zE (hl env A E s σ x P e1) fun v aa ah=>?_)
 obtain⟨k₁,ns,az,_⟩:=ah
 refine zE (hr env A E aa σ y (P.kp k₁) e2) fun u s₂ ai=>?_
 obtain⟨k₂,ms,aY,_⟩:=ai
 refine VY (zI k₁ k₂) (az.sub (zV k₂)) aY e3 fun hb l q=>?_
 subst q
 exact hb
theorem av.neg{x:Expr}{pos:B0}{a:PE}(hx:av W C x a):av W C (.UnaryOp .USub x pos) (.neg a):=fun env A E s σ p P e=>by
 refine oB e fun y e1 e=>?_
 refine UnaryOp_ (zE (hx env A E s σ y P e1) fun v aa ah=>?_)
 obtain⟨k₁,ns,az,_⟩:=ah
 cases y with
 |int i=>obtain rfl:=Aa e;exact az.d0 fun t=>PySem.P.neg_int (.ba (zI k₁ (wZ ..)) (.int ..))
 |_=>exact nn e
theorem av.cmp{l r:Expr}{op:CmpOp}{pos:B0}{a b:PE}(hl:av W C l a)(hr:av W C r b)(hm:Jl op r=false):av W C (.Compare l [op] [r] pos) (.cmp op a b):=fun env A E s σ p P e=>by
 refine oB e fun x e1 e=>?_
 refine oB e fun y e2 e=>?_
 obtain⟨c,e3,rfl⟩:=dk e
 refine wpAny_Compare1 (zE (hl env A E s σ x P e1) fun v aa ah=>?_) hm
 obtain⟨k₁,ns,az,_⟩:=ah
 refine zE (hr env A E aa σ y (P.kp k₁) e2) fun u s₂ ai=>?_
 obtain⟨k₂,ms,aY,_⟩:=ai
 refine zE (vf (zI k₁ k₂) (az.sub (zV k₂)) aY (vj P.room) e3) fun v ak au=>?_
 refine aq au fun aG bh=>?_
 clear au
 subst aG
 exact .ba bh (.bool _)
theorem av.kb{l r:Expr}{pos:B0}{a b:PE}(hl:av W C l a)(hr:av W C r b):av W C (.BoolOp .And [l,r] pos) (.kb a b):=fun env A E s σ p P e=>by
 refine oB e fun x e1 e=>?_
 refine oB e fun c e2 e=>?_
 refine BoolOp_and (zE (hl env A E s σ x P e1) fun v aa ah=>?_)
 obtain⟨k₁,ns,az,_⟩:=ah
 refine zE (vg (jG _) az e2) fun c' s₂ ai=>?_
 refine aq ai fun aG k₂=>?_
 clear ai
 subst aG
 cases c' with
 |false=>
  have e:some x=some p:=e
  obtain rfl:=Aa e
  refine⟨zI k₁ k₂,ns,az.sub (zV k₂),fun hf=>?_⟩
  rw[az.aC (O7 hf)];exact wN.nil _
 |true=>
  have e:ev W.U b σ=some p:=e
  exact zE (hr env A E s₂ σ p ((P.kp k₁).kp k₂) e) fun u ak au=>au.from (zI k₁ k₂) fun hf=>BB (O7 hf)
theorem av.gH{l r:Expr}{pos:B0}{a b:PE}(hl:av W C l a)(hr:av W C r b):av W C (.BoolOp .Or [l,r] pos) (.gH a b):=fun env A E s σ p P e=>by
 refine oB e fun x e1 e=>?_
 refine oB e fun c e2 e=>?_
 refine BoolOp_or (zE (hl env A E s σ x P e1) fun v aa ah=>?_)
 obtain⟨k₁,ns,az,_⟩:=ah
 refine zE (vg (jG _) az e2) fun c' s₂ ai=>?_
 refine aq ai fun aG k₂=>?_
 clear ai
 subst aG
 cases c' with
 |true=>
  have e:some x=some p:=e
  obtain rfl:=Aa e
  refine⟨zI k₁ k₂,ns,az.sub (zV k₂),fun hf=>?_⟩
  rw[az.aC (O8 hf)];exact wN.nil _
 |false=>
  have e:ev W.U b σ=some p:=e
  exact zE (hr env A E s₂ σ p ((P.kp k₁).kp k₂) e) fun u ak au=>au.from (zI k₁ k₂) fun hf=>BB (O8 hf)
theorem du.cmp{l r:Expr}{op:CmpOp}{pos:B0}{a b:PE}(hl:av W C l a)(hr:av W C r b)(hm:Jl op r=false):du W C (.Compare l [op] [r] pos) (.cmp op a b):=fun env A E s σ c P e=>by
 refine oB e fun x e1 e=>?_
 refine oB e fun y e2 e3=>?_
 refine F7 (zE (hl env A E s σ x P e1) fun v aa ah=>?_) hm
 obtain⟨k₁,ns,az,_⟩:=ah
 refine zE (hr env A E aa σ y (P.kp k₁) e2) fun u s₂ ai=>?_
 obtain⟨k₂,ms,aY,_⟩:=ai
 refine zE (vf (zI k₁ k₂) (az.sub (zV k₂)) aY (vj P.room) e3) fun v ak au=>?_
 refine aq au fun aG bh=>?_
 clear au
 subst aG
 exact F8 ⟨rfl,bh⟩
theorem du.not{x:Expr}{pos:B0}{t:PT}(h:du W C x t):du W C (.UnaryOp .Not x pos) (.not t):=fun env A E s σ c P e=>by
 obtain⟨b,e1,rfl⟩:=dk e
 exact wpAny_isTrue_Not (zE (h env A E s σ b P e1) fun b' aa ah=>⟨by rw[ah.1],ah.2⟩)
noncomputable def n8(W:bx)(C:Cx)(es:List Expr)(ts:eC):Prop:=∀env A E s σ b,Pre W C env A σ s->u7 W.U true ts σ=some b->Al (Af W.prog W.w) A (allTrue .And es env) (fun b' s'=>b'=b/\KG s s') E s
noncomputable def n9(W:bx)(C:Cx)(es:List Expr)(ts:eC):Prop:=∀env A E s σ b,Pre W C env A σ s->u7 W.U false ts σ=some b->Al (Af W.prog W.w) A (allTrue .Or es env) (fun b' s'=>b'=b/\KG s s') E s
theorem n8.nil:n8 W C [] .nil:=fun env A E s σ b P e=>by obtain rfl:=Aa e;exact wpAny_allTrue_And_nil ⟨rfl,jG _⟩
theorem n8.cons{x:Expr}{es:List Expr}{t:PT}{ts:eC}(h:du W C x t)(hs:n8 W C es ts):n8 W C (x::es) (.cons t ts):=fun env A E s σ b P e=>by
 refine oB e fun c e1 e=>?_
 refine wpAny_allTrue_And_cons (zE (h env A E s σ c P e1) fun b' aa ah=>?_)
 refine aq ah fun aG k₁=>?_
 clear ah
 subst aG
 cases b' with
 |true=>exact zE (hs env A E aa σ b (P.kp k₁) e) fun oe s₂ ai=>⟨ai.1,zI k₁ ai.2⟩
 |false=>
  have e:some false=some b:=e
  obtain rfl:=Aa e
  exact bZ rfl k₁
theorem n9.nil:n9 W C [] .nil:=fun env A E s σ b P e=>by obtain rfl:=Aa e;exact wpAny_allTrue_Or_nil ⟨rfl,jG _⟩
theorem n9.cons{x:Expr}{es:List Expr}{t:PT}{ts:eC}(h:du W C x t)(hs:n9 W C es ts):n9 W C (x::es) (.cons t ts):=fun env A E s σ b P e=>by
 refine oB e fun c e1 e=>?_
 refine Ho (zE (h env A E s σ c P e1) fun b' aa ah=>?_)
 refine aq ah fun aG k₁=>?_
 clear ah
 subst aG
 cases b' with
 |false=>exact zE (hs env A E aa σ b (P.kp k₁) e) fun oe s₂ ai=>⟨ai.1,zI k₁ ai.2⟩
 |true=>
  have e:some true=some b:=e
  obtain rfl:=Aa e
  exact bZ rfl k₁
theorem du.and{es:List Expr}{ts:eC}{pos:B0}(h:n8 W C es ts):du W C (.BoolOp .And es pos) (.and ts):=fun env A E s σ b P e=>Ip (h env A E s σ b P e)
theorem du.or{es:List Expr}{ts:eC}{pos:B0}(h:n9 W C es ts):du W C (.BoolOp .Or es pos) (.or ts):=fun env A E s σ b P e=>Ip (h env A E s σ b P e)
theorem du.eO{x:Expr}{a:PE}(h:av W C x a)(he:∀env whole,Lp x env whole=(do let v<-whole;Lc x.pos;holding [v] (truthy v))):du W C x (.eO a):=fun env A E s σ b P e=>by
 refine oB e fun y e1 e2=>?_
 refine wpAny_isTrue_value (zE (h env A E s σ y P e1) fun v aa ah=>?_) (he _ _)
 obtain⟨k₁,ns,az,_⟩:=ah
 exact vg k₁ az e2
theorem av.ite{t x y:Expr}{pos:B0}{c:PT}{a b:PE}(ht:du W C t c)(hx:av W C x a)(hy:av W C y b):av W C (.IfExp t x y pos) (.ite c a b):=fun env A E s σ p P e=>by
 refine oB e fun q e1 e=>?_
 refine wpAny_IfExp (zE (ht env A E s σ q P e1) fun b' aa ah=>?_)
 refine aq ah fun aG k₁=>?_
 clear ah
 subst aG
 cases b' with
 |true=>
  have e:ev W.U a σ=some p:=e
  exact zE (hx env A E aa σ p (P.kp k₁) e) fun u ak au=>au.from k₁ fun hf=>BB (O9 hf)
 |false=>
  have e:ev W.U b σ=some p:=e
  exact zE (hy env A E aa σ p (P.kp k₁) e) fun u ak au=>au.from k₁ fun hf=>BB (O9 hf)
theorem av.idx{x i:Expr}{pos:B0}{a b:PE}(hx:av W C x a)(hi:av W C i b)(hs:∀o v,E8 i false o v=Jd [o,v] (Iw o v)):av W C (.Subscript x i pos) (.idx a b):=fun env A E s σ p P e=>by
 refine oB e fun y e1 e=>?_
 refine oB e fun z e2 e3=>?_
 refine Ls (zE (hx env A E s σ y P e1) fun v aa ah=>?_)
 obtain⟨k₁,ns,az,_⟩:=ah
 refine zE (hi env A E aa σ z (P.kp k₁) e2) fun u s₂ ai=>?_
 obtain⟨k₂,ms,aY,_⟩:=ai
 refine V8 (zI k₁ k₂) (az.sub (zV k₂)) aY e3 V9 hs
theorem kj.no:kj W C none .no:=fun env A E s σ k P e=>by obtain rfl:=Aa e;exact Ak ⟨.none,jG _⟩
theorem kj.yes{x:Expr}{a:PE}(hx:av W C x a):kj W C (some x) (.yes a):=fun env A E s σ k P e=>by
 refine oB e fun y e1 e=>?_
 refine zE (hx env A E s σ y P e1) fun v aa ah=>?_
 obtain⟨k₁,ns,az,_⟩:=ah
 cases az with
 |none=>obtain rfl:=Aa e;exact⟨.none,k₁⟩
 |int i t=>obtain rfl:=Aa e;exact⟨.int i t,k₁⟩
 |_=>exact nn e
theorem Wa(l:List Value)(lo hi:Option Int)(k:Int):slicePick l.toArray lo hi (some k)=((Gz (Ck lo hi (some k) l.length).1 (Ck lo hi (some k) l.length).2.1 (Ck lo hi (some k) l.length).2.2).filterMap (l[·]?)).toArray:=by
 unfold slicePick
 simp
section
variable{prog:Program}{w:Co}{A:Am}{E:Value->Ab->Prop}{s s₀:Ab}{bb:Bool}
theorem Pa{S:Ab}{a:Addr}{xs m:List PV}{v vl vh vk:Value}{ns:List Addr}{lo hi st:Option Int}(kk:KG s₀ S)(r:VR S.heap (.list xs) v ns)(hS:S.heap.IsSliceOf a vl vh vk)(pl:J4 vl lo)(ph:J4 vh hi)(pk:J4 vk st)(h0:st≠some 0)(hlen:xs.length<=ag)
  (hm:∀(vs:List Value) (ns:List Addr),ao S.heap xs vs ns->∃ws ms,slicePick vs.toArray lo hi st=ws.toArray/\ao S.heap m ws ms) (hb:bb=true->m.all PV.ba=true) {value slice:Expr} (hs:∃ops,E8 slice false v (.ref a)=Jd ops (Iw v (.ref a))):
  Al (Af prog w) A (H8 value slice v (.ref a)) (Got s₀ bb (.list m)) E S:=by
 revert hs
 refine r.cW fun b vs ms hl bf hs=>?_
 refine t6 hl.isList.typeIs Io ?_ hs
 refine dZ (hm vs ms bf) fun ws m1 e1 g1=>?_
 refine wpAny_getItem_list_slice hl.isList hS pl ph pk h0 ?_ (by(refine af A3 ?_;refine af bf.length ?_;refine af Bo ?_);exact hlen)
 refine af e1 ?_
 exact AW kk g1 fun q=>g1.aC (hb q)
theorem Wb{S:Ab}{a:Addr}{x:List Nat}{v vl vh:Value}{ns:List Addr}{lo hi:Option Int}(kk:KG s₀ S)(r:VR S.heap (.str x) v ns)(hS:S.heap.get? a=some {cls:= .type "slice",data:= .fields #[vl,vh, .none]}) (pl:J4 vl lo) (ph:J4 vh hi) (hlen:x.length<=ag)
  {value slice:Expr} (hs:∃ops,E8 slice false v (.ref a)=Jd ops (Iw v (.ref a))):
  Al (Af prog w) A (H8 value slice v (.ref a)) (Got s₀ bb (.str ((x.drop (C9 lo x.length)).take (Fu hi x.length-C9 lo x.length)))) E S:=by
 refine aB (vi pl) fun ql aM cz=>?_
 subst aM
 subst cz
 refine aB (vi ph) fun qh aM cz=>?_
 subst aM
 subst cz
 revert hs
 refine r.eW fun t hs=>?_
 refine t6 (Ht _ _ _) F.slot_str_getitem.lookup ?_ hs
 exact wpAny_getItem_str_slice (l:=ql) (u:=qh) (st:=none) ⟨_,hS,rfl,rfl⟩ rfl (V6 kk hlen)
theorem Pb{m:List PV}(h:(PV.list m).ba=true\/∃ps,PV.list m= .list ps/\ps.all PV.ba=true):m.all PV.ba=true:=h.elim ft fun⟨_,e,k⟩=>PV.list.inj e▸k
theorem Wc{y p:PV}{v vl vh vk:Value}{ns:List Addr}{l h k:Option Int}(kk:KG s₀ s)(r:VR s.heap y v ns)(pl:J4 vl l)(ph:J4 vh h)(pk:J4 vk k)(e:AV y l h k=some p)
  (hb:bb=true->p.ba=true\/∃ps,p= .list ps/\ps.all PV.ba=true) {value slice:Expr} (hs:∃ops,E8 slice false v (.ref s.heap.objs.size)=Jd ops (Iw v (.ref s.heap.objs.size))):
  Al (Af prog w) A (H8 value slice v (.ref s.heap.objs.size)) (Got s₀ bb p) E {s with heap:=s.heap.push {cls:= .type "slice",data:= .fields #[vl,vh,vk]} }:=by
 have kp:=pT s {cls:= .type "slice",data:= .fields #[vl,vh,vk]} s.toks
 have fZ:=r.sub (zV kp)
 cases y with
 |str x=>
  cases k with
  |some kz=>exact nn e
  |none=>
   refine oI e fun hlen e=>?_
   obtain rfl:=Aa e
   cases pk
   exact Wb (zI kk kp) fZ (Av _ rfl) pl ph hlen hs
 |list xs=>
  cases k with
  |none=>
   refine oI e fun hlen e=>?_
   obtain rfl:=Aa e
   refine Pa (zI kk kp) fZ (Lu ..) pl ph pk (by decide) hlen (fun vs ns bf=>?_) (fun q=>Pb (hb q)) hs
   refine aB (bf.drop (C9 l xs.length)) fun m1 g1 g2=>?_
   refine aB (g1.take (Fu h xs.length-C9 l xs.length)) fun m2 g3 g4=>?_
   refine⟨_,m2,(kms_pick_eq _ _ _).trans ?_,g3⟩
   unfold kms_pick
   refine af List.toList_toArray ?_
   exact af bf.length rfl
  |some kz=>
   obtain⟨hlen,e⟩:=VQ e
   obtain rfl:=Aa e
   simp only[Ej,beq_iff_eq,decide_eq_true_eq,not_or]at hlen
   refine Pa (zI kk kp) fZ (Lu ..) pl ph pk (by simpa using hlen.1) (Ci hlen.2) (fun vs ns bf=>?_) (fun q=>Pb (hb q)) hs
   exact aB (bf.pick (Gz (Ck l h (some kz) xs.length).1 (Ck l h (some kz) xs.length).2.1 (Ck l h (some kz) xs.length).2.2)) fun m1 g1 g2=>⟨_,m1,by(refine af (Wa ..) ?_;exact af bf.length rfl),g1⟩
 |_=>exact nn e
end
theorem av.bI{x:Expr}{lo hi st:Option Expr}{vm pos:B0}{a:PE}{b c d:PO}(hx:av W C x a)(hl:kj W C lo b)(hh:kj W C hi c)(fU:kj W C st d):
  av W C (.Subscript x (.Slice lo hi st vm) pos) (.bI a b c d):=fun env A E s σ p P e=>by
 refine oB e fun y e1 e=>?_
 refine oB e fun l e2 e=>?_
 refine oB e fun h e3 e=>?_
 refine oB e fun k e4 e5=>?_
 refine Ls (zE (hx env A E s σ y P e1) fun v aa ah=>?_)
 obtain⟨k₁,ns,az,_⟩:=ah
 refine wpAny_Slice (zE (hl env A E aa σ l (P.kp k₁) e2) fun vl s₂ ai=>?_)
 refine aq ai fun pl k₂=>?_
 refine zE (hh env A E s₂ σ h ((P.kp k₁).kp k₂) e3) fun vh ak au=>?_
 refine aq au fun ph bh=>?_
 refine zE (fU env A E ak σ k (((P.kp k₁).kp k₂).kp bh) e4) fun vk aU aW=>?_
 refine aq aW fun pk cn=>?_
 have kk:KG s aU:=zI (zI (zI k₁ k₂) bh) cn
 have GV:VR aU.heap y v ns:=az.sub fun b o e=>zV cn b o (zV bh b o (zV k₂ b o e))
 have hs:∃ops,E8 (.Slice lo hi st vm) false v (.ref aU.heap.objs.size)=Jd ops (Iw v (.ref aU.heap.objs.size)):=by
  cases st<;>exact⟨_,rfl⟩
 refine Wc kk GV pl ph pk e5 (fun hf=>?_) hs
 cases p with
 |list ps=>exact .inr ⟨ps,rfl,hf⟩
 |_=>exact .inl rfl
theorem ll.nil:ll W C [] .nil:=fun env A E s σ ps P e pos=>by
 obtain rfl:=Aa e;exact wpAny_items_nil ⟨jG _,[], .nil⟩
theorem ll.cons{x:Expr}{es:List Expr}{a:PE}{r:kc}(hx:av W C x a)(hr:ll W C es r)(he:∀env,B1 (x::es) env=(false,eval x env)::B1 es env):ll W C (x::es) (.cons a r):=fun env A E s σ ps P e pos=>by
 refine oB e fun y e1 e=>?_
 obtain⟨ys,e2,rfl⟩:=dk e
 refine wpAny_items_cons (zE (hx env A E s σ y P e1) fun v aa ah=>?_) (he env)
 obtain⟨k₁,ns,az,_⟩:=ah
 refine zE (hr env A E aa σ ys (P.kp k₁) e2 pos) fun vs s₂ ai=>?_
 obtain⟨k₂,ms,aY⟩:=ai
 exact⟨zI k₁ k₂,_, .cons (az.sub (zV k₂)) aY⟩
theorem av.list{es:List Expr}{r:kc}{pos:B0}(h:ll W C es r):av W C (.List es pos) (.list r):=fun env A E s σ p P e=>by
 refine oB e fun ps e1 e=>?_
 split at e
 ·rename_i hlen
  obtain rfl:=Aa e
  refine List_ (zE (h env A E s σ ps P e1 pos) fun vs aa ah=>?_)
  obtain⟨k₁,ns,az⟩:=ah
  have t7:=az.length
  refine Cb (AW k₁ az fun hf=>az.aC hf) ?_
  refine(?_:vs.toArray.size<=sizeLine)
  rw[A3,t7,Bo];exact hlen
 ·exact nn e
end
theorem We:∀c:Fin 128,(Txt.lower ⟨#[c.1]⟩)=⟨#[if 65<=c.1&&c.1<=90 then c.1+32 else c.1]⟩:=by decide+kernel
theorem GW(sep:List Nat)(xs:List (List Nat)):Txt.join (mkStr sep) (xs.map mkStr)=mkStr (lj sep xs):=by
 refine(?_:(⟨((xs.map mkStr).drop 1).foldl (fun acc p=>acc++(mkStr sep).cps++p.cps) ((xs.map mkStr).headD Str.empty).cps⟩:Str)=_)
 have h:∀(r:List (List Nat)) (a:List Nat),(r.map mkStr).foldl (fun acc p=>acc++(mkStr sep).cps++p.cps) a.toArray=(lj sep (a::r)).toArray:=by
  intro r
  induction r with
  |nil=>intro a;rfl
  |cons b t ih=>
   intro a
   have e:a.toArray++(mkStr sep).cps++(mkStr b).cps=(a++sep++b).toArray:=by simp[mkStr]
   refine af Dp ?_
   refine af F3 ?_
   refine af e ?_
   refine af (ih ..) ?_
   cases t with
   |nil=>simp[lj]
   |cons c u=>simp[lj]
 cases xs with
 |nil=>rfl
 |cons a r=>exact congrArg Str.mk (h r a)
theorem Pc(c:Nat):∀l:List Nat,cnt c l=(l.count c:Int)
 |[]=>by refine af (cnt_nil ..) ?_;rfl
 |a::r=>by
  refine af (cnt_cons ..) ?_
  refine af (Pc c r) ?_
  refine af List.count_cons ?_
  by_cases h:a=c
  ·subst h;simp;omega
  ·refine af (if_neg h) ?_;simp[h]
theorem Pd:∀(r:List Int) (a:Int),(r.foldl min a)∈a::r/\∀b∈a::r,r.foldl min a<=b
 |[],a=>⟨Aj ..,fun b hb=>by refine af (Ae.mp hb) ?_;exact Int.le_refl _⟩
 |c::r,a=>by
  refine aq (Pd r (min a c)) fun h1 h2=>?_
  refine bZ ?_ (fun b hb=>?_)
  ·refine af F3 ?_
   rcases Ay.mp h1 with h|h
   ·refine af h ?_
    by_cases q:a<=c
    ·refine af (Int.min_eq_left q) ?_;exact Aj ..
    ·rw[Int.min_eq_right (by omega)];exact Ai _ (Aj ..)
   ·exact Ai _ (Ai _ h)
  ·refine af F3 ?_
   have h3:=h2 (min a c) (Aj ..)
   rcases Ay.mp hb with rfl|hb
   ·omega
   ·rcases Ay.mp hb with rfl|hb
    ·omega
    ·exact h2 b (Ai _ hb)
section
variable{prog:Program}{w:Co}{A:Am}{E:Value->Ab->Prop}{s s₀:Ab}{bb:Bool}
theorem Wf{l:Addr}{vs:List Value}{is:List Int}{m:Int}(k:KG s₀ s)(hh:A.handled=none)(hl:s.heap.IsList l vs.toArray)(hi:H7 vs is)(hm:GO is=some m):
  Al (Af prog w) A (call (.builtin "min") [.ref l]) (Got s₀ bb (.int m)) E s:=by
 refine aH hi.allInts.items fun xs e=>?_
 have cb:is=xs.toList.map (·.1):=by
  refine cw hi.numsOf ?_
  refine cw (nums_intItems ..) ?_
  exact cw e rfl
 cases is with
 |nil=>exact nn hm
 |cons a r=>
 have hm:r.foldl min a=m:=Aa hm
 have hsz:0<xs.size:=by
  have:(a::r).length=xs.size:=by(refine af cb ?_;refine af (An ..) ?_;exact af Iq rfl)
  refine cw this ?_;simp
 rw[e]at hl
 refine min_intList hh hl hsz fun v h' tk hv hk=>?_
 refine aH (intItems_at hv) fun t aM=>?_
 subst aM
 refine aq (argBest_lt (L8 xs) (xs.size-1)) fun h1 h2=>?_
 refine aq (Pd r a) fun h3 h4=>?_
 have h5:L8 xs (argBest (fun i j=>decide (L8 xs i<L8 xs j)) (xs.size-1))∈a::r:=by
  (refine af cb ?_;refine af (numAt_eq ..) ?_);exact getD_mem (by(refine af (An ..) ?_;refine af Iq ?_);omega)
 have h6:L8 xs (argBest (fun i j=>decide (L8 xs i<L8 xs j)) (xs.size-1))<=r.foldl min a:=by
  rw[cb]at h3
  refine aB (mem_getD h3) fun j hj e3=>?_
  rw[An,Iq]at hj
  (refine cw e3 ?_;refine cw (numAt_eq ..) ?_);exact h2 j (by omega)
 have h7:=h4 _ h5
 have:L8 xs (argBest (fun i j=>decide (L8 xs i<L8 xs j)) (xs.size-1))=m:=by omega
 refine af this ?_
 exact .ba (zI k (jH _ _ _ hk)) (.int ..)
theorem Wg{l:Addr}{vs:List Value}{is:List Int}(k:KG s₀ s)(hh:A.handled=none)(hl:s.heap.IsList l vs.toArray)(hi:H7 vs is):
  Al (Af prog w) A (call (.builtin "sum") [.ref l]) (Got s₀ bb (.int is.sum)) E s:=by
 refine aH hi.allInts.items fun xs e=>?_
 have cb:is=xs.toList.map (·.1):=by
  refine cw hi.numsOf ?_
  refine cw (nums_intItems ..) ?_
  exact cw e rfl
 rw[e]at hl
 refine sum_intListG hh hl fun h' tk t' hk=>?_
 rw[preSum_eq,Fw (by simp),<-cb]
 exact .ba (zI k (jH _ _ _ hk)) (.int ..)
noncomputable def oh:Nat->String
 |0=> "len" |1=> "sum" |2=> "min" |3=> "min" |_=> "abs"
theorem Pe{vs:List Value}{a:Int}(h:H7 vs [a]):∃t,vs=[.int a t]:=by
 cases h with
 |cons i t h=>cases h;exact⟨t,rfl⟩
theorem Wh{vs:List Value}{a b:Int}(h:H7 vs [a,b]):∃t u,vs=[.int a t, .int b u]:=by
 cases h with
 |cons i t h=>obtain⟨u,rfl⟩:=Pe h;exact⟨t,u,rfl⟩
theorem Wi{x p:PV}{v:Value}{ns:List Addr}(k:KG s₀ s)(r:VR s.heap x v ns)(e:OX x=some p):Al (Af prog w) A (call (.builtin "len") [v]) (Got s₀ bb p) E s:=by
 cases x with
 |str x=>
  refine r.eW fun t=>?_
  refine oI e fun hlen e=>?_
  obtain rfl:=Aa e
  have la:(⟨x.toArray⟩:Str).length=x.length:=by simp[Cf]
  refine PySem.P.len_str (by refine af la ?_;unfold ag at hlen;omega) ?_
  refine af la ?_
  exact .ba (zI k (wZ ..)) (.int ..)
 |list ps=>
  refine r.cW fun a vs ms hl bf=>?_
  refine oI e fun hlen e=>?_
  obtain rfl:=Aa e
  have t7:=bf.length
  refine call_len_list hl.isList (by(refine af A3 ?_;refine af t7 ?_);unfold ag at hlen;omega) ?_
  refine af A3 ?_
  refine af t7 ?_
  exact .ba (zI k (wZ ..)) (.int ..)
 |_=>exact nn e
@[elab_as_elim] theorem Pf {h:Ap} {x r:PV} {v:Value} {ns:List Addr} {f:List Int->Option Int} {M:PV->Value->Prop} (hx:VR h x v ns) (e:GP f x=some r)
  (k:∀b vs is i,h.IsList b vs.toArray->H7 vs is->f is=some i->M (.int i) (.ref b)):M r v:=by
 refine oB e fun a e1 e=>?_
 refine oB e fun is e2 e=>?_
 obtain⟨c,e3,rfl⟩:=dk e
 exact hx.iu e1 fun b vs ms hl hs=>k b vs is c hl.isList (hs.ints e2) e3
theorem Wj{f:Nat}{ps:List PV}{vs:List Value}{ns:List Addr}{p:PV}(hf:f<5)(k:KG s₀ s)(hh:A.handled=none)(r:ao s.heap ps vs ns)(e:tT f ps=some p):
  Al (Af prog w) A (call (.builtin (oh f)) vs) (Got s₀ bb p) E s:=by
 revert e
 refine u0 hf ?_ fun hf=>Vx hf ?_ ?_ ?_ ?_
 rotate_left
 ·intro e
  refine oB e fun x e1 e=>?_
  obtain rfl:=n7 e1
  exact r.lX fun v hv=>Wi k hv e
 ·intro e
  refine oB e fun x e1 e=>?_
  obtain rfl:=n7 e1
  exact r.lX fun v hv=>Pf hv e fun b vs is i hl hi e=>by obtain rfl:=Aa e;exact Wg k hh hl hi
 ·intro e
  refine oB e fun x e1 e=>?_
  obtain rfl:=n7 e1
  exact r.lX fun v hv=>Pf hv e fun b vs is i hl hi e=>Wf k hh hl hi e
 ·intro e
  refine oB e fun is e1 e=>?_
  cases is with
  |nil=>exact nn e
  |cons a r=>
  cases r with
  |nil=>exact nn e
  |cons b r=>
  cases r with
  |cons=>exact nn e
  |nil=>
   obtain rfl:=Aa e
   refine fT (Wh (r.ints e1)) fun t u cz=>?_
   subst cz
   refine min_two_ints hh fun h' tk hk=>?_
   by_cases BC:b<a
   ·(refine af (if_pos BC) ?_;refine af (if_pos BC) ?_);exact .ba (zI k (jH _ _ _ hk)) (.int ..)
   ·(refine af (if_neg BC) ?_;refine af (if_neg BC) ?_);exact .ba (zI k (jH _ _ _ hk)) (.int ..)
 ·intro e
  refine oB e fun is e1 e=>?_
  obtain⟨a,e2,rfl⟩:=dk e
  obtain rfl:=n7 e2
  refine aH (Pe (r.ints e1)) fun t aM=>?_
  subst aM
  exact PyProof.Rows.call_abs_int fun u tk=> .ba (zI k (wZ ..)) (.int ..)
theorem Wl{l:Addr}{vs:List Value}{xs:List (List Nat)}{x:List Nat}{t:Js}{Q:Value->Ab->Prop}(hl:s.heap.IsList l vs.toArray)(hi:StrsAre vs (xs.map mkStr))(hx:x∈xs)(hsz:xs.length<=ag)
  (h:Q (.int (xs.idxOf x:Nat) s.toks) {s with toks:=s.toks+1}):Al (Af prog w) A (call (.builtin "list.index") [.ref l, .str (mkStr x) t]) Q E s:=by
 obtain⟨⟨cls,dd,data,sl⟩,ho,hc,n,hd⟩:=id hl
 simp only at hc hd
 subst hc hd
 have get:∀{vs:List Value} {xs:List (List Nat)},StrsAre vs (xs.map mkStr)->vs.length=xs.length/\∀(j:Nat) (h1:j<vs.length) (h2:j<xs.length),∃t,vs[j]= .str (mkStr xs[j]) t:=by
  intro vs
  induction vs with
  |nil=>intro xs h;cases xs with
   |nil=>exact⟨rfl,fun j h1=>absurd h1 (F2 _)⟩
   |cons a r=>cases h
  |cons v r ih=>intro xs h;cases xs with
   |nil=>cases h
   |cons a q=>
    rw[Dp]at h
    cases h with
    |cons y t h=>
    refine aq (ih h) fun h1 h2=>?_
    refine bZ (by simp[h1]) (fun j h3 h4=>?_)
    cases j with
    |zero=>exact⟨t,rfl⟩
    |succ j=>exact h2 j (by exact Fx h3) (by exact Fx h4)
 refine aq (get hi) fun hlen vn=>?_
 have hj:xs.idxOf x<xs.length:=Jm.mpr hx
 let e:Value->Bool:=fun v=>match v with| .str y _=>y.cps.toList==x|_=>false
 have he:∀(j:Nat) (h1:j<vs.length) (h2:j<xs.length),e vs[j]=(xs[j]==x):=fun j h1 h2=>by
  refine aH (vn j h1 h2) fun t e1=>?_
  refine af e1 ?_;rfl
 unfold ag at hsz
 refine I1 Ju ⟨_,ho,rfl⟩ Jn (Jb _ _)
  (Lv l vs.toArray n dd sl (.str (mkStr x) t) e (xs.idxOf x) (by simpa[hlen]using hj) (by omega) ?_ ?_) ⟨ho,fun y hy=>?_,h⟩
 ·have:=he (xs.idxOf x) (by omega) hj
  rw[List.getElem_idxOf hj]at this
  simpa using this
 ·intro j GX aX
  have h1:j<vs.length:=by exact GX
  have:=he j h1 (by omega)
  have h2:(xs[j]'(by omega)==x)=false:=by
   have:=J8 (xs:=xs) (p:=(· ==x)) aX
   exact this
  rw[h2]at this
  exact this
 ·have GY:y∈vs:=by simpa using hy
  obtain⟨j,BD,rfl⟩:=List.getElem_of_mem GY
  refine aH (vn j BD (by omega)) fun t' e1=>?_
  refine af e1 ?_
  exact(Kk _ _ _ _).at _ _
end
section
variable{W:bx}{C:Cx}
theorem av.bi{x:Str}{f:Nat}{a:Expr}{r:List Expr}{es:kc}{p pos:B0}(hf:f<5)(hk:C.kn.lookup x=some .globalImplicit)(hg:W.mg x=none)(hb:W.mb x=some (.builtin (oh f)))(hd:(x==("__debug__" :Str))=false)
  (h:ll W C (a::r) es) (he:∀env,B1 (a::r) env=(false,eval a env)::B1 r env) (hp:∀env,(J5 pos (B1 r env)).any (·.1)=false):av W C (.Call (.Name x p) (a::r) [] pos) (.bi f es):=fun env A E s σ q P e=>by
 refine oB e fun ps e1 e2=>?_
 refine Er rfl ?_
 refine A6 P.kind (by unfold Be;refine af P.names ?_;exact hk) (C1 (mg:=W.mg) (mb:=W.mb) ?_ hg ?_ hb ?_) hd
 ·refine af P.gl ?_;exact W.g P.wd
 ·refine af P.bl ?_;exact W.b P.wd
 ·refine callWith_builtin1 (zE (h env A E s σ ps P e1 pos) fun vs aa ah=>?_) (he env) (hp env)
  obtain⟨k₁,ns,az⟩:=ah
  exact zE (Wj hf k₁ P.room.hh az e2 (bb:=true)) fun v s₂ ⟨k,ns,r,f⟩=>⟨k,ns,r,fun _=>f rfl⟩
theorem av.uc{x:Str}{k:Nat}{a:Expr}{r:List Expr}{es:kc}{p pos:B0}(hk:C.kn.lookup x=some .globalImplicit)(hg:W.mg x=some (.ref (W.i6 k)))(hd:(x==("__debug__" :Str))=false)
  (h:ll W C (a::r) es) (he:∀env,B1 (a::r) env=(false,eval a env)::B1 r env):av W C (.Call (.Name x p) (a::r) [] pos) (.uc k es):=fun env A E s σ q P e=>by
 refine oB e fun ps e1 e2=>?_
 refine Er rfl ?_
 refine A6 P.kind (by unfold Be;rw[P.names];exact hk) (Dk (mg:=W.mg) ?_ hg ?_) hd
 ·rw[P.gl];exact W.g P.wd
 ·refine dZ (W.n5 k ⟨ps,q,e2⟩ P.wd) fun o fd ho gu=>?_
  refine J9 gu (zE (h env A E s σ ps P e1 pos) fun vs aa ah=>?_) (he env)
  obtain⟨k₁,ns,az⟩:=ah
  refine bZ (zV k₁ _ _ ho) (Gd (E9 (W.call k A aa ps vs ns q P.room (P.kp k₁).wd az e2) fun res s₂ ai=>?_))
  refine da ai fun v ms cz k₂ aY=>?_
  clear ai
  subst cz
  refine⟨zI k₁ k₂,ms,aY,fun hf=>?_⟩
  have hp:q.ba=true:=by cases q<;>first|rfl|exact ft hf
  rw[aY.aC hp];exact wN.nil _
theorem Wm{x p:PV}(e:tU 1 x []=some p):∃c,x= .str [c]/\c<128/\p= .str [if 65<=c&&c<=90 then c+32 else c]:=by
 refine oB e fun s e1 e=>?_
 refine oB e fun c e2 e=>?_
 obtain rfl:=n7 e2
 have e:OY c=some p:=e
 refine oI e fun hc e=>?_
 exact GD c (x.bO e1) hc ((Aa e).symm)
theorem Wn{x y p:PV}(e:tU 0 x [y]=some p):∃sep l xs,x= .str sep/\y= .list l/\PV.strs l=some xs/\(xs.map B3).sum+xs.length*sep.length<=ag/\p= .str (lj sep xs):=by
 refine oB e fun s e1 e=>?_
 refine oB e fun z e2 e=>?_
 obtain rfl:=Aa e2
 refine oB e fun l e3 e=>?_
 refine oB e fun xs e4 e=>?_
 refine oI e fun hc e=>?_
 exact VA s l xs (x.bO e1) (y.cX e3) e4 hc ((Aa e).symm)
theorem Wo{x y p:PV}(e:tU 2 x [y]=some p):∃s c,x= .str s/\y= .str [c]/\p= .int (s.count c):=by
 refine oB e fun s e1 e=>?_
 refine oB e fun z e2 e=>?_
 obtain rfl:=Aa e2
 refine oB e fun t e3 e=>?_
 obtain⟨c,e4,rfl⟩:=dk e
 obtain rfl:=n7 e4
 exact tN s c (x.bO e1) (y.bO e3) rfl
theorem Wq{x y p:PV}(e:tU 3 x [y]=some p):∃l,x= .list l/\((∃k is,y= .int k/\PV.ints l=some is/\(is.contains k&&decide (is.length<=ag))=true/\p= .int (is.idxOf k))\/(∃k is,y= .str k/\PV.strs l=some is/\(is.contains k&&decide (is.length<=ag))=true/\p= .int (is.idxOf k))):=by
 refine oB e fun l e1 e=>?_
 refine oB e fun z e2 e=>?_
 obtain rfl:=Aa e2
 refine i12 l (x.cX e1) ?_
 cases y with
 |int k=>obtain⟨xs,e4,e⟩:=wG e;obtain⟨hc,e⟩:=rb e;exact .inl ⟨k,xs,rfl,e4,hc,(Aa e).symm⟩
 |str k=>obtain⟨xs,e4,e⟩:=wG e;obtain⟨hc,e⟩:=rb e;exact .inr ⟨k,xs,rfl,e4,hc,(Aa e).symm⟩
 |_=>exact nn e
theorem av.lower{o:Expr}{apos pos:B0}{a:PE}(ho:av W C o a)(bz:∀env,C6 o "lower" env (eval o env)=eval o env) (aQ:(apos.endLine==pos.line)=true):
  av W C (.Call (.Attribute o "lower" apos) [] [] pos) (.me 1 a .nil):=fun env A E s σ p P e=>by
 refine oB e fun x e1 e=>?_
 refine lh (Wm e) fun c aM hc gJ=>?_
 subst aM
 subst gJ
 refine Call_method0 (bz env) aQ (zE (ho env A E s σ _ P e1) fun v aa ah=>?_)
 obtain⟨k₁,ns,az,_⟩:=ah
 refine az.eW fun t=>?_
 have hl:Txt.lower ⟨[c].toArray⟩=⟨[if 65<=c&&c<=90 then c+32 else c].toArray⟩:=We ⟨c,hc⟩
 refine lU ("str") _ Jv F.slot_str_lower F.type_str_lower (Ht _ _ _) (fun _ e=>nomatch e) (Dc rfl (Ir ?_))
 refine SC.lower (by rw[hl];simp[Ld,Cf,Bo]) ?_
 rw[hl]
 exact .ba (zI k₁ (wZ ..)) (.str ..)
theorem BE{name:Str}{o x:Expr}{apos pos:B0}{T id:String}{a b:PE}{q y:PV}{env:Dy}{A:Am}{E:Value->Ab->Prop}{s:Ab}{σ:List (Option PV)}{bb:Bool}{p:PV}(ho:av W C o a)(hx:av W C x b)(P:Pre W C env A σ s)
  (bz:C6 o name env (eval o env)=eval o env) (hs:B1 [x] env=[(false,eval x env)]) (aQ:(apos.endLine==pos.line)=true)
  (pa:PlainAttrs T) (sl:Slot T name id) (ty:typeOf (.builtin id)=pure (.type "method_descriptor")) (eo:ev W.U a σ=some q) (ex:ev W.U b σ=some y)
  (hT:∀(v:Value) (ns:List Addr) (aa:Ab),VR aa.heap q v ns->aa.TypeIs v T/\∀c,v= .ref c->∃ob,aa.heap.get? c=some ob/\ob.dict=none)
  (h:∀(v u:Value) (ns ms:List Addr) (aa:Ab),KG s aa->VR aa.heap q v ns->VR aa.heap y u ms->Al (Af W.prog W.w) A (call (.builtin id) [v,u]) (Got s bb p) E aa):
  Al (Af W.prog W.w) A (eval (.Call (.Attribute o name apos) [x] [] pos) env) (Got s bb p) E s:=by
 refine Iy bz hs aQ (zE (ho env A E s σ q P eo) fun v aa ah=>?_)
 obtain⟨k₁,ns,az,_⟩:=ah
 refine aq (hT v ns aa az) fun t1 t2=>?_
 refine lU T id pa sl ty t1 t2 (Dc rfl (evalArgs_plain (A8 (zE (hx env A E aa σ y (P.kp k₁) ex) fun u s₂ ai=>B4 ?_))))
 obtain⟨k₂,ms,aY,_⟩:=ai
 exact h v u ns ms s₂ (zI k₁ k₂) (az.sub (zV k₂)) aY
theorem Pg{aa:Ab}{x:List Nat}{v:Value}{ns:List Addr}(r:VR aa.heap (.str x) v ns):aa.TypeIs v "str" /\∀c,v= .ref c->∃ob,aa.heap.get? c=some ob/\ob.dict=none:=by
 exact r.eW fun t=>⟨Ht _ _ _,fun _ e=>nomatch e⟩
theorem Ph{aa:Ab}{x:List PV}{v:Value}{ns:List Addr}(r:VR aa.heap (.list x) v ns):aa.TypeIs v "list" /\∀c,v= .ref c->∃ob,aa.heap.get? c=some ob/\ob.dict=none:=by
 exact r.cW fun a vs ms hl hs=>⟨hl.isList.typeIs,fun c e=>by cases e;obtain⟨n,h⟩:=hl;exact⟨_,h,rfl⟩⟩
theorem GZ{U:Uc}{f:Nat}{a b:PE}{σ:List (Option PV)}{p:PV}(e:ev U (.me f a (.cons b .nil)) σ=some p):∃q y,ev U a σ=some q/\ev U b σ=some y/\tU f q [y]=some p:=by
 refine oB e fun q e1 e=>?_
 refine oB e fun ys e2 e=>?_
 refine oB e2 fun y e3 e2=>?_
 have e2:some [y]=some ys:=e2
 obtain rfl:=Aa e2
 exact tN q y e1 e3 e
theorem av.join{o x:Expr}{apos pos:B0}{a b:PE}(ho:av W C o a)(hx:av W C x b)(bz:∀env,C6 o "join" env (eval o env)=eval o env) (hs:∀env,B1 [x] env=[(false,eval x env)]) (aQ:(apos.endLine==pos.line)=true):
  av W C (.Call (.Attribute o "join" apos) [x] [] pos) (.me 0 a (.cons b .nil)):=fun env A E s σ p P e=>by
 refine da (GZ e) fun q y e1 e3 e=>?_
 refine AQ (Wn e) fun sep l xs gJ iv e4 hlen HA=>?_
 subst gJ
 subst iv
 subst HA
 refine BE ho hx P (bz env) (hs env) aQ Jv F.slot_str_join F.type_str_join e1 e3 (fun v ns aa r=>Pg r) fun v u ns ms aa k r1 r2=>?_
 refine r1.eW fun t1=>r2.cW fun a vs ms hl bf=>?_
 refine He (x:=mkStr sep) hl.isList (bf.strs e4) ?_ fun t' k'=>?_
 ·have h1:∀z:List Nat,(mkStr z).length=z.length:=fun z=>by simp[mkStr,Cf]
  refine af A9 ?_
  refine af (An ..) ?_
  refine af (h1 ..) ?_
  have h2:(Cf∘mkStr)=B3:=by funext z;exact h1 z
  unfold ag at hlen
  refine(?_:(List.map (Cf∘mkStr) xs).sum+_<=_)
  refine af h2 ?_;exact hlen
 ·refine af (GW ..) ?_
  exact .ba (zI k (wZ ..)) (.str ..)
end
section
variable{prog:Program}{w:Co}{A:Am}{E:Value->Ab->Prop}{s s₀:Ab}
theorem Wr{l:Addr}{vs:List Value}{ns:List Int}{k:Int}{t:Js}{Q:Value->Ab->Prop}(hl:s.heap.IsList l vs.toArray)(hi:H7 vs ns)
  (hb:ns.length<=ag) (hk:k∈ns) (h:Q (.int (ns.idxOf k:Nat) s.toks) {s with toks:=s.toks+1}):
  Al (Af prog w) A (call (.builtin "list.index") [.ref l, .int k t]) Q E s:=by
 obtain⟨⟨cls,dd,data,sl⟩,ho,hc,n,hd⟩:=id hl
 simp only at hc hd
 subst hc hd
 have hlen:=hi.length
 unfold ag at hb
 have hj:ns.idxOf k<ns.length:=Jm.mpr hk
 refine I1 Ju ⟨_,ho,rfl⟩ Jn (Jb _ _)
  (Lv l vs.toArray n dd sl (.int k t) (isInt k) (ns.idxOf k) (by simpa[hlen]using hj) (by omega) ?_ ?_) ⟨ho,fun y hy=>(eq_isInt k t hi y (by simpa using hy)).at _ _,h⟩
 ·refine(?_:isInt k vs[ns.idxOf k]=true)
  rw[isInt_at k hi _ (by omega) hj]
  simp
 ·intro j GX aX
  have h1:j<vs.length:=by exact GX
  refine(?_:isInt k vs[j]=false)
  rw[isInt_at k hi j h1 (by omega)]
  have:=J8 (xs:=ns) (p:=(· ==k)) aX
  exact this
theorem Ws{h':Ap}{a c:Int}:∀(l:List Value) (o m:Nat),(∀j v,l[j]?=some v->∃t,v=Value.int (a+((o+j:Nat):Int)*c) t)->l.length=m->
   ao h' ((Ge o m).map fun(i:Nat)=>PV.int (a+(i:Int)*c)) l []:=by
  intro l
  induction l with
  |nil=>intro o m _ hm;cases hm;exact .nil
  |cons v l ih=>
   intro o m h hm
   cases m with
   |zero=>cases hm
   |succ m=>
    refine aH (h 0 v rfl) fun t e=>?_
    refine af List.range'_succ ?_
    refine af Dp ?_
    refine .cons (n:=[]) ?_ (ih (o+1) m (fun j v e'=>?_) (by simpa using hm))
    ·refine af e ?_;exact .int ..
    ·refine aH (h (j+1) v (by exact e')) fun t' HB=>?_
     exact cu t' (by refine af HB ?_;congr 3;omega)
theorem vo{i:Int}(h1:0<=i)(h2:i<=2000):Iz i=true:=Ba.mpr (Jw (decide_eq_true (Dx (by decide) h1)) (decide_eq_true (Es h2 (by decide))))
theorem Wt{a b c:Int}(ha:0<=a)(hb:b<=1000)(hc:0<c):∃n:Nat,n<=1000/\Jx a b c=n/\(if a<b then((b-a-1)/c+1).toNat else 0)=n:=by
 by_cases h:a<b
 ·have h0:0<=b-a-1:=Kx (Int.sub_pos_of_lt h)
  have hu:(b-a-1)/c+1<=1000:=Dx (Int.add_le_add_right (Int.ediv_le_self _ h0) 1) (by rw[Int.sub_add_cancel];exact Dx (Int.sub_le_self b ha) hb)
  exact⟨((b-a-1)/c+1).toNat,Int.toNat_le.mpr hu,(if_pos hc).trans ((if_pos h).trans (Im (Int.add_nonneg (Int.ediv_nonneg h0 (Iv hc)) (by decide))).symm),if_pos h⟩
 ·exact⟨0,C2 _,(if_pos hc).trans (if_neg h),if_neg h⟩
theorem Wu{r:Addr}{a b c:Int}{t u v:Js}(hh:A.handled=none)(hr:IsRange s.heap r a b c t u v)(ha:0<=a)(Wv:a<=1000)(hb:0<=b)(kr:b<=1000)(hc:0<c)(lq:c<=1000)
  :Al (Af prog w) A (call (.type "list") [.ref r]) (Got s true (.list (ra a b c))) E s:=by
 refine lh (Wt ha kr hc) fun n Pj hn e3=>?_
 refine call_list_range hh hr ?_ hn (Ad Pj (by decide)) fun h' tk lY c' hk hS hi=>?_
 ·unfold Le
  rw[hn,if_pos hc,vo ha (Dx Wv (by decide)),vo hb (Dx kr (by decide)),vo (Iv hc) (Dx lq (by decide)),vo (Et n) (Dx (E6.mpr Pj) (by decide)),vo (i:=b+(c-1)) (Int.add_nonneg hb (Kx hc)) (Int.add_le_add kr (Dx (Int.sub_le_self c (by decide)) lq)),Bool.or_true]
  rfl
 ·refine⟨jH _ _ _ hk,[s.heap.objs.size],?_,fun _=>⟨by simp,fun a ha=>?_⟩⟩
  ·refine VR.list (vs:=lY.toList) (ns:=[]) ⟨c',hS⟩ ?_
   refine aq hi fun hsz hit=>?_
   have:=Ws (h':=h') lY.toList 0 lY.size (fun j v e=>by simpa using hit j v (by simpa using e)) (by rfl)
   unfold ra
   refine af e3 ?_
   refine af Ib ?_
   refine cw hsz ?_
   exact this
  ·have:a=s.heap.objs.size:=by exact Ae.mp ha
   subst this
   cases e:s.heap.get? s.heap.objs.size with
   |none=>rfl
   |some o=>exact absurd (Bm e) (Jk _)
end
section
variable{W:bx}{C:Cx}
theorem av.count{o x:Expr}{apos pos:B0}{a b:PE}(ho:av W C o a)(hx:av W C x b)(bz:∀env,C6 o "count" env (eval o env)=eval o env) (hs:∀env,B1 [x] env=[(false,eval x env)]) (aQ:(apos.endLine==pos.line)=true):
  av W C (.Call (.Attribute o "count" apos) [x] [] pos) (.me 2 a (.cons b .nil)):=fun env A E s σ p P e=>by
 refine da (GZ e) fun q y e1 e3 e=>?_
 refine da (Wo e) fun l c cz gJ iv=>?_
 subst cz
 subst gJ
 subst iv
 refine BE ho hx P (bz env) (hs env) aQ Jv F.slot_str_count F.type_str_count e1 e3 (fun v ns aa r=>Pg r) fun v u ns ms aa k r1 r2=>?_
 cases r1
 cases r2
 refine SC.count ?_
 have:Txt.count ⟨l.toArray⟩ ⟨[c].toArray⟩=(l.count c:Int):=by
  refine af (show(⟨[c].toArray⟩:Str)=⟨#[c]⟩from rfl) ?_
  refine af (count_cnt ..) ?_
  exact cw (Pc ..) rfl
 refine af this ?_
 exact .ba (zI k (wZ ..)) (.int ..)
theorem av.index{o x:Expr}{apos pos:B0}{a b:PE}(ho:av W C o a)(hx:av W C x b)(bz:∀env,C6 o "index" env (eval o env)=eval o env) (hs:∀env,B1 [x] env=[(false,eval x env)]) (aQ:(apos.endLine==pos.line)=true):
  av W C (.Call (.Attribute o "index" apos) [x] [] pos) (.me 3 a (.cons b .nil)):=fun env A E s σ p P e=>by
 refine da (GZ e) fun q y e1 e3 e=>?_
 obtain⟨l,rfl,⟨k,is,rfl,e4,e5,rfl⟩|⟨k,is,rfl,e4,e5,rfl⟩⟩:=Wq e
 ·simp only[Az,decide_eq_true_eq]at e5
  refine BE ho hx P (bz env) (hs env) aQ F.plainAttrs_list F.slot_list_index F.type_list_index e1 e3 (fun v ns aa r=>Ph r) fun v u ns ms aa kk r1 r2=>?_
  exact r1.cW fun a vs ms hl bf=>r2.d0 fun t=>Wr hl.isList (bf.ints e4) e5.2 (by simpa using e5.1) (.ba (zI kk (wZ ..)) (.int ..))
 ·simp only[Az,decide_eq_true_eq]at e5
  refine BE ho hx P (bz env) (hs env) aQ F.plainAttrs_list F.slot_list_index F.type_list_index e1 e3 (fun v ns aa r=>Ph r) fun v u ns ms aa kk r1 r2=>?_
  exact r1.cW fun a vs ms hl bf=>r2.eW fun t=>Wl hl.isList (bf.strs e4) (by simpa using e5.1) e5.2 (.ba (zI kk (wZ ..)) (.int ..))
theorem Ww:∀{ps:List PV} {is:List Int},PV.ints ps=some is->ps=is.map .int:=by
 intro ps
 induction ps with
 |nil=>intro is e;obtain rfl:=Aa e;rfl
 |cons p r ih=>
  intro is e
  cases p with
  |int i=>obtain⟨y,e1,rfl⟩:=dk e;rw[ih e1];rfl
  |_=>exact nn e
theorem Wx{ps:List PV}{p:PV}(e:tT 5 ps=some p):∃a b c,ps=[.int a, .int b, .int c]/\0<=a/\a<=1000/\0<=b/\b<=1000/\0<c/\c<=1000/\p= .list (ra a b c):=by
 refine oB e fun is e1 e=>?_
 match is,e with
 |[a,b,c],e=>
  refine oI e fun h e=>?_
  refine aq (b2 h) fun h h6=>?_
  refine aq (b2 h) fun h h5=>?_
  refine aq (b2 h) fun h h4=>?_
  refine aq (b2 h) fun h h3=>?_
  refine aq (b2 h) fun h1 h2=>?_
  exact⟨a,b,c,Ww e1,of_decide_eq_true h1,of_decide_eq_true h2,of_decide_eq_true h3,of_decide_eq_true h4,of_decide_eq_true h5,of_decide_eq_true h6,(Aa e).symm⟩
 |[],e=>exact nn e
 |[_],e=>exact nn e
 |[_,_],e=>exact nn e
 |_::_::_::_::_,e=>exact nn e
theorem av.ku{a b c:Expr}{p1 p2 p3 pos:B0}{es:kc}(pY:C.kn.lookup ("list" :Str)=some .globalImplicit) (rf:W.mg "list" =none) (lZ:W.mb "list" =some (.type "list")) (HC:C.kn.lookup ("range" :Str)=some .globalImplicit) (Wy:W.mg "range" =none) (Wz:W.mb "range" =some (.type "range"))
  (h:ll W C [a,b,c] es) (he:∀env,B1 [a,b,c] env=(false,eval a env)::B1 [b,c] env) (hp:∀env,(J5 p2 (B1 [b,c] env)).any (·.1)=false):av W C (.Call (.Name "list" p1) [.Call (.Name "range" p3) [a,b,c] [] p2] [] pos) (.bi 5 es):=fun env A E s σ p P e=>by
 refine oB e fun ps e1 e2=>?_
 obtain⟨x,y,z,rfl,h1,h2,h3,h4,h5,h6,rfl⟩:=Wx e2
 refine Er rfl ?_
 refine A6 P.kind (by unfold Be;refine af P.names ?_;exact pY) (C1 (mg:=W.mg) (mb:=W.mb) ?_ rf ?_ lZ ?_) (by decide)
 ·refine af P.gl ?_;exact W.g P.wd
 ·refine af P.bl ?_;exact W.b P.wd
 ·refine Cn ?_
  refine A8 ?_
  refine Er rfl ?_
  refine A6 P.kind (by unfold Be;refine af P.names ?_;exact HC) (C1 (mg:=W.mg) (mb:=W.mb) ?_ Wy ?_ Wz ?_) (by decide)
  ·refine af P.gl ?_;exact W.g P.wd
  ·refine af P.bl ?_;exact W.b P.wd
  ·refine Cn (zE (h env A E s σ _ P e1 p2) fun vs aa ah=>?_) (he env) (hp env)
   obtain⟨k₁,ns,az⟩:=ah
   refine az.fq fun v1 n1 us m1 q1 az=>?_
   refine az.fq fun v2 n2 us m2 q2 az=>?_
   refine az.fq fun v3 n3 us m3 q3 az=>?_
   refine az.lW (q1.d0 fun t1=>q2.d0 fun t2=>q3.d0 fun t3=>?_)
   refine call_range_3 (by omega) ?_ (Or.inl (J7 (by omega)))
   refine B4 ?_
   refine zE (Wu P.room.hh (Av _ rfl) h1 h2 h3 h4 h5 h6) fun v s₂ ai=>?_
   obtain⟨k₂,ms,aY,rg⟩:=ai
   exact⟨zI k₁ (zI (pT ..) k₂),ms,aY,fun _=>(rg rfl).back (fun b o e=>Ag _ (zV k₁ b o e))⟩
end
noncomputable def ri(prog:Program)(w:Co)(A:Am)(env:Dy)(E:Value->Ab->Prop)(Q:Ab->Prop):List (Str×Value)->Ab->Prop
 |[],s=>Q s
 |(x,v)::r,s=>Al (Af prog w) A (storeName env x v) (fun _ s'=>ri prog w A env E Q r s') E s
noncomputable def rj(prog:Program)(w:Co)(A:Am)(target:Expr)(I:Addr)(env:Dy)(E:Value->Ab->Prop)(Q:Ab->Prop)(r:Option Value)(s:Ab):Prop:=
 ∃v,r=some v/\Al (Af prog w) A (E4 target (.ref I) v) (fun _ aa=>Al (Af prog w) A (assign target env v) (fun _ s₂=>Q s₂) E aa) E s
structure dH(prog:Program)(w:Co)(A:Am)(target:Expr)(xs:List Str)(I:Addr)(fp wr:List Addr)(its:List (List PV))(St:Nat->Ap->Prop):Prop where
 sub:∀b∈wr,b∈fp
 frame:∀i h h',St i h->(∀b∈fp,∀o,h.get? b=some o->h'.get? b=some o)->St i h'
 bV:∀i h,St i h->∀b∈fp,∃o,h.get? b=some o
 rk:∀i h,St i h->∀b∈wr,∀items n,h.get? b≠some {cls:= .type "list",data:= .seq items n}
 item:∀i it (s:Ab) (env:Dy) (Q:Ab->Prop) (E:Value->Ab->Prop),its[i]?=some it->St i s.heap->
  (∀vs ns h' tk,ao h' it vs ns->(∀a∈ns,a∈fp)->it.length=xs.length->St (i+1) h'->(∀b o,b∉wr->s.heap.get? b=some o->h'.get? b=some o)->
   ri prog w A env E Q (xs.zip vs) {s with heap:=h',toks:=tk})->
  Al (Af prog w) A (G0 (.ref I)) (rj prog w A target I env E Q) E s
 done:∀(s:Ab) (Q:Option Value->Ab->Prop) (E:Value->Ab->Prop),St its.length s.heap->
  (∀h' tk,(∀b o,b∉wr->s.heap.get? b=some o->h'.get? b=some o)->Q none {s with heap:=h',toks:=tk})->Al (Af prog w) A (G0 (.ref I)) Q E s
 self:∀i (s:Ab) (Q:Value->Ab->Prop) (E:Value->Ab->Prop),St i s.heap->Q (.ref I) s->Al (Af prog w) A (Hu (.ref I)) Q E s
theorem dH.walks{prog:Program}{w:Co}{A:Am}{x:Str}{px:B0}{I:Addr}{fp fp' wr:List Addr}{its:List (List PV)}{P:Nat->Value->Prop}{St:Nat->Ap->Prop}(W:Walks prog w A I fp wr its.length P St)
  (cV:∀b∈fp,b∈fp') (Ex:Ap->Prop) (BF:∀h h',Ex h->(∀b∈fp',∀o,h.get? b=some o->h'.get? b=some o)->Ex h')
  (gK:∀i h,St i h->Ex h->∀b∈fp',∃o,h.get? b=some o)
  (rl:∀i h,St i h->∀b∈wr,∀items n,h.get? b≠some {cls:= .type "list",data:= .seq items n})
  (hit:∀i it v h h',its[i]?=some it->P i v->Ex h->(∀b o,b∉wr->h.get? b=some o->h'.get? b=some o)->Ex h'/\∃ns,ao h' it [v] ns/\∀a∈ns,a∈fp'):
  dH prog w A (.Name x px) [x] I fp' wr its (fun i h=>St i h/\Ex h) where
 sub:=fun b hb=>cV b (W.sub b hb)
 frame:=fun i h h' st k=>⟨W.frame i h h' st.1 fun b hb o e=>k b (cV b hb) o e,BF h h' st.2 k⟩
 bV:=fun i h st=>gK i h st.1 st.2
 rk:=fun i h st=>rl i h st.1
 item:=fun i it s env Q E hi st h=>by
  have aX:i<its.length:=(Bc.mp hi).1
  refine W.item i s _ E aX st.1 fun v h' tk hP i8 hk=>⟨v,rfl,B5 (show E4 (.Name x px) (.ref I) v=pure ()from rfl) ?_⟩
  refine Dl ?_
  obtain⟨kv,ns,r,cb⟩:=hit i it v s.heap h' hi hP st.2 hk
  have:=h [v] ns h' tk r cb (by have:=r.length;exact this.symm) ⟨i8,kv⟩ hk
  exact this
 done:=fun s Q E st hQ=>W.done s Q E st.1 hQ
 self:=fun i s Q E st hQ=>W.self i s Q E st.1 hQ
theorem dH.i9{prog:Program}{w:Co}{A:Am}(hh:A.handled=none){x y:Str}{px py pt:B0}{k:Nat}{I:Addr}{fp fp' wr:List Addr}{its:List (List PV)}{Pt:Nat->Array Value->Prop}{St:Nat->Ap->Prop}{WA:Nat->Addr->Ap->Prop}(W:WalksT prog w A I fp wr its.length Pt St WA)
  (cV:∀b∈fp,b∈fp') (Ex:Ap->Prop) (BF:∀h h',Ex h->(∀b∈fp',∀o,h.get? b=some o->h'.get? b=some o)->Ex h')
  (gK:∀i h,St i h->Ex h->∀b∈fp',∃o,h.get? b=some o)
  (rl:∀i h,St i h->∀b∈wr,∀items n,h.get? b≠some {cls:= .type "list",data:= .seq items n})
  (hit:∀i it vs h h',its[i]?=some it->Pt i vs->Ex h->(∀b o,b∉wr->h.get? b=some o->h'.get? b=some o)->Ex h'/\∃v u ns,vs= #[v,u]/\ao h' it [v,u] ns/\∀a∈ns,a∈fp'):
  dH prog w A (.Tuple [.Name x px, .Name y py] k pt) [x,y] I fp' wr its (fun i h=>St i h/\Ex h) where
 sub:=fun b hb=>cV b (W.sub b hb)
 frame:=fun i h h' st k=>⟨W.frame i h h' st.1 fun b hb o e=>k b (cV b hb) o e,BF h h' st.2 k⟩
 bV:=fun i h st=>gK i h st.1 st.2
 rk:=fun i h st=>rl i h st.1
 item:=fun i it s env Q E hi st h=>by
  have aX:i<its.length:=(Bc.mp hi).1
  refine W.item i s _ E aX st.1 fun T vals h' tk hP hT HD vp hk=>⟨_,rfl,?_⟩
  refine W.go _ _ _ i T _ _ E vp fun ai cD aD=>?_
  have WB:T∉wr:=W.apart i T h' vp
  obtain⟨kv,v,u,ns,rfl,r,cb⟩:=hit i it vals s.heap ai hi hP st.2 fun b o hb e=>aD b o hb (hk b o hb e)
  have oi:IsTup ai T #[v,u]:=by obtain⟨o,ho,rr⟩:=HD;exact⟨o,aD T o WB ho,rr⟩
  refine assign_Tuple_tuple hh oi rfl rfl fun au he=>?_
  have up:∀b o,ai.get? b=some o->au.get? b=some o:=fun b o e=>he b o (Br (Bm e)) e
  have hlen:it.length=2:=by have:=r.length;exact this.symm
  have:=h [v,u] ns au tk (r.sub up) cb hlen ⟨W.frame _ _ _ cD fun b _ o e=>up b o e,BF _ _ kv fun b _ o e=>up b o e⟩ fun b o hb e=>up b o (aD b o hb (hk b o hb e))
  refine Ey (Dl (zE this fun _ aa ah=>?_))
  refine Ey (Dl (zE ah fun _ s₂ ai=>?_))
  exact Je ai
 done:=fun s Q E st hQ=>W.done s Q E st.1 hQ
 self:=fun i s Q E st hQ=>W.self i s Q E st.1 hQ
section
variable{prog:Program}{w:Co}{A:Am}{E:Value->Ab->Prop}{R:D6->Ab->Prop}{s:Ab}
theorem WC{elt target iter:Expr}{ifs:List Expr}{scope:Scope}{pos:B0}{I:Addr}{acc:Value}{env:Dy}(J:Nat->Ab->Prop)
  (turn:∀n s,J n s->
   Al (Af prog w) A (G0 (.ref I)) (fun r aa=>(r=none/\R (.ok .next) aa)\/rj prog w A target I env (Fy (Af prog w) A env fun e s'=>R (.error e) s') (fun s₂=>
     Al (Af prog w) A (forIn ifs true fun c r=>if r=true then do let ok<-Lp c env (eval c env);pure (B2 ok)else pure (B2 r)) (fun ok ak=>
      if ok=true then Al (Af prog w) A (eval elt env) (fun x aU=>
       Al (Af prog w) A (call (.builtin "list.append") [acc,x]) (fun _ cN=>∃m,m<n/\J m cN) (Fy (Af prog w) A env fun e s'=>R (.error e) s') aU) (Fy (Af prog w) A env fun e s'=>R (.error e) s') ak
      else ∃m,m<n/\J m ak) (Fy (Af prog w) A env fun e s'=>R (.error e) s') s₂) r aa) (Fy (Af prog w) A env fun e s'=>R (.error e) s') s)
  (n:Nat) (h:J n s):
  Ca (Af prog w) A (.compLoop (.ListComp elt [⟨target,iter,ifs,0⟩] scope pos) 0 (.ref I) acc env) R s:=by
 refine codeAny_loop rfl J (fun n s hI=>?_) n h
 refine(?_:Al _ A ((L9 (.ListComp elt [⟨target,iter,ifs,0⟩] scope pos) 0 (.ref I) acc env).onRaise (fun x=>do Hv x env;E5 x)) _ _ s)
 refine Ky ?_
 rw[compTurn_list]
 refine Ac (Cm (Ac (Bu (turn n s hI) (fun r aa ah=>?_) fun _ _ h'=>h')))
 rcases ah with⟨rfl,ah⟩|⟨v,rfl,ah⟩
 ·exact Ak ah
 ·refine Ac (Bu ah (fun _ pZ fu=>?_) fun _ _ h'=>h')
  refine Ac (Bu fu (fun _ s₂ ai=>Ac (Bu ai (fun ok ak au=>?_) fun _ _ h'=>h')) fun _ _ h'=>h')
  cases ok with
  |false=>exact Ak ⟨rfl,au⟩
  |true=>
   exact Ac (Ac (Bu au (fun x aU aW=>Ac (Bu aW (fun _ cN dQ=>Ak (Ak ⟨rfl,dQ⟩)) fun _ _ h'=>h')) fun _ _ h'=>h'))
noncomputable def HE(prog:Program)(w:Co)(A:Am)(elt target:Expr)(ifs:List Expr)(I:Addr)(acc:Value)(env:Dy)(R:D6->Ab->Prop)(J:Nat->Ab->Prop)(n:Nat)(s:Ab):Prop:=
 Al (Af prog w) A (G0 (.ref I)) (fun r aa=>(r=none/\R (.ok .next) aa)\/rj prog w A target I env (Fy (Af prog w) A env fun e s'=>R (.error e) s') (fun s₂=>
  Al (Af prog w) A (forIn ifs true fun c r=>if r=true then do let ok<-Lp c env (eval c env);pure (B2 ok)else pure (B2 r)) (fun ok ak=>
   if ok=true then Al (Af prog w) A (eval elt env) (fun x aU=>
    Al (Af prog w) A (call (.builtin "list.append") [acc,x]) (fun _ cN=>∃m,m<n/\J m cN) (Fy (Af prog w) A env fun e s'=>R (.error e) s') aU) (Fy (Af prog w) A env fun e s'=>R (.error e) s') ak
   else ∃m,m<n/\J m ak) (Fy (Af prog w) A env fun e s'=>R (.error e) s') s₂) r aa) (Fy (Af prog w) A env fun e s'=>R (.error e) s') s
theorem Pk{elt target iter:Expr}{ifs:List Expr}{scope:Scope}{pos:B0}{I:Addr}{acc:Value}{env:Dy}(J:Nat->Ab->Prop)(turn:∀n s,J n s->HE prog w A elt target ifs I acc env R J n s)(n:Nat)(h:J n s):
  Ca (Af prog w) A (.compLoop (.ListComp elt [⟨target,iter,ifs,0⟩] scope pos) 0 (.ref I) acc env) R s:=WC J turn n h
theorem BG{scope:Scope}{env:Dy}(h:∀y∈scope.names,y.2= .free->∃c,env.cells.lookup y.1=some c):
  ∃cl,Lx scope env=pure cl/\∀x c,env.cells.lookup x=some c->(x,Ce)∈scope.names->cl.lookup x=some c:=by
 have key:∀(ns:List (Str×Dd)) (acc:List (Str×Addr)),(∀y∈ns,y.2= .free->∃c,env.cells.lookup y.1=some c)->(∀z∈acc,env.cells.lookup z.1=some z.2)->
   ∃cl,(forIn ns acc fun y cs=>if(y.2==Ce)=true then do let c<-cellOf env y.1;pure (B2 ((y.1,c)::cs))else pure (B2 cs))=(pure cl:Ks _)/\
    (∀z∈cl,env.cells.lookup z.1=some z.2)/\(∀z∈acc,z∈cl)/\∀x c,env.cells.lookup x=some c->(x,Ce)∈ns->(x,c)∈cl:=by
  intro ns
  induction ns with
  |nil=>intro acc _ ha;exact⟨acc,rfl,ha,fun _ h=>h,fun _ _ _ h=>nomatch h⟩
  |cons y r ih=>
   intro acc hn ha
   refine af (Gx ..) ?_
   by_cases hy:(y.2==Ce)=true
   ·have GY:y.2= .free:=by exact eq_of_beq hy
    refine aH (hn y (Aj ..) GY) fun c hc=>?_
    obtain⟨cl,e1,e2,e3,e4⟩:=ih ((y.1,c)::acc) (fun z hz=>hn z (Ai _ hz)) (fun z hz=>by
     rcases Ay.mp hz with rfl|hz
     ·exact hc
     ·exact ha z hz)
    refine GF cl ?_ e2 (fun z hz=>e3 z (Ai _ hz)) (fun x c' hx hm=>?_)
    ·refine af (if_pos hy) ?_
     have ja:cellOf env y.1=pure c:=by unfold cellOf;exact af hc rfl
     refine af ja ?_
     exact e1
    ·rcases Ay.mp hm with rfl|hm
     ·rw[hc]at hx;obtain rfl:=Aa hx;exact e3 _ (Aj ..)
     ·exact e4 x c' hx hm
   ·refine j9 (ih acc (fun z hz=>hn z (Ai _ hz)) ha) fun cl e1 e2 e3 e4=>?_
    refine GF cl ?_ e2 e3 (fun x c' hx hm=>?_)
    ·refine af (if_neg hy) ?_;exact e1
    ·rcases Ay.mp hm with rfl|hm
     ·exact absurd rfl hy
     ·exact e4 x c' hx hm
 refine j9 (key scope.names [] h (fun _ h=>nomatch h)) fun cl e1 e2 _ e4=>?_
 refine i12 cl ?_ (fun x c hx hm=>?_)
 ·show(forIn scope.names [] _>>=fun cs=>pure cs)=_
  have:(fun(y:Str×Dd) (cs:List (Str×Addr))=>if(y.2==Ce)=true then do let c<-cellOf env y.1;pure (B2 ((y.1,c)::cs))else(pure (B2 cs):Ks _))=_:=rfl
  exact(congrArg (· >>=fun cs=>pure cs) e1)
 ·have hm:=e4 x c hx hm
  cases e:cl.lookup x with
  |none=>
   exfalso
   have:∀l:List (Str×Addr),(x,c)∈l->l.lookup x≠none:=by
    intro l
    induction l with
    |nil=>intro h;cases h
    |cons z r ih=>
     intro h
     refine af A7 ?_
     rcases Ay.mp h with h|h
     ·subst h;simp
     ·split
      ·simp
      ·exact ih h
   exact this cl hm e
  |some c'=>
   have:∀l:List (Str×Addr),l.lookup x=some c'->(x,c')∈l:=by
    intro l
    induction l with
    |nil=>intro h;exact nn h
    |cons z r ih=>
     intro h
     rw[A7]at h
     split at h
     ·rename_i hz
      obtain rfl:=Aa h
      have:x=z.1:=by exact eq_of_beq hz
      refine af this ?_;exact Aj ..
     ·exact Ai _ (ih h)
   have h1:=e2 _ (this cl e)
   rw[hx]at h1
   exact h1.symm
end
noncomputable def jI(kn:List (Str×Dd))(sc:List (Str×Dd)):List (Str×Dd):=
 sc.map fun(n,k)=>if(k== .free&&kn.lookup n==some .cell)then(n, .cell)else(n,k)
noncomputable def lr:Nat->List Str->List (Str×Nat)
 |_,[]=> []
 |n,x::r=>(x,n)::lr (n+1) r
noncomputable def Cx.et(C:Cx)(scope:Scope)(xs:List Str):Cx:=⟨jI C.kn scope.names,lr C.n xs++C.Γ,C.n+xs.length⟩
noncomputable def xV:List Str->Bool
 |[]=>true
 |x::r=>!r.contains x&&xV r
noncomputable def kx(C:Cx)(scope:Scope)(xs:List Str):Bool:=
 scope.kind== .function&&xV xs&&xs.all (fun x=>scope.names.lookup x==some .local)&&C.Γ.all (fun z=>decide (z.2<C.n))&&
 scope.names.all fun y=>y.2 != .cell&&(y.2 != .local||(scope.names.lookup y.1==some .local&&(xs.contains y.1||(C.Γ.lookup y.1).isNone)))&&
  (y.2 != .free||(C.kn.lookup y.1==some .cell||C.kn.lookup y.1==some .free))
section
variable(W:bx)(C:Cx)
noncomputable def iV(ifs:List Expr)(ts:eC):Prop:=∀env A E s σ b,Pre W C env A σ s->nY W.U ts σ=some b->
 Al (Af W.prog W.w) A (forIn ifs true fun c r=>if r=true then do let ok<-Lp c env (eval c env);pure (B2 ok)else pure (B2 r)) (fun b' s'=>b'=b/\KG s s') E s
inductive ky(A:Am)(s:Ab)(target:Expr)(xs:List Str)(its:List (List PV))(F:List Addr->Prop)(it:Value)(s₂:Ab):Prop
 |mk (I:Addr) (fp wr:List Addr) (St:Nat->Ap->Prop) (e:it= .ref I) (k:KG s s₂) (eu:∀b∈wr,s.heap.get? b=none) (bV:∀b∈fp,∃o,s₂.heap.get? b=some o) (T:dH W.prog W.w A target xs I fp wr its St) (st:St 0 s₂.heap) (hF:F fp):ky A s target xs its F it s₂
noncomputable def jb(target:Expr)(xs:List Str)(iter:Expr)(src:nW):Prop:=∀env A E s σ its,Pre W C env A σ s->kh W.U src σ=some its->its.length<=ag->
 Al (Af W.prog W.w) A (eval iter env) (fun xv aa=>Al (Af W.prog W.w) A (Hu xv) (ky W A s target xs its fun _=>True) E aa) E s
end
section
variable{W:bx}{C:Cx}
theorem iV.nil:iV W C [] .nil:=fun env A E s σ b P e=>by obtain rfl:=Aa e;exact wpAny_tests_nil ⟨rfl,jG _⟩
theorem iV.one{c:Expr}{t:PT}(h:du W C c t):iV W C [c] (.cons t .nil):=fun env A E s σ b P e=>by
 refine oB e fun b' e1 e2=>?_
 have:b'=b:=by cases b'<;>(simp[nY]at e2;exact e2.symm)
 subst this
 exact wpAny_tests_one (h env A E s σ b' P e1)
theorem wF{xs:List Str}:∀{n:Nat} {x:Str} {i:Nat},(lr n xs).lookup x=some i->∃j,i=n+j/\xs[j]?=some x:=by
 induction xs with
 |nil=>intro n x i h;exact nn h
 |cons y r ih=>
  intro n x i h
  unfold lr at h
  rw[A7]at h
  split at h
  ·rename_i hx
   obtain rfl:=Aa h
   refine i12 0 rfl ?_
   have:x=y:=by exact eq_of_beq hx
   rw[this];rfl
  ·refine aB (ih h) fun j e1 e2=>?_
   exact i12 (j+1) (by exact Eq.trans ‹_› (I3 _ _ _)) (by exact e2)
theorem WD{xs:List Str}:∀{n:Nat} {x:Str},(lr n xs).lookup x=none->x∉xs:=by
 induction xs with
 |nil=>intro n x _ h;cases h
 |cons y r ih=>
  intro n x h hm
  unfold lr at h
  rw[A7]at h
  split at h
  ·exact sn h
  ·rename_i hx
   rcases Ay.mp hm with rfl|hm
   ·simp at hx
   ·exact ih h hm
theorem Pl{α:Type}{l m:List (Str×α)}{x:Str}:(l++m).lookup x=(l.lookup x).or (m.lookup x):=by
 induction l with
 |nil=>simp
 |cons z r ih=>
  refine af B9 ?_
  refine af A7 ?_
  refine af A7 ?_
  split
  ·simp
  ·exact ih
theorem zT{α:Type}{l:List (Str×α)}{x:Str}{a:α}(h:l.lookup x=some a):(x,a)∈l:=by
 induction l with
 |nil=>exact nn h
 |cons z r ih=>
  rw[A7]at h
  split at h
  ·rename_i hx
   obtain rfl:=Aa h
   have:x=z.1:=by exact eq_of_beq hx
   rw[this];exact Aj ..
  ·exact Ai _ (ih h)
theorem vq{kn:List (Str×Dd)}:∀{sc:List (Str×Dd)} {x:Str} {k:Dd},(jI kn sc).lookup x=some k->
  ∃aI,sc.lookup x=some aI/\(k=aI\/(aI= .free/\k= .cell))
 |[],_,_,h=>by exact nn h
 |(n,k₁)::r,x,k,h=>by
  have ih:= @vq kn r x k
  change Fs x ((if(k₁== .free&&kn.lookup n==some .cell)=true then(n,C7)else(n,k₁))::jI kn r)=some k at h
  rw[A7]at h⊢
  by_cases hc:(k₁== .free&&kn.lookup n==some .cell)=true
  ·rw[if_pos hc]at h
   split at h
   ·rename_i hx
    obtain rfl:=Aa h
    simp only[Az,beq_iff_eq]at hc
    refine af (show(x==n)=true from hx) ?_
    exact i12 k₁ rfl (.inr ⟨hc.1,rfl⟩)
   ·rename_i hx
    rw[show(x==n)=false by simpa using hx]
    exact ih h
  ·rw[if_neg hc]at h
   split at h
   ·rename_i hx
    obtain rfl:=Aa h
    refine af (show(x==n)=true from hx) ?_
    exact i12 _ rfl (.inl rfl)
   ·rename_i hx
    rw[show(x==n)=false by simpa using hx]
    exact ih h
inductive rm(m:Str->Option Value):List Str->List Value->Prop
 |nil:rm m [] []
 |cons {x v xs vs}:m x=some v->rm m xs vs->rm m (x::xs) (v::vs)
theorem rm.get{m:Str->Option Value}{xs:List Str}{vs:List Value}(b:rm m xs vs):∀{j:Nat} {x:Str} {v:Value},xs[j]?=some x->vs[j]?=some v->m x=some v:=by
 induction b with
 |nil=>intro j x v e;exact nn e
 |cons h _ ih=>
  intro j x v e1 e2
  cases j with
  |zero=>obtain rfl:=Aa e1;obtain rfl:=Aa e2;exact h
  |succ j=>exact ih (j:=j) e1 e2
theorem BH{prog:Program}{w:Co}{A:Am}{E:Value->Ab->Prop}{bo:Dy}{Q:Ab->Prop}(hp:(bo.scope.kind== .class||(bo.scope.kind== .module&&bo.locals !=bo.globals))=false):
  ∀(xs:List Str) (vs:List Value) (s:Ab) (m:Str->Option Value),xs.length=vs.length->xV xs=true->(∀x∈xs,bo.kindOf x=some .local)->s.heap.Ns bo.locals m->
   (∀h' tk m',h'.Ns bo.locals m'->Cd bo.locals s.heap h'->rm m' xs vs->(∀y,y∉xs->m' y=m y)->Q {s with heap:=h',toks:=tk})->ri prog w A bo E Q (xs.zip vs) s:=by
 intro xs
 induction xs with
 |nil=>
  intro vs s m hl _ _ hn h
  cases vs with
  |nil=>exact h s.heap s.toks m hn (fun _ _ _ e=>e) .nil fun _ _=>rfl
  |cons v vs=>cases hl
 |cons x xs ih=>
  intro vs s m hl hd hk hn h
  cases vs with
  |nil=>cases hl
  |cons v vs=>
  simp only[xV,Az,Dm,Bz,decide_eq_false_iff_not]at hd
  rw[G1]
  refine wpAny_storeName_local (hk x (Aj ..)) hn (fun ah vt vu=>?_) hp
  refine ih vs _ _ (by simpa using hl) hd.2 (fun y hy=>hk y (Ai _ hy)) vt fun ai bU m₂ jJ vw hb ho=>?_
  refine h ai bU m₂ jJ (fun b o hb e=>vw b o hb (vu.extBut b o hb e)) (.cons ?_ hb) fun y hy=>?_
  ·rw[ho x hd.1];simp
  ·rw[ho y fun hm=>hy (Ai _ hm)]
   simp[show y≠x from fun q=>hy (q▸Aj ..)]
theorem bA{a b:Bool}(h:(a&&b)=true):a=true/\b=true:=Ba.mp h
theorem Pre.kd{env:Dy}{A:Am}{σ:List (Option PV)}{s:Ab}{x:Str}{k:Dd}(P:Pre W C env A σ s)(e:C.kn.lookup x=some k):env.kindOf x=some k:=(congrArg (Fs x) P.names).trans e
theorem Pre.out{env:Dy}{A:Am}{σ:List (Option PV)}{s:Ab}{x:Str}{i:Nat}{p:PV}(P:Pre W C env A σ s)(h:C.kn.lookup x=some .cell\/C.kn.lookup x=some .free)(e3:C.Γ.lookup x=some i)(e4:σ[i]?=some (some p)):
  ∃c v n,env.cells.lookup x=some c/\s.heap.IsCell c (some v)/\VR s.heap p v n:=
 have key:∀q,u9 q=true->q≠ .local->C.kn.lookup x=some q->_:=fun q e2 hn e1=>
  dZ (P.rd x i p q e1 e2 e3 e4) fun v n a r=>a.elim (fun h=>absurd (Aa ((P.kd e1).symm.trans h.1)) hn) fun h=>aB h.2 fun c hc hv=>⟨c,v,n,hc,hv,r⟩
 h.elim (key _ rfl nofun) (key _ rfl nofun)
theorem Pm{scope:Scope}{xs:List Str}{env:Dy}{A:Am}{σ:List (Option PV)}{s s':Ab}{cl:List (Str×Addr)}{L:Addr}{it:List PV}
  (h1:(scope.kind== .function)=true) (P:Pre W C env A σ s) (k:KG s s') (h4:C.Γ.all (fun z=>decide (z.2<C.n))=true) (dh:∀x c,env.cells.lookup x=some c->scope.names.lookup x=some .free->cl.lookup x=some c) (hl:it.length=xs.length)
  (vy:∀(x:Str) (j:Nat) (p:PV) kk,xs[j]?=some x->it[j]?=some p->(jI C.kn scope.names).lookup x=some kk->(B8 scope cl L env).kindOf x=some kk->∃v ns,Acc (B8 scope cl L env) s'.heap x v/\VR s'.heap p v ns)
  (HF:∀x aI i,scope.names.lookup x=some aI->x∉xs->C.Γ.lookup x=some i->u9 aI=true->aI= .free)
  (lu:∀x,scope.names.lookup x=some .free->C.kn.lookup x=some .cell\/C.kn.lookup x=some .free)
  (WE:∀x,scope.names.lookup x=some .cell->∃c,cl.lookup x=some c):Pre W (C.et scope xs) (B8 scope cl L env) A (σ++it.map some) s':=by
 have cP:(Fg scope env).names=jI C.kn scope.names:=by
  refine Cv fun z _=>?_
  refine(?_:(if(z.2==Ce&&env.scope.kind== .function&&env.scope.names.lookup z.1==some .cell)=true then _ else _)=_)
  rw[P.kind,P.names,show(G2==G2)=true from rfl,Lk]
 refine⟨eq_of_beq h1,cP,P.gl,P.bl,P.room,?_,fun x i p kk e1 e2 e3 e4=>?_,W.mono P.wd (zV k),fun x kk e1 e2=>?_⟩
 ·refine(?_:(σ++it.map some).length=C.n+xs.length)
  rw[Ah,An,P.len,hl]
 ·have jc:(B8 scope cl L env).kindOf x=some kk:=(congrArg (Fs x) cP).trans e1
  have e3:(lr C.n xs++C.Γ).lookup x=some i:=e3
  rw[Pl]at e3
  cases hx:(lr C.n xs).lookup x with
  |some i'=>
   rw[hx]at e3
   obtain rfl:=Aa e3
   refine aB (wF hx) fun j aM hj=>?_
   subst aM
   rw[C3 (P.len▸C8 ..),P.len,G6,Bj]at e4
   refine aB (Bp.mp e4) fun q e q'=>?_
   exact vy x j p kk hj (Aa q'▸e) e1 jc
  |none=>
   rw[hx]at e3
   have e3:C.Γ.lookup x=some i:=e3
   rw[B6 (P.len▸of_decide_eq_true (Ao.mp h4 _ (zT e3)))]at e4
   refine aB (vq e1) fun aI e5 e6=>?_
   have hf:aI= .free:=e6.elim (fun q=>HF x aI i e5 (WD hx) e3 (q▸e2)) (·.1)
   subst hf
   obtain⟨c,v,n,hc,hv,r⟩:=P.out (lu x e5) e3 e4
   exact nV v n (.inr ⟨e6.elim (fun q=> .inr (q▸jc)) (fun q=> .inl (q.2▸jc)),c,dh x c hc e5,hv.keeps (zV k)⟩) (r.sub (zV k))
 ·refine aB (vq (show(jI C.kn scope.names).lookup x=some kk from e1)) fun aI e5 e6=>?_
  refine(e6.elim (fun q=>q▸e2) (fun q=> .inr q.1):aI= .cell\/aI= .free).elim (fun q=>WE x (q▸e5)) fun q=>?_
  subst q
  exact aH ((lu x e5).elim (fun e=>P.eP x _ e (.inl rfl)) (fun e=>P.eP x _ e (.inr rfl))) fun c hc=>cu c (dh x c hc e5)
theorem Pn{scope:Scope}{xs:List Str}{env:Dy}{A:Am}{σ:List (Option PV)}{s s':Ab}{cl:List (Str×Addr)}{L:Addr}{m:Str->Option Value}{it:List PV}{vs:List Value}{ns:List Addr}
  (bj:kx C scope xs=true) (P:Pre W C env A σ s) (k:KG s s') (dh:∀x c,env.cells.lookup x=some c->(x,Ce)∈scope.names->cl.lookup x=some c)
  (hn:s'.heap.Ns L m) (hb:rm m xs vs) (hr:ao s'.heap it vs ns) (hl:it.length=xs.length):Pre W (C.et scope xs) (B8 scope cl L env) A (σ++it.map some) s':=by
 refine aq (bA bj) fun bj h5=>?_
 refine aq (bA bj) fun bj h4=>?_
 refine aq (bA bj) fun bj h3=>?_
 have h5:=fun x k (e:scope.names.lookup x=some k)=>Ao.mp h5 _ (zT e)
 refine Pm (bA bj).1 P k h4 (fun x c h e=>dh x c h (zT e)) hl (fun x j p kk hj hg e1 jc=>?_) (fun x aI i e5 hx e3 e2=>?_) (fun x e5=>?_) fun x e5=>?_
 ·refine aB (vq e1) fun aI e5 e6=>?_
  have e5:=Aa ((eq_of_beq (Ao.mp h3 x (C4 hj))).symm.trans e5)
  have HG:kk= .local:=e6.elim (·.trans e5.symm) fun q=>nomatch e5.trans q.1
  refine da (hr.get hg) fun v n e7 e8 _=>?_
  exact nV v n (.inl ⟨HG▸jc,m,hn,hb.get hj e7⟩) e8
 ·have hm:=h5 x aI e5
  cases aI with
  | «local» =>simp[e3,hx]at hm
  |cell=>exact ft hm
  |free=>rfl
  |globalImplicit=>exact ft e2
  |globalExplicit=>exact ft e2
 ·have hm:=(bA (h5 x _ e5)).2
  simpa using hm
 ·exact ft (h5 x _ e5)
end
theorem VR.nodes{h:Ap}{p:PV}{v:Value}{ns:List Addr}(x:VR h p v ns):∀a∈ns,∃items n,h.get? a=some {cls:= .type "list",data:= .seq items n}:=
 VR.rec (motive_1:=fun _ _ ns _=>∀a∈ns,∃items n,h.get? a=some {cls:= .type "list",data:= .seq items n}) (motive_2:=fun _ _ ns _=>∀a∈ns,∃items n,h.get? a=some {cls:= .type "list",data:= .seq items n})
  (fun _ h=>(Aq h).elim) (fun _ _ h=>(Aq h).elim) (fun _ _ _ h=>(Aq h).elim) (fun _ _ _ h=>(Aq h).elim) (fun _ _ h=>(Aq h).elim)
  (fun hl _ ih a ha=>(Ay.mp ha).elim (fun q=>let⟨n,e⟩:=hl;⟨_,n,q▸e⟩) (ih a)) (fun _ h=>(Aq h).elim) (fun _ _ i1 i2 a ha=>(Bb.mp ha).elim (i1 a) (i2 a)) x
theorem ao.nodes{h:Ap}{p:List PV}{v:List Value}{ns:List Addr}(x:ao h p v ns):∀a∈ns,∃items n,h.get? a=some {cls:= .type "list",data:= .seq items n}:=
 x.ind (M:=fun _ _ ns=>∀a∈ns,∃items n,h.get? a=some {cls:= .type "list",data:= .seq items n}) (fun _ h=>(Aq h).elim) fun hv _ ih a ha=>(Bb.mp ha).elim (hv.nodes a) (ih a)
theorem ao.bV{h:Ap}{p:List PV}{v:List Value}{ns:List Addr}(r:ao h p v ns):∀a∈ns,∃o,h.get? a=some o:=fun a ha=>let⟨_,_,e⟩:=r.nodes a ha;⟨_,e⟩
theorem VR.bV{h:Ap}{p:PV}{v:Value}{ns:List Addr}(r:VR h p v ns):∀a∈ns,∃o,h.get? a=some o:=fun a ha=>let⟨_,_,e⟩:=r.nodes a ha;⟨_,e⟩
theorem wH{h:Ap}{c:Addr}{m:Str->Option Value}(hn:h.Ns c m){items:Array Value}{n:Nat}(e:h.get? c=some {cls:= .type "list",data:= .seq items n}):False:=by
 refine nT hn fun o es ep ho hd _=>?_
 rw[ho]at e;obtain rfl:=Aa e;cases hd
theorem VR.jd{h:Ap}{p:PV}{v:Value}{ns:List Addr}(r:VR h p v ns){c:Addr}{m:Str->Option Value}(hn:h.Ns c m):c∉ns:=fun ha=>let⟨_,_,e⟩:=r.nodes c ha;wH hn e
theorem lz{s s':Ab}(k:KG s s')(h:Ap)(t:Nat)(e:Sub s.heap h):KG s {s' with heap:=h,toks:=t}:=by
 obtain⟨h',t',g,rfl,_,x⟩:=k
 exact⟨h,t,g,rfl,e,x⟩
section
variable{W:bx}{C:Cx}
noncomputable def l3(U:Uc)(elt:PE)(ifs:eC)(σ:List (Option PV))(it:List PV):Option (Option PV):=
 (nY U ifs (σ++it.map some)).bind fun ok=>if ok then(ev U elt (σ++it.map some)).bind fun y=>if fresh elt y then some (some y)else none else some none
theorem WG{U:Uc}{pe:PE}{ts:eC}{σ:List (Option PV)}{it:List PV}{y:PV}(e:l3 U pe ts σ it=some (some y)):nY U ts (σ++it.map some)=some true/\ev U pe (σ++it.map some)=some y/\fresh pe y=true:=by
 refine oB e fun ok e1 e2=>?_
 cases ok with
 |false=>exact nn (Aa e2)
 |true=>
  refine oB e2 fun z e3 e4=>?_
  refine oI e4 fun hf e5=>?_
  obtain rfl:=Aa (Aa e5)
  exact nU e1 e3 hf
theorem WH{U:Uc}{pe:PE}{ts:eC}{σ:List (Option PV)}{it:List PV}(e:l3 U pe ts σ it=some none):nY U ts (σ++it.map some)=some false:=by
 refine oB e fun ok e1 e2=>?_
 cases ok with
 |false=>exact e1
 |true=>
  refine oB e2 fun z e3 e4=>?_
  exact sn (Aa (rb e4).2)
theorem WI{f:List PV->Option (Option PV)}{it:List PV}{l:List (List PV)}{r:List PV}(e:zQ f (it::l)=some r):(∃y r',f it=some (some y)/\zQ f l=some r'/\r=y::r')\/(f it=some none/\zQ f l=some r):=by
 unfold zQ at e
 cases q:f it with
 |none=>rw[q]at e;exact nn e
 |some o=>
  rw[q]at e
  cases o with
  |none=>exact .inr ⟨rfl,e⟩
  |some y=>obtain⟨r',e1,rfl⟩:=dk e;exact .inl ⟨y,r',rfl,e1,rfl⟩
theorem WJ{α:Type}{l:List α}{i:Nat}(h:i<l.length):∃x,l[i]?=some x/\l.drop i=x::l.drop (i+1):=⟨l[i],by simp[h],A5 h⟩
structure CS(s:Ab)(D:Addr)(fp:List Addr)(St:Nat->Ap->Prop)(J:Ap->Prop)(i:Nat)(ys:List Value)(qs:List PV)(ns:List Addr)(s':Ab):Prop where
 k:KG s s'
 st:St i s'.heap
 pl:s'.heap.PlainList D ys.toArray
 vs:ao s'.heap qs ys ns
 fr:wN s.heap ns
 dn:D∉ns
 nf:∀a∈ns,a∉fp
 j:J s'.heap
structure p8(W:bx)(C':Cx)(bo:Dy)(A:Am)(σ:List (Option PV))(s:Ab)(xs:List Str)(D Z:Addr)(fp wr:List Addr)(J:Ap->Prop):Prop where
 nD:s.heap.get? D=none
 nZ:s.heap.get? Z=none
 eu:∀b∈wr,s.heap.get? b=none
 DZ:D≠Z
 Df:D∉fp
 Zf:Z∉fp
 rk:∀h,J h->∀items n,h.get? Z≠some {cls:= .type "list",data:= .seq items n}
 fr:∀h h',J h->(∀b o,b∉fp->b≠D->h.get? b=some o->h'.get? b=some o)->J h'
 store:∀(it:List PV) (us:List Value) (ms:List Addr) (s':Ab) (Q:Ab->Prop) (E:Value->Ab->Prop),J s'.heap->KG s s'->it.length=xs.length->ao s'.heap it us ms->Z∉ms->
  (∀h tk,J h->Cd Z s'.heap h->Pre W C' bo A (σ++it.map some) {s' with heap:=h,toks:=tk}->Q {s' with heap:=h,toks:=tk})->ri W.prog W.w A bo E Q (xs.zip us) s'
inductive BI(s:Ab)(D:Addr)(fp:List Addr)(St:Nat->Ap->Prop)(J:Ap->Prop)(its:List (List PV))(ps:List PV)(F:List PV->Option (Option PV))(n:Nat)(s':Ab):Prop
 |mk (i:Nat) (ys:List Value) (qs rest:List PV) (ns:List Addr) (hn:n=its.length+1-i) (hi:i<=its.length) (S:CS s D fp St J i ys qs ns s') (run:zQ F (its.drop i)=some rest) (g8:ps=qs++rest) (t8:ys.length<=i):BI s D fp St J its ps F n s'
section
variable{C':Cx}{bo:Dy}{A:Am}{σ:List (Option PV)}{s s' bN:Ab}{xs:List Str}{D Z I:Addr}{fp wr:List Addr}{J:Ap->Prop}{target:Expr}{its:List (List PV)}{St:Nat->Ap->Prop}{i:Nat}{ys:List Value}{qs:List PV}{ns:List Addr}{h:Ap}{tk:Nat}
theorem CS.kp(B:p8 W C' bo A σ s xs D Z fp wr J)(T:dH W.prog W.w A target xs I fp wr its St)(S:CS s D fp St J i ys qs ns s')(k:KG s' bN):CS s D fp St J i ys qs ns bN:=
 ⟨zI S.k k,T.frame _ _ _ S.st fun b _ o e=>zV k b o e,S.pl.at fun o e=>zV k D o e,S.vs.sub (zV k),S.fr,S.dn,S.nf,B.fr _ _ S.j fun b o _ _ e=>zV k b o e⟩
theorem CS.fin(B:p8 W C' bo A σ s xs D Z fp wr J)(T:dH W.prog W.w A target xs I fp wr its St)(S:CS s D fp St J i ys qs ns s'){St':Nat->Ap->Prop}{i':Nat}(k:∀b o,b∉wr->s'.heap.get? b=some o->h.get? b=some o)(st:St' i' h):CS s D fp St' J i' ys qs ns {s' with heap:=h,toks:=tk}:=
 ⟨lz S.k _ _ fun b o e=>k b o (fun hb=>by rw[B.eu b hb]at e;exact nn e) (zV S.k b o e),st,S.pl.at fun o e=>k D o (fun h=>B.Df (T.sub _ h)) e,S.vs.on fun a ha o e=>k a o (fun hw=>S.nf a ha (T.sub _ hw)) e,S.fr,S.dn,S.nf,B.fr _ _ S.j fun b o hb _ e=>k b o (fun h=>hb (T.sub _ h)) e⟩
theorem CS.stored(B:p8 W C' bo A σ s xs D Z fp wr J)(T:dH W.prog W.w A target xs I fp wr its St)(S:CS s D fp St J i ys qs ns s')(j:J h)(k:Cd Z s'.heap h):CS s D fp St J i ys qs ns {s' with heap:=h,toks:=tk}:=
 ⟨lz S.k _ _ fun b o e=>k b o (fun q=>by rw[q,B.nZ]at e;exact nn e) (zV S.k b o e),T.frame _ _ _ S.st fun b hb o e=>k b o (fun q=>B.Zf (q▸hb)) e,S.pl.at fun o e=>k D o B.DZ e,
  S.vs.on fun a ha o e=>k a o (fun q=>let⟨_,_,e'⟩:=S.vs.nodes a ha;B.rk _ S.j _ _ (q▸e')) e,S.fr,S.dn,S.nf,j⟩
theorem CS.add(B:p8 W C' bo A σ s xs D Z fp wr J)(T:dH W.prog W.w A target xs I fp wr its St)(S:CS s D fp St J i ys qs ns s'){ls:List Addr}{v:Value}{y:PV}(k:KG s' bN)(r:VR bN.heap y v ls)(f:wN s'.heap ls)(pl:h.PlainList D (ys.toArray.push v))(b:Heap.SameBut D bN.heap h):
  CS s D fp St J i (ys++[v]) (qs++[y]) (ns++ls) {bN with heap:=h}:=by
 have dl:D∉ls:=fun m=>by obtain⟨n,e⟩:=S.pl;rw[f.new D m]at e;exact nn e
 refine⟨lz (zI S.k k) h bN.toks fun a o e=>b.extBut a o (fun q=>by rw[q,B.nD]at e;exact nn e) (zV k a o (zV S.k a o e)),T.frame _ _ _ S.st fun a ha o e=>b.extBut a o (fun q=>B.Df (q▸ha)) (zV k a o e),by simpa using pl,
  .append ((S.vs.sub (zV k)).on fun a ha o e=>b.extBut a o (fun q=>S.dn (q▸ha)) e) (.one (r.on fun a ha o e=>b.extBut a o (fun q=>dl (q▸ha)) e)),
  ⟨Hf.mpr ⟨S.fr.nodup,f.nodup,fun a ha c hc q=>?_⟩,fun a ha=>(Bb.mp ha).elim (S.fr.new a) fun h=>ny (zV S.k) (f.new a h)⟩,fun h=>(Bb.mp h).elim S.dn dl,
  fun a ha=>(Bb.mp ha).elim (S.nf a) fun h hf=>?_,B.fr _ _ S.j fun a o _ ha e=>b.extBut a o ha (zV k a o e)⟩
 ·refine aH (S.vs.bV a ha) fun o e=>?_
  rw[f.new a (q▸hc)]at e;exact nn e
 ·refine aH (T.bV _ _ S.st a hf) fun o e=>?_
  rw[f.new a h]at e;exact nn e
theorem WK{elt:Expr}{ifs:List Expr}{pe:PE}{ts:eC}{ps:List PV}{R:D6->Ab->Prop}{n:Nat}(B:p8 W C' bo A σ s xs D Z fp wr J)(T:dH W.prog W.w A target xs I fp wr its St)(bw:av W C' elt pe)(de:iV W C' ifs ts)(hsz:its.length<=ag)
  (gv:∀s' ns,KG s s'->J s'.heap->VR s'.heap (.list ps) (.ref D) ns->wN s.heap ns->R (.ok .next) s') (x:BI s D fp St J its ps (l3 W.U pe ts σ) n s'):
  HE W.prog W.w A elt target ifs I (.ref D) bo R (BI s D fp St J its ps (l3 W.U pe ts σ)) n s':=by
 obtain⟨i,ys,qs,rest,ns,rfl,hi,S,run,g8,t8⟩:=x
 by_cases aX:i<its.length
 ·refine aB (WJ aX) fun it hit dN=>?_
  rw[dN]at run
  have less:its.length+1-(i+1)<its.length+1-i:=Nat.sub_lt_sub_left (Jf aX) (Bk i)
  refine zE (T.item i it s' _ _ _ hit S.st fun us ms ai bU gb fv hlen cD aD=>?_) fun r aa h=> .inr h
  have ec:=S.fin (tk:=bU) B T aD cD
  refine B.store it us ms _ _ _ ec.j ec.k hlen gb (fun h=>B.Zf (fv _ h)) fun au dw hJ he l4=>?_
  have oj:=ec.stored (tk:=dw) B T hJ he
  rcases WI run with⟨y,r',e1,e2,rfl⟩|⟨e1,e2⟩
  ·refine dY (WG e1) fun e3 e4 e5=>?_
   refine zE (de _ A _ _ _ true l4 e3) fun WM aU aW=>?_
   refine aq aW fun aG cn=>?_
   clear aW
   subst aG
   refine af (if_pos rfl) ?_
   refine zE (bw _ A _ _ _ y (l4.kp cn) e4) fun v cN dQ=>?_
   obtain⟨eX,ls,fZ,HH⟩:=dQ
   have gc:=oj.kp B T cn
   refine Fi (hsz:=by(refine af A3 ?_;refine af Bo ?_);exact Ad t8 (Ad hi hsz)) ((gc.kp B T eX).pl) fun eE fy dy=>?_
   exact i12 _ less (.mk (i+1) _ _ r' _ rfl aX (gc.add B T eX fZ (HH e5) fy dy) e2 (by(refine af g8 ?_;refine af (Bf ..) ?_);rfl) (by refine af Ah ?_;exact Du t8))
  ·refine zE (de _ A _ _ _ false l4 (WH e1)) fun WM aU aW=>?_
   refine aq aW fun aG cn=>?_
   clear aW
   subst aG
   refine af (if_neg Bt) ?_
   exact i12 _ less (.mk (i+1) _ _ rest _ rfl aX (oj.kp B T cn) e2 g8 (Jg t8))
 ·obtain rfl:i=its.length:=Ij hi (Ew.mp aX)
  rw[Hw]at run
  obtain rfl:=Aa run
  rw[Bx]at g8
  subst g8
  refine T.done _ _ _ S.st fun ai bU aD=> .inl ⟨rfl,?_⟩
  have ec:=S.fin (St':=fun _ _=>True) (i':=0) (tk:=bU) B T aD trivial
  exact gv _ (D::ns) ec.k ec.j (.list ec.pl ec.vs) ⟨Cs.mpr ⟨ec.dn,ec.fr.nodup⟩,Kz.mpr ⟨B.nD,ec.fr.new⟩⟩
theorem Po{elt iter:Expr}{scope:Scope}{pos:B0}{ifs:List Expr}{pe:PE}{ts:eC}{ps:List PV}{R:D6->Ab->Prop}(B:p8 W C' bo A σ s xs D Z fp wr J)(T:dH W.prog W.w A target xs I fp wr its St)(bw:av W C' elt pe)(de:iV W C' ifs ts)(hsz:its.length<=ag)
  (run:zQ (l3 W.U pe ts σ) its=some ps) (gv:∀s' ns,KG s s'->J s'.heap->VR s'.heap (.list ps) (.ref D) ns->wN s.heap ns->R (.ok .next) s') (S:CS s D fp St J 0 [] [] [] s'):
  Ca (Af W.prog W.w) A (.compStart (.ListComp elt [⟨target,iter,ifs,0⟩] scope pos) 0 (.ref I) (.ref D) bo) R s':=
 have loop:=Pk (BI s D fp St J its ps (l3 W.U pe ts σ)) (fun _ _ h=>WK B T bw de hsz gv h) (its.length+1) (.mk 0 [] [] ps [] rfl (C2 _) S run rfl (Bv _))
 Hg loop (T.self 0 _ _ _ S.st loop)
end
theorem Pp{scope:Scope}{xs:List Str}(h:kx C scope xs=true):scope.kind= .function/\xV xs=true/\(∀x∈xs,scope.names.lookup x=some .local)/\∀y∈scope.names,y.2≠ .cell:=by
 unfold kx at h
 refine aq (b2 h) fun h h5=>?_
 refine aq (b2 h) fun h _=>?_
 refine aq (b2 h) fun h h3=>?_
 refine aq (b2 h) fun h1 h2=>?_
 exact OQ (eq_of_beq h1) h2 (fun x hx=>eq_of_beq (Ao.mp h3 x hx)) (fun y hy=>bne_iff_ne.mp (b2 (b2 (Ao.mp h5 y hy)).1).1)
section
variable{elt iter target:Expr}{xs:List Str}{x:Str}{ifs:List Expr}{scope:Scope}{pos:B0}{pe:PE}{ts:eC}{env:Dy}{A:Am}{E:Value->Ab->Prop}{σ:List (Option PV)}{s s₂:Ab}{cl:List (Str×Addr)}
 {I:Addr} {fp wr:List Addr} {its:List (List PV)} {St:Nat->Ap->Prop} {ps:List PV} {RR:Value->Addr->D6->Ab->Prop}
structure Pq(h ah:Ap)(D L Z:Addr):Prop where
 d:h.objs.size=D
 l:D<L
 z:L<=Z
 old:∀b o,h.get? b=some o->ah.get? b=some o
 acc:ah.PlainList D ([]:List Value).toArray
theorem WN{D L:Addr}{ah:Ap}{tk:Nat}{m:Str->Option Value}(bj:kx C scope xs=true)(P:Pre W C env A σ s)(dh:∀x c,env.cells.lookup x=some c->(x,Ce)∈scope.names->cl.lookup x=some c)
  (bw:av W (C.et scope xs) elt pe) (de:iV W (C.et scope xs) ifs ts)
  (aI:KG s s₂) (eu:∀b∈wr,s.heap.get? b=none) (cV:∀b∈fp,∃o,s₂.heap.get? b=some o) (T:dH W.prog W.w A target xs I fp wr its St) (st:St 0 s₂.heap) (hsz:its.length<=ag)
  (run:zQ (l3 W.U pe ts σ) its=some ps)
  (gv:∀D L s' ns m',s.heap.get? L=none->KG s s'->s'.heap.Ns L m'->VR s'.heap (.list ps) (.ref D) ns->wN s.heap ns->L∉ns->RR (.ref D) L (.ok .next) s')
  (N:Pq s₂.heap ah D L L) (hn:ah.Ns L m):
  Ca (Af W.prog W.w) A (.compStart (.ListComp elt [⟨target,iter,ifs,0⟩] scope pos) 0 (.ref I) (.ref D) (B8 scope cl L env)) (RR (.ref D) L) {s₂ with heap:=ah,toks:=tk}:=by
 refine tK (Pp bj) fun aV g9 bg aT=>?_
 have nD:s₂.heap.get? D=none:=vc (Cr N.d)
 have nL:s₂.heap.get? L=none:=vc (Cj (N.d▸N.l))
 have off:∀{a:Addr},s₂.heap.get? a=none->a∉fp:=fun e hm=>by obtain⟨o,e'⟩:=cV _ hm;rw[e]at e';exact nn e'
 have B:p8 W (C.et scope xs) (B8 scope cl L env) A σ s xs D L fp wr (fun h=>∃m,h.Ns L m):=
  {nD:=ny (zV aI) nD,nZ:=ny (zV aI) nL,eu:=eu,DZ:=Br N.l,Df:=off nD,Zf:=off nL
   rk:=fun h ⟨m,hn⟩ items n e=>wH hn e
   fr:=fun h h' ⟨m,hn⟩ k=>⟨m,hn.at' fun o e=>k L o (off nL) (Hi N.l) e⟩
   store:=fun it us ms s' Q E ⟨m,hn⟩ k hl hv hz hQ=>BH (by simp[B8,Fg,aV]) xs us _ m (by rw[<-hl];exact hv.length.symm) g9 (fun x hx=>Gf (bg x hx)) hn fun au dw gf dz bF gw _=>
    hQ au dw ⟨gf,dz⟩ bF (Pn bj P (lz k _ _ fun b o e=>bF b o (fun q=>by have e:s.heap.get? b=some o:=e;rw[show b=L from q,ny (zV aI) nL]at e;exact nn e) (zV k b o e)) dh dz gw (hv.on fun a ha o e=>bF a o (fun q=>hz ((show a=L from q)▸ha)) e) hl)}
 exact Po B T bw de hsz run (fun s' ns k ⟨m,hn⟩ r f=>gv D L s' ns m B.nZ k hn r f (r.jd hn))
  ⟨lz aI _ _ fun b o e=>N.old b o (zV aI b o e),T.frame _ _ _ st fun b _ o e=>N.old b o e,N.acc, .nil,wN.nil _,(fun h=>nomatch h),(fun _ h=>nomatch h),⟨m,hn⟩⟩
theorem WO(bj:kx C scope xs=true)(P:Pre W C env A σ s)(dh:∀x c,env.cells.lookup x=some c->(x,Ce)∈scope.names->cl.lookup x=some c)
  (bw:av W (C.et scope xs) elt pe) (de:iV W (C.et scope xs) ifs ts)
  (aI:KG s s₂) (eu:∀b∈wr,s.heap.get? b=none) (cV:∀b∈fp,∃o,s₂.heap.get? b=some o) (T:dH W.prog W.w A target xs I fp wr its St) (st:St 0 s₂.heap) (hsz:its.length<=ag)
  (run:zQ (l3 W.U pe ts σ) its=some ps)
  (gv:∀D L s' ns m',s.heap.get? L=none->KG s s'->s'.heap.Ns L m'->VR s'.heap (.list ps) (.ref D) ns->wN s.heap ns->L∉ns->RR (.ref D) L (.ok .next) s'):
  Al (Af W.prog W.w) A (Ma []) (fun acc ak=>Al (Af W.prog W.w) A (Gg scope env.globals cl [] env.qual none .none (some env)) (fun bo aU=>
   Ca (Af W.prog W.w) A (.compStart (.ListComp elt [⟨target,iter,ifs,0⟩] scope pos) 0 (.ref I) acc {bo with scope:=Fg scope env}) (RR acc bo.locals) aU) E ak) E s₂:=by
 refine tK (Pp bj) fun aV g9 bg aT=>?_
 refine Cb (Fb aT (by intro y hy;simp at hy) (fun ah dR dA=>?_) aV)
 have hL:(s₂.heap.push {cls:= .type "list",dict:=none,data:= .seq ([]:List Value).toArray}).objs.size=s₂.heap.objs.size+1:=Ez ..
 have up:∀b o,b≠s₂.heap.objs.size+1->(s₂.heap.push {cls:= .type "list",dict:=none,data:= .seq ([]:List Value).toArray}).get? b=some o->ah.get? b=some o:=fun b o hb e=>dA.extBut b o (fun q=>hb (q.trans hL)) (Ag _ e)
 exact WN (s₂:=s₂) bj P dh bw de aI eu cV T st hsz run gv ⟨rfl,by rw[hL];exact Bk _,Bv _,fun b o e=>up b o (Br (Jf (Bm e))) (Ag _ e),
  ⟨_,up _ _ (Br (Bk _)) (Av _ rfl)⟩⟩ dR
end
noncomputable def rn(C:Cx)(scope:Scope)(xs:List Str):Bool:=match xs with
 |[x]=>scope.kind== .function&&scope.names.filter (fun y=>y.2== .cell)==[(x, .cell)]&&scope.names.lookup x==some .cell&&C.Γ.all (fun z=>decide (z.2<C.n))&&
  scope.names.all fun y=>(y.2 != .local||(scope.names.lookup y.1==some .local&&(C.Γ.lookup y.1).isNone))&&(y.2 != .free||(C.kn.lookup y.1==some .cell||C.kn.lookup y.1==some .free))&&(y.1 !=x||y.2== .cell)
 |_=>false
theorem Pr{C:Cx}{scope:Scope}{xs:List Str}(h:rn C scope xs=true):∃x,xs=[x]:=by
 cases xs with
 |nil=>exact ft h
 |cons x r=>
  cases r with
  |nil=>exact⟨x,rfl⟩
  |cons=>exact ft h
noncomputable def oo(C:Cx)(scope:Scope)(xs:List Str):Bool:=kx C scope xs||rn C scope xs
theorem HI{scope:Scope}{xs:List Str}(h:oo C scope xs=true):scope.kind= .function/\(∀y∈scope.names,y.2= .local->scope.names.lookup y.1=some .local)/\∀y∈scope.names,y.2= .free->C.kn.lookup y.1=some .cell\/C.kn.lookup y.1=some .free:=by
 unfold oo at h
 simp only[Ej]at h
 rcases h with h|h
 ·unfold kx at h
  simp only[Az,Ao,beq_iff_eq,decide_eq_true_eq]at h
  refine aq h fun bJ h5=>?_
  refine aq bJ fun bJ _=>?_
  obtain⟨⟨aV,g9⟩,bg⟩:=bJ
  refine nU aV (fun y hy hl=>?_) (fun y hy hf=>?_)
  ·have:=(h5 y hy).1.2
   rw[hl]at this
   simp at this
   exact this.1
  ·have:=(h5 y hy).2
   rw[hf]at this
   simpa using this
 ·refine aH (Pr h) fun x aM=>?_
  subst aM
  unfold rn at h
  simp only[Az,Ao,beq_iff_eq,decide_eq_true_eq]at h
  refine aq h fun bJ h5=>?_
  refine aq bJ fun bJ _=>?_
  obtain⟨⟨aV,_⟩,_⟩:=bJ
  refine nU aV (fun y hy hl=>?_) (fun y hy hf=>?_)
  ·have:=(h5 y hy).1.1
   rw[hl]at this
   simp at this
   exact this.1
  ·have:=(h5 y hy).1.2
   rw[hf]at this
   simpa using this
theorem Pu{M:Mo}{A:Am}{E:Value->Ab->Prop}:∀(names:List (Str×Dd)) (acc:List (Str×Addr)) (s:Ab) (Q:List (Str×Addr)->Ab->Prop),names.filter (fun y=>y.2== .cell)=[]->Q acc s->
  Al M A (forIn names acc fun z cells=>if(z.2==C7)=true then do let c<-alloc {cls:= .type "cell",data:= .cell none};pure (B2 ((z.1,c)::cells))else pure (B2 cells)) Q E s
 |[],acc,s,Q,_,h=>Ak h
 |z::r,acc,s,Q,hf,h=>by
  rw[Gx]
  rw[Gn]at hf
  by_cases hz:(z.2==C7)=true
  ·rw[if_pos hz]at hf;cases hf
  ·rw[if_neg hz]at hf
   rw[if_neg hz]
   exact Ac (Ak (Pu r acc s Q hf h))
theorem Pw{M:Mo}{A:Am}{E:Value->Ab->Prop}{x:Str}:∀(names:List (Str×Dd)) (acc:List (Str×Addr)) (s:Ab) (Q:List (Str×Addr)->Ab->Prop),names.filter (fun y=>y.2== .cell)=[(x, .cell)]->
  Q ((x,s.heap.objs.size)::acc) {s with heap:=s.heap.push {cls:= .type "cell",data:= .cell none} }->
  Al M A (forIn names acc fun z cells=>if(z.2==C7)=true then do let c<-alloc {cls:= .type "cell",data:= .cell none};pure (B2 ((z.1,c)::cells))else pure (B2 cells)) Q E s
 |[],acc,s,Q,hf,h=>by cases hf
 |z::r,acc,s,Q,hf,h=>by
  refine af (Gx ..) ?_
  rw[Gn]at hf
  by_cases hz:(z.2==C7)=true
  ·rw[if_pos hz]at hf
   simp only[List.cons.injEq]at hf
   obtain⟨rfl,hf⟩:=hf
   refine af (if_pos hz) ?_
   exact Ac (Ac (wpAny_alloc (Ak (Pu r _ _ Q hf h))))
  ·rw[if_neg hz]at hf
   refine af (if_neg hz) ?_
   exact Ac (Ak (Pw r acc s Q hf h))
theorem WQ{M:Mo}{A:Am}{E:Value->Ab->Prop}{s:Ab}{scope:Scope}{g:Addr}{cl:List (Str×Addr)}{q:Str}{env:Dy}{x:Str}{Q:Dy->Ab->Prop}(hf:scope.names.filter (fun y=>y.2== .cell)=[(x, .cell)])
  (hQ:Q {scope,locals:=s.heap.objs.size,globals:=g,cells:=(x,s.heap.objs.size+1)::cl,qual:=q,func:=none,code:=env.code,frame:=env.frame,builtins:=env.builtins}
   {s with heap:=(s.heap.push {cls:= .type "dict",data:= .dict #[]}).push {cls:= .type "cell",data:= .cell none} }):
  Al M A (Gg scope g cl [] q none .none (some env)) Q E s:=by
 refine Ac (wpAny_alloc ?_)
 refine Ac (Pw scope.names cl _ _ hf ?_)
 simp only[Ez]
 exact Ac (Ak (Ak hQ))
theorem WR{scope:Scope}{x:Str}{env:Dy}{A:Am}{σ:List (Option PV)}{s s':Ab}{cl:List (Str×Addr)}{L c:Addr}{p:PV}{v:Value}{ns:List Addr}
  (bj:rn C scope [x]=true) (P:Pre W C env A σ s) (k:KG s s') (dh:∀x c,env.cells.lookup x=some c->(x,Ce)∈scope.names->cl.lookup x=some c)
  (hc:s'.heap.IsCell c (some v)) (hr:VR s'.heap p v ns):Pre W (C.et scope [x]) (B8 scope ((x,c)::cl) L env) A (σ++[some p]) s':=by
 refine aq (bA bj) fun bj h5=>?_
 refine aq (bA bj) fun bj h4=>?_
 refine aq (bA bj) fun bj h3=>?_
 refine aq (bA bj) fun h1 h2=>?_
 have h3:=eq_of_beq h3
 have h5:=fun y k (e:scope.names.lookup y=some k)=>Ao.mp h5 _ (zT e)
 have hx:((x,c)::cl).lookup x=some c:=by rw[A7,beq_self_eq_true]
 refine Pm (xs:=[x]) (it:=[p]) h1 P k h4 (fun y d h e=>?_) rfl (fun y j q kk hj hg e1 jc=>?_) (fun y aI i e5 hn e3 e2=>?_) (fun y e5=>?_) fun y e5=>?_
 ·have cY:(y==x)=false:=beq_eq_false_iff_ne.mpr fun q=>nomatch (Aa (h3.symm.trans (q▸e:scope.names.lookup x=some .free)))
  rw[A7,cY]
  exact dh y d h (zT e)
 ·cases j with
  |succ j=>exact nn hj
  |zero=>
   obtain rfl:=Aa hj
   obtain rfl:=Aa hg
   refine aB (vq e1) fun aI e5 e6=>?_
   have e5:=Aa (h3.symm.trans e5)
   have HG:kk= .cell:=e6.elim (·.trans e5.symm) (·.2)
   exact nV v ns (.inr ⟨.inl (HG▸jc),c,hx,hc⟩) hr
 ·have hm:=h5 y aI e5
  cases aI with
  | «local» =>simp[e3]at hm
  |cell=>
   have:=(show(y,C7)∈scope.names.filter (fun y=>y.2== .cell)from Kh.mpr ⟨zT e5,rfl⟩)
   rw[eq_of_beq h2]at this
   exact absurd (congrArg Prod.fst (Ae.mp this)) fun q=>hn (Ae.mpr q)
  |free=>rfl
  |globalImplicit=>exact ft e2
  |globalExplicit=>exact ft e2
 ·have hm:=(bA (bA (h5 y _ e5)).1).2
  simpa using hm
 ·have:=(show(y,C7)∈scope.names.filter (fun y=>y.2== .cell)from Kh.mpr ⟨zT e5,rfl⟩)
  rw[eq_of_beq h2]at this
  have hy:y=x:=congrArg Prod.fst (Ae.mp this)
  subst hy;exact cu c hx
theorem Px{kn:List (Str×Dd)}:∀{sc:List (Str×Dd)} {x:Str},sc.lookup x=some .cell->(jI kn sc).lookup x=some .cell
 |[],_,h=>by exact nn h
 |(n,k₁)::r,x,h=>by
  have ih:= @Px kn r x
  refine(?_:Fs x ((if(k₁== .free&&kn.lookup n==some .cell)=true then(n,C7)else(n,k₁))::jI kn r)=_)
  rw[A7]at h⊢
  by_cases hc:(k₁== .free&&kn.lookup n==some .cell)=true
  ·refine af (if_pos hc) ?_
   split at h
   ·next hx=>rw[show(x==n)=true from hx]
   ·next hx=>
    rw[show(x==n)=false by simpa using hx]
    exact ih h
  ·refine af (if_neg hc) ?_
   split at h
   ·next hx=>rw[show(x==n)=true from hx];obtain rfl:=Aa h;rfl
   ·next hx=>
    rw[show(x==n)=false by simpa using hx]
    exact ih h
theorem Py{scope:Scope}{x:Str}(h:rn C scope [x]=true):scope.kind= .function/\scope.names.filter (fun y=>y.2== .cell)=[(x, .cell)]/\scope.names.lookup x=some .cell:=by
 have h:=(b2 (b2 h).1).1
 exact nU (eq_of_beq (b2 (b2 h).1).1) (eq_of_beq (b2 (b2 h).1).2) (eq_of_beq (b2 h).2)
theorem WS{h:Ap}{c:Addr}{u:Option Value}(x:h.IsCell c u){items:Array Value}{n:Nat}(e:h.get? c=some {cls:= .type "list",data:= .seq items n}):False:=by
 refine aB x fun o e' ed=>?_
 rw[e]at e';obtain rfl:=Aa e';cases ed
theorem WT{scope:Scope}{env:Dy}{A:Am}{σ:List (Option PV)}{s:Ab}{x:Str}{cl:List (Str×Addr)}{L:Addr}(P:Pre W C env A σ s)(lA:scope.names.lookup x=some .cell):(B8 scope cl L env).kindOf x=some .cell:=by
 have cP:(Fg scope env).names=jI C.kn scope.names:=by
  unfold Fg jI
  refine(?_:scope.names.map _=_)
  refine Cv fun z _=>?_
  obtain⟨n,kk⟩:=z
  refine(?_:(if(kk==Ce&&env.scope.kind== .function&&env.kindOf n==some .cell)=true then _ else _)=_)
  have e1:(env.scope.kind==G2)=true:=by refine af P.kind ?_;rfl
  refine af e1 ?_
  refine af (Lk ..) ?_
  unfold Be
  exact af P.names rfl
 refine(?_:(Fg scope env).names.lookup x=_)
 refine af cP ?_
 exact Px lA
theorem Pz{α:Type}{l:List α}(h:l.length=1):∃a,l=[a]:=J6.mp h
section
variable{elt iter target:Expr}{x:Str}{ifs:List Expr}{scope:Scope}{pos:B0}{pe:PE}{ts:eC}{env:Dy}{A:Am}{E:Value->Ab->Prop}{σ:List (Option PV)}{s s₂:Ab}{cl:List (Str×Addr)}
 {I:Addr} {fp wr:List Addr} {its:List (List PV)} {St:Nat->Ap->Prop} {ps:List PV} {RR:Value->Addr->D6->Ab->Prop}
theorem WU{D L c:Addr}{ah:Ap}{tk:Nat}{m:Str->Option Value}(bj:rn C scope [x]=true)(P:Pre W C env A σ s)(dh:∀x c,env.cells.lookup x=some c->(x,Ce)∈scope.names->cl.lookup x=some c)
  (bw:av W (C.et scope [x]) elt pe) (de:iV W (C.et scope [x]) ifs ts)
  (aI:KG s s₂) (eu:∀b∈wr,s.heap.get? b=none) (cV:∀b∈fp,∃o,s₂.heap.get? b=some o) (T:dH W.prog W.w A target [x] I fp wr its St) (st:St 0 s₂.heap) (hsz:its.length<=ag)
  (run:zQ (l3 W.U pe ts σ) its=some ps)
  (gv:∀D L s' ns m',s.heap.get? L=none->KG s s'->s'.heap.Ns L m'->VR s'.heap (.list ps) (.ref D) ns->wN s.heap ns->L∉ns->RR (.ref D) L (.ok .next) s')
  (N:Pq s₂.heap ah D L c) (WV:L≠c) (hn:ah.Ns L m) (hc:ah.IsCell c none):
  Ca (Af W.prog W.w) A (.compStart (.ListComp elt [⟨target,iter,ifs,0⟩] scope pos) 0 (.ref I) (.ref D) (B8 scope ((x,c)::cl) L env)) (RR (.ref D) L) {s₂ with heap:=ah,toks:=tk}:=by
 refine dY (Py bj) fun aV PA lA=>?_
 have nD:s₂.heap.get? D=none:=vc (Cr N.d)
 have nL:s₂.heap.get? L=none:=vc (Cj (N.d▸N.l))
 have nC:s₂.heap.get? c=none:=vc (Ad (Cj (N.d▸N.l)) N.z)
 have off:∀{a:Addr},s₂.heap.get? a=none->a∉fp:=fun e hm=>by obtain⟨o,e'⟩:=cV _ hm;rw[e]at e';exact nn e'
 have PC:D<c:=D7 N.l N.z
 have B:p8 W (C.et scope [x]) (B8 scope ((x,c)::cl) L env) A σ s [x] D c fp wr (fun h=>(∃m,h.Ns L m)/\∃u,h.IsCell c u):=
  {nD:=ny (zV aI) nD,nZ:=ny (zV aI) nC,eu:=eu,DZ:=Br PC,Df:=off nD,Zf:=off nC
   rk:=fun h ⟨_,u,hu⟩ items n e=>WS hu e
   fr:=fun h h' ⟨⟨m,hn⟩,u,o,e,d⟩ k=>⟨⟨m,hn.at' fun o e=>k L o (off nL) (Hi N.l) e⟩,u,o,k c o (off nC) (Hi PC) e,d⟩
   store:=fun it us ms s' Q E ⟨⟨m,hn⟩,u,hu⟩ k hl hv hz hQ=>by
    refine aH (Pz hl) fun p aM=>?_
    subst aM
    refine aH (Pz hv.length) fun v aM=>?_
    subst aM
    refine wpAny_storeName_cell (show(Fg scope env).kind=_ from aV) (WT P lA) (by refine(?_:((x,c)::cl).lookup x=_);simp) hu fun au p9 jK=>?_
    have ko:∀b o,s.heap.get? b=some o->au.get? b=some o:=fun b o e=>jK.extBut b o (fun q=>by rw[q,ny (zV aI) nC]at e;exact nn e) (zV k b o e)
    have vz:=hv.on fun a ha o e=>jK.extBut a o (fun q=>hz (q▸ha)) e
    refine da (vz.get (i:=0) rfl) fun vv nn ro rq _=>?_
    obtain rfl:=Aa ro
    exact hQ au s'.toks ⟨⟨m,hn.at' fun o e=>jK.extBut L o WV e⟩,_,p9⟩ jK.extBut (WR bj P (lz k au s'.toks ko) dh p9 rq)}
 exact Po B T bw de hsz run (fun s' ns k ⟨⟨m,hn⟩,_⟩ r f=>gv D L s' ns m (ny (zV aI) nL) k hn r f (r.jd hn))
  ⟨lz aI _ _ fun b o e=>N.old b o (zV aI b o e),T.frame _ _ _ st fun b _ o e=>N.old b o e,N.acc, .nil,wN.nil _,(fun h=>nomatch h),(fun _ h=>nomatch h),⟨⟨m,hn⟩,_,hc⟩⟩
theorem WW(bj:rn C scope [x]=true)(P:Pre W C env A σ s)(dh:∀x c,env.cells.lookup x=some c->(x,Ce)∈scope.names->cl.lookup x=some c)
  (bw:av W (C.et scope [x]) elt pe) (de:iV W (C.et scope [x]) ifs ts)
  (aI:KG s s₂) (eu:∀b∈wr,s.heap.get? b=none) (cV:∀b∈fp,∃o,s₂.heap.get? b=some o) (T:dH W.prog W.w A target [x] I fp wr its St) (st:St 0 s₂.heap) (hsz:its.length<=ag)
  (run:zQ (l3 W.U pe ts σ) its=some ps)
  (gv:∀D L s' ns m',s.heap.get? L=none->KG s s'->s'.heap.Ns L m'->VR s'.heap (.list ps) (.ref D) ns->wN s.heap ns->L∉ns->RR (.ref D) L (.ok .next) s'):
  Al (Af W.prog W.w) A (Ma []) (fun acc ak=>Al (Af W.prog W.w) A (Gg scope env.globals cl [] env.qual none .none (some env)) (fun bo aU=>
   Ca (Af W.prog W.w) A (.compStart (.ListComp elt [⟨target,iter,ifs,0⟩] scope pos) 0 (.ref I) acc {bo with scope:=Fg scope env}) (RR acc bo.locals) aU) E ak) E s₂:=by
 refine Cb (WQ (Py bj).2.1 ?_)
 have hL:(s₂.heap.push {cls:= .type "list",dict:=none,data:= .seq ([]:List Value).toArray}).objs.size=s₂.heap.objs.size+1:=Ez ..
 refine WU (s₂:=s₂) bj P dh bw de aI eu cV T st hsz run gv ⟨rfl,by refine af hL ?_;exact Bk _,Ft _,fun b o e=>Ag _ (Ag _ (Ag _ e)),
  ⟨_,Ag _ (Ag _ (Av _ rfl))⟩⟩ (Br (Bk _)) (Heap.Ns.keeps (Heap.Ns.new _ (.type "dict")) fun b o e=>Ag _ e) ⟨{cls:= .type "cell",data:= .cell none},?_,rfl⟩
 refine cw (Ez (o:={cls:= .type "dict",data:= .dict #[]}) ..) ?_;exact Av _ rfl
end
theorem PD{target elt iter:Expr}{xs:List Str}{ifs:List Expr}{scope:Scope}{pos:B0}{pe:PE}{ts:eC}{env:Dy}{A:Am}{E:Value->Ab->Prop}{σ:List (Option PV)}{s s₂:Ab}{cl:List (Str×Addr)}
  {I:Addr} {fp wr:List Addr} {its:List (List PV)} {St:Nat->Ap->Prop} {ps:List PV} {RR:Value->Addr->D6->Ab->Prop}
  (bj:oo C scope xs=true) (P:Pre W C env A σ s) (dh:∀x c,env.cells.lookup x=some c->(x,Ce)∈scope.names->cl.lookup x=some c)
  (bw:av W (C.et scope xs) elt pe) (de:iV W (C.et scope xs) ifs ts)
  (aI:KG s s₂) (eu:∀b∈wr,s.heap.get? b=none) (cV:∀b∈fp,∃o,s₂.heap.get? b=some o) (T:dH W.prog W.w A target xs I fp wr its St) (st:St 0 s₂.heap) (hsz:its.length<=ag)
  (run:zQ (l3 W.U pe ts σ) its=some ps)
  (gv:∀D L s' ns m',s.heap.get? L=none->KG s s'->s'.heap.Ns L m'->VR s'.heap (.list ps) (.ref D) ns->wN s.heap ns->L∉ns->RR (.ref D) L (.ok .next) s'):
  Al (Af W.prog W.w) A (Ma []) (fun acc ak=>Al (Af W.prog W.w) A (Gg scope env.globals cl [] env.qual none .none (some env)) (fun bo aU=>
   Ca (Af W.prog W.w) A (.compStart (.ListComp elt [⟨target,iter,ifs,0⟩] scope pos) 0 (.ref I) acc {bo with scope:=Fg scope env}) (RR acc bo.locals) aU) E ak) E s₂:=by
 unfold oo at bj
 cases h:kx C scope xs with
 |true=>exact WO h P dh bw de aI eu cV T st hsz run gv
 |false=>
  rw[h,Bool.false_or]at bj
  refine aH (Pr bj) fun x aM=>?_
  subst aM
  exact WW bj P dh bw de aI eu cV T st hsz run gv
theorem av.comp{target elt iter:Expr}{xs:List Str}{ifs:List Expr}{scope:Scope}{pos:B0}{pe:PE}{src:nW}{ts:eC}
  (bj:oo C scope xs=true) (l5:jb W C target xs iter src) (bw:av W (C.et scope xs) elt pe) (de:iV W (C.et scope xs) ifs ts)
  (hs:∀env x,Ef iter env x=pure x):av W C (.ListComp elt [⟨target,iter,ifs,0⟩] scope pos) (.comp pe src ts):=fun env A E s σ p P e=>by
 refine oB e fun its e1 e2=>?_
 split at e2
 ·rename_i hsz
  obtain⟨ps,run,rfl⟩:=dk e2
  refine dY (HI bj) fun aV cP lu=>?_
  obtain⟨cl,fC,dh⟩:=BG (scope:=scope) (env:=env) fun y hy hf=>by
   rcases lu y hy hf with e|e
   ·exact P.eP _ _ e (.inl rfl)
   ·exact P.eP _ _ e (.inr rfl)
  unfold OZ;rw[Ll]
  refine Fd (use:=none) rfl (hs env) fC aV cP (zE (l5 env A E s σ its P e1 hsz) fun xv aa ah=>zE ah fun it s₂ ai=>?_)
  obtain⟨I,fp,wr,St,rfl,aI,eu,cV,T,st,_⟩:=ai
  refine PD (RR:=fun acc L=>compPost (Af W.prog W.w) A E none (Got s (fresh (.comp pe src ts) (.list ps)) (.list ps)) acc L) bj P dh bw de aI eu cV T st hsz run ?_
  intro D L s' ns m' hL k hn r hf rt
  refine i12 m' hn (fun h' dq=>?_)
  have kk:KG s {s' with heap:=h'}:=by
   obtain⟨h0,t0,g0,rfl,kk,x⟩:=k
   exact⟨h',t0,g0,rfl,fun b o e=>dq.extBut b o (by rintro rfl;rw[hL]at e;exact nn e) (kk b o e),x⟩
  exact⟨kk,ns,r.on fun a ha o e=>dq.extBut a o (fun q=>rt (q▸ha)) e,fun _=>hf⟩
 ·exact nn e2
end
section
variable{W:bx}{C:Cx}
theorem yP{h:Ap}(k:Nat):h.get? (h.objs.size+k)=none:=by
 cases e:h.get? (h.objs.size+k)with
 |none=>rfl
 |some o=>exact absurd (Bm e) (Ew.mpr (C8 _ k))
theorem wV{s s':Ab}(k:KG s s'){a:Addr}(h:s'.heap.get? a=none):s.heap.get? a=none:=by
 cases e:s.heap.get? a with
 |none=>rfl
 |some o=>rw[zV k a o e]at h;exact sn h
theorem BJ{h:Ap}{a l:Addr}{i:Nat}(x:h.IsListIter a l i)(items:Array Value)(n:Nat):h.get? a≠some {cls:= .type "list",data:= .seq items n}:=fun e=>by
 refine lh x fun o e1 e2 _=>?_
 rw[e1]at e;obtain rfl:=Aa e;simp at e2
theorem wT{h:Ap}{a l:Addr}{i:Nat}(x:h.IsListIter a l i):∃o,h.get? a=some o:=let⟨o,e,_⟩:=x;⟨o,e⟩
theorem BL{h:Ap}{a:Addr}{xs:Array Value}(x:h.IsList a xs):∃o,h.get? a=some o:=let⟨o,e,_⟩:=x;⟨o,e⟩
theorem HJ{x:Str}{px:B0}{A:Am}{E:Value->Ab->Prop}{s aa:Ab}{l:List PV}{v:Value}{ms:List Addr}(hh:A.handled=none)(k:KG s aa)(r:VR aa.heap (.list l) v ms):
  Al (Af W.prog W.w) A (Hu v) (ky W A s (.Name x px) [x] (l.map fun p=> [p]) fun fp=>∀b∈fp,s.heap.get? b=none\/b∈ms) E aa:=by
 refine r.cW fun a vs ns hl bf=>?_
 refine wpAny_pyIter_list hl.isList ?_
 generalize hI:aa.heap.objs.size=I
 have hIn:aa.heap.get? I=none:=hI▸yP 0
 have HK:a≠I:=fun q=>by obtain⟨n,e⟩:=hl;rw[q,hIn]at e;exact nn e
 have HL:I∉ns:=fun hm=>by obtain⟨o,e⟩:=bf.bV _ hm;rw[hIn]at e;exact nn e
 have up:Sub aa.heap (aa.heap.push {cls:= .type "list_iterator",data:= .fields #[.ref a, .int 0 0]}):=fun b o e=>Ag _ e
 have hlen:(l.map fun p=> [p]).length=vs.toArray.size:=by simp[bf.length]
 have HM:(aa.heap.push {cls:= .type "list_iterator",data:= .fields #[.ref a, .int 0 0]}).IsListIter I a 0:=⟨_,hI▸Av _ rfl,rfl,rfl⟩
 have Wk:=Walks.list (prog:=W.prog) (w:=W.w) hh I a HK vs.toArray
 rw[<-hlen]at Wk
 refine⟨I,I::a::ns,[I],_,rfl,zI k (pT ..),?_,?_,dH.walks Wk (fun b hb=>?_) (fun h=>ao h l vs ns) (fun h h' e kk=>e.on fun b hb o e=>kk b (by simp[hb]) o e) (fun i h st ex b hb=>?_) (fun i h st b hb items n=>by rw[Ae.mp hb];exact BJ st.1 items n) (fun i it u h h' e1 e2 ex kk=>?_),⟨⟨HM,hl.isList.push _⟩,bf.sub up⟩,?_⟩
 ·intro b hb
  rw[Ae.mp hb]
  exact wV k hIn
 ·intro b hb
  rcases Ay.mp hb with rfl|hb
  ·exact cu _ (hI▸Av _ rfl)
  ·rcases Ay.mp hb with rfl|hb
   ·obtain⟨n,e⟩:=hl;exact⟨_,up _ _ e⟩
   ·obtain⟨o,e⟩:=bf.bV _ hb;exact⟨o,up _ _ e⟩
 ·simp at hb;rcases hb with rfl|rfl<;>simp
 ·rcases Ay.mp hb with rfl|hb
  ·exact wT st.1
  ·rcases Ay.mp hb with rfl|hb
   ·exact BL st.2
   ·exact ex.bV _ hb
 ·have kv:ao h' l vs ns:=ex.on fun b hb o e=>kk b o (fun q=>HL (by rwa[Ae.mp q]at hb)) e
  refine bZ kv ?_
  rw[Bj]at e1
  refine aB (Bp.mp e1) fun p e3 cz=>?_
  subst cz
  refine da (kv.get e3) fun v' n e4 e5 e6=>?_
  have:v'=u:=by
   have e2:vs.toArray[i]?=some u:=e2
   rw[Dn,e4]at e2;obtain rfl:=Aa e2;rfl
  subst this
  exact i12 n (ao.one e5) (fun b hb=>by simp[e6 b hb])
 ·intro b hb
  rcases Ay.mp hb with rfl|hb
  ·exact .inl (wV k hIn)
  ·exact .inr hb
theorem BM{x:Str}{px:B0}{A:Am}{E:Value->Ab->Prop}{s aa:Ab}{l:List Nat}{v:Value}{ms:List Addr}(hh:A.handled=none)(k:KG s aa)(r:VR aa.heap (.str l) v ms):
  Al (Af W.prog W.w) A (Hu v) (ky W A s (.Name x px) [x] (l.map fun c=> [PV.str [c]]) fun fp=>∀b∈fp,s.heap.get? b=none) E aa:=by
 cases r
 rename_i t
 refine wpAny_pyIter_strU ?_
 generalize hI:aa.heap.objs.size=I
 have hIn:aa.heap.get? I=none:=hI▸yP 0
 have HM:(aa.heap.push {cls:= .type (Gh ⟨l.toArray⟩),data:= .fields #[.str ⟨l.toArray⟩ t, .int 0 0]}).IsStrIter I (Gh ⟨l.toArray⟩) ⟨l.toArray⟩ t 0:=⟨_,hI▸Av _ rfl,rfl,rfl⟩
 have Wk:Walks W.prog W.w A I [I] [I] (l.map fun c=> [PV.str [c]]).length (SignAt ⟨l.toArray⟩) (fun i h=>h.IsStrIter I (Gh ⟨l.toArray⟩) ⟨l.toArray⟩ t i):=by
  have e:(l.map fun c=> [PV.str [c]]).length=(⟨l.toArray⟩:Str).cps.size:=by simp
  rw[e]
  unfold Gh
  split
  ·exact Walks.strAscii hh I ⟨l.toArray⟩ t
  ·exact Walks.strWide hh I ⟨l.toArray⟩ t
 refine⟨I,[I],[I],_,rfl,zI k (pT ..),?_,?_,dH.walks Wk (fun b hb=>hb) (fun _=>True) (fun _ _ _ _=>trivial) (fun i h st ex b hb=>?_) (fun i h st b hb items n e=>by
  rw[Ae.mp hb]at e
  refine lh st fun o e1 e2 e3=>?_
  rw[e1]at e;obtain rfl:=Aa e;simp at e3) (fun i it u h h' e1 e2 ex kk=>⟨trivial,?_⟩),⟨HM,trivial⟩,?_⟩
 ·intro b hb
  rw[Ae.mp hb]
  exact wV k hIn
 ·intro b hb
  rw[Ae.mp hb]
  exact cu _ (hI▸Av _ rfl)
 ·rw[Ae.mp hb]
  obtain⟨o,e,_⟩:=st;exact⟨o,e⟩
 ·rw[Bj]at e1
  refine aB (Bp.mp e1) fun c e3 cz=>?_
  subst cz
  refine dZ e2 fun c' u' e4 gJ=>?_
  clear e2
  subst gJ
  have:c'=c:=by
   have e4:l.toArray[i]?=some c':=e4
   rw[Dn,e3]at e4;obtain rfl:=Aa e4;rfl
  subst this
  exact i12 ([]) (ao.one (.str [c'] u')) (fun _ h=>nomatch h)
 ·intro b hb
  rw[Ae.mp hb]
  exact wV k hIn
theorem WX{x:Str}{px:B0}{A:Am}{E:Value->Ab->Prop}{s aa:Ab}{n:Int}{v:Value}{ms:List Addr}(hh:A.handled=none)(k:KG s aa)(r:VR aa.heap (.int n) v ms)(h1:wC n=true)(h2:n<=16777216):
  Al (Af W.prog W.w) A (call (.type "range") [v]) (fun xv s₂=>Al (Af W.prog W.w) A (Hu xv) (ky W A s (.Name x px) [x] ((pU n).map fun p=> [p]) fun fp=>∀b∈fp,s.heap.get? b=none) E s₂) E aa:=by
 cases r
 rename_i t
 unfold wC at h1
 simp only[Az,decide_eq_true_eq]at h1
 refine call_range_1 ?_
 have hsz:Jx 0 n 1=(n.toNat:Int):=by refine af (rangeSize_nat ..) ?_;lia
 refine wpAny_pyIter_range (Av _ rfl) ?_ ?_
 ·unfold Le
  refine af hsz ?_
  simp only[Iz,Az,Ej,decide_eq_true_eq,beq_iff_eq,show(1:Int)>0 by decide,if_true]
  refine⟨⟨?_,?_⟩,?_⟩<;>lia
 ·refine af hsz ?_
  generalize hH:aa.heap.push {cls:= .type "range",data:= .fields #[.int 0 aa.toks, .int n t, .int 1 (aa.toks+1)]}=H
  have HN:Sub aa.heap H:=fun b o e=>hH▸Ag _ e
  generalize hI:H.objs.size=I
  have hIn:aa.heap.get? I=none:=by
   cases e:aa.heap.get? I with
   |none=>rfl
   |some o=>have:=Bm e;rw[<-hI,<-hH,Ez]at this;exact absurd this (Ew.mpr (Ft _))
  have Wk:=Walks.range (prog:=W.prog) (w:=W.w) hh I 0 1 n.toNat
  have hlen:((pU n).map fun p=> [p]).length=n.toNat:=by simp[pU]
  rw[<-hlen]at Wk
  refine⟨I,[I],[I],_,rfl,?_,?_,?_,dH.walks Wk (fun b hb=>hb) (fun _=>True) (fun _ _ _ _=>trivial) (fun i h st ex b hb=>?_) (fun i h st b hb items n e=>by
   rw[Ae.mp hb]at e
   have st:=st
   rw[show h.get? I=some _ from st]at e;simp at e) (fun i it u h h' e1 e2 ex kk=>⟨trivial,?_⟩),⟨?_,trivial⟩,?_⟩
  ·exact zI k (jH _ _ _ fun b o e=>Ag _ (HN b o e))
  ·intro b hb
   refine af (Ae.mp hb) ?_
   exact wV k hIn
  ·intro b hb
   refine af (Ae.mp hb) ?_
   exact cu _ (hI▸Av _ rfl)
  ·refine af (Ae.mp hb) ?_
   exact cu _ st
  ·refine aH e2 fun tt aM=>?_
   clear e2
   subst aM
   have:it=[PV.int (i:Int)]:=by
    rw[Bj]at e1
    refine aB (Bp.mp e1) fun c e3 cz=>?_
    subst cz
    unfold pU at e3
    rw[Bj]at e3
    refine aB (Bp.mp e3) fun j e4 cz=>?_
    subst cz
    have:=Bc.mp e4
    obtain⟨_,h3⟩:=this
    rw[List.getElem_range]at h3
    exact af h3 rfl
   subst this
   refine i12 ([]) (ao.one ?_) (fun _ h=>nomatch h)
   rw[show(0:Int)+(i:Int)*1=i by lia]
   exact .int ..
  ·refine(?_:IsRangeIter _ I (0+((0:Nat):Int)*1) ((((pU n).map fun p=> [p]).length:Int)-((0:Nat):Int)) 1)
   rw[hlen,show(0:Int)+((0:Nat):Int)*1=0 by lia,show((n.toNat:Int)-((0:Nat):Int))=(n.toNat:Int)by lia]
   exact hI▸Av _ rfl
  ·intro b hb
   refine af (Ae.mp hb) ?_
   exact wV k hIn
theorem jb.items{x:Str}{px:B0}{iter:Expr}{pe:PE}(h:av W C iter pe):jb W C (.Name x px) [x] iter (.items pe):=fun env A E s σ its P e _=>by
 refine oB e fun p e1 e2=>?_
 refine zE (h env A E s σ p P e1) fun v aa ah=>?_
 obtain⟨k,ns,r,_⟩:=ah
 cases p with
 |list l=>
  have e2:some (l.map fun x=> [x])=some its:=e2
  obtain rfl:=Aa e2
  refine zE (HJ (x:=x) (px:=px) P.room.hh k r) fun it s₂ ai=>?_
  obtain⟨I,fp,wr,St,h1,h2,h3,h4,h5,h6,_⟩:=ai
  exact⟨I,fp,wr,St,h1,h2,h3,h4,h5,h6,trivial⟩
 |str l=>
  have e2:some (l.map fun c=> [PV.str [c]])=some its:=e2
  obtain rfl:=Aa e2
  refine zE (BM (x:=x) (px:=px) P.room.hh k r) fun it s₂ ai=>?_
  obtain⟨I,fp,wr,St,h1,h2,h3,h4,h5,h6,_⟩:=ai
  exact⟨I,fp,wr,St,h1,h2,h3,h4,h5,h6,trivial⟩
 |_=>exact nn e2
theorem PF{x xr:Str}{px pr pos:B0}{iter:Expr}{pe:PE}(h:av W C iter pe)(hx:xr= "range") (hk:C.kn.lookup xr=some .globalImplicit) (hg:W.mg "range" =none) (hb:W.mb "range" =some (.type "range")) (he:∀env,B1 [iter] env=[(false,eval iter env)])
  {env:Dy} {A:Am} {E:Value->Ab->Prop} {s:Ab} {σ:List (Option PV)} {its:List (List PV)} (P:Pre W C env A σ s) (e:kh W.U (.eD pe) σ=some its):
  Al (Af W.prog W.w) A (eval (.Call (.Name xr pr) [iter] [] pos) env) (fun xv s₂=>Al (Af W.prog W.w) A (Hu xv) (ky W A s (.Name x px) [x] its fun fp=>∀b∈fp,s.heap.get? b=none) E s₂) E s:=by
 subst hx
 refine oB e fun p e1 e2=>?_
 cases p with
 |int n=>
  have e2:(if wC n&&decide (n<=16777216)then some ((pU n).map fun x=> [x])else none)=some its:=e2
  split at e2
  ·rename_i hc
   obtain rfl:=Aa e2
   simp only[Az,decide_eq_true_eq]at hc
   refine Er rfl ?_
   refine A6 P.kind (by unfold Be;refine af P.names ?_;exact hk) (C1 (mg:=W.mg) (mb:=W.mb) ?_ hg ?_ hb ?_) (by decide)
   ·refine af P.gl ?_;exact W.g P.wd
   ·refine af P.bl ?_;exact W.b P.wd
   ·refine Cn ?_ (he env) rfl
    refine af (he env) ?_
    refine A8 ?_
    refine zE (h env A E s σ _ P e1) fun v aa ah=>?_
    obtain⟨k,ns,r,_⟩:=ah
    exact B4 (WX P.room.hh k r hc.1 hc.2)
  ·exact nn e2
 |_=>exact nn e2
theorem jb.eD{x xr:Str}{px pr pos:B0}{iter:Expr}{pe:PE}(h:av W C iter pe)(hx:xr= "range") (hk:C.kn.lookup xr=some .globalImplicit) (hg:W.mg "range" =none) (hb:W.mb "range" =some (.type "range")) (he:∀env,B1 [iter] env=[(false,eval iter env)]):
  jb W C (.Name x px) [x] (.Call (.Name xr pr) [iter] [] pos) (.eD pe):=fun env A E s σ its P e _=>by
 refine zE (PF (x:=x) (px:=px) h hx hk hg hb he P e) fun v aa ah=>zE ah fun it s₂ ai=>?_
 obtain⟨I,fp,wr,St,h1,h2,h3,h4,h5,h6,_⟩:=ai
 exact⟨I,fp,wr,St,h1,h2,h3,h4,h5,h6,trivial⟩
end
theorem fa{α:Type}{P:α->Prop}{a:α}{l:List α}(h:P a)(t:∀b∈l,P b):∀b∈a::l,P b:=Kz.mpr ⟨h,t⟩
theorem dO{α:Type}{P:α->Prop}:∀b∈([]:List α),P b:=fun _ h=>(Aq h).elim
theorem fap{α:Type}{P:α->Prop}{l m:List α}(h:∀b∈l,P b)(t:∀b∈m,P b):∀b∈l++m,P b:=fun b hb=>(Bb.mp hb).elim (h b) (t b)
theorem HO:∀{l:List PV} {i k:Nat} {it:List PV},(wM k l)[i]?=some it->∃p,l[i]?=some p/\it=[.int ((k+i:Nat):Int),p]
 |[],_,_,_,e=>nn e
 |a::r,0,k,it,e=>⟨a,rfl,(Aa e).symm⟩
 |a::r,i+1,k,it,e=>by
  refine aB (HO (l:=r) (i:=i) (k:=k+1) (it:=it) e) fun p e1 e2=>?_
  exact i12 p e1 (by(refine af e2 ?_;refine af (C5 ..) ?_;exact af (Em 1 ..) rfl))
theorem BN:∀(l:List PV) (k:Nat),(wM k l).length=l.length
 |[],_=>rfl
 |_::r,k=>by simp[wM,BN r]
theorem WY:∀{l m:List PV} {i:Nat} {it:List PV},(nX l m)[i]?=some it->∃p q,l[i]?=some p/\m[i]?=some q/\it=[p,q]:=by
 intro l
 induction l with
 |nil=>intro m i it e;exact nn e
 |cons a r ih=>
  intro m i it e
  cases m with
  |nil=>exact nn e
  |cons b t=>
   cases i with
   |zero=>exact⟨a,b,rfl,rfl,(Aa e).symm⟩
   |succ i=>exact ih (m:=t) (i:=i) e
theorem PG:∀(l m:List PV),(nX l m).length=min l.length m.length
 |[],_=>(Nat.zero_min _).symm
 |_::_,[]=>(Nat.min_zero _).symm
 |_::r,_::t=>(congrArg Nat.succ (PG r t)).trans (Nat.succ_min_succ _ _).symm
section
variable{W:bx}{C:Cx}
theorem xU{h:Ap}{a b:Addr}(ha:∃o,h.get? a=some o)(hb:h.get? b=none):a≠b:=fun q=>ha.elim fun o e=>nn (hb.symm.trans (q▸e))
theorem WZ{x y:Str}{px py pt:B0}{kk:Nat}{A:Am}{h₀:Ap}{l:List PV}{vs:List Value}{ns:List Addr}{I a:Addr}(hh:A.handled=none)(W0:a≠I+1)(HK:a≠I)(bf:ao h₀ l vs ns)(o1:∀b∈ns,b≠I+1)(o0:∀b∈ns,b≠I):
  dH W.prog W.w A (.Tuple [.Name x px, .Name y py] kk pt) [x,y] (I+1) ((I+1)::I::a::ns) [I+1,I] (wM 0 l) (fun i h=>((∃old,IsEnum h (I+1) I i old)/\h.IsListIter I a i/\h.IsList a vs.toArray)/\ao h l vs ns):=by
 have Wk:=WalksT.enumerate (prog:=W.prog) (w:=W.w) hh (I+1) I a (Nat.succ_ne_self I) W0 HK vs.toArray
 rw[A3,bf.length,<-BN l 0]at Wk
 refine dH.i9 hh Wk (fa (.head _) (fa (.tail _ (.head _)) (fa (.tail _ (.tail _ (.head _))) dO))) (fun h=>ao h l vs ns) (fun h h' e kk=>e.on fun b hb o e=>kk b (.tail _ (.tail _ (.tail _ hb))) o e) (fun i h st ex=>fa (st.1.elim fun _ e=>⟨_,e⟩) (fa (wT st.2.1) (fa (BL st.2.2) ex.bV)))
  (fun i h st=>fa (fun items n e=>st.1.elim fun _ e1=>by rw[e1]at e;simp at e) (fa (BJ st.2.1) dO)) (fun i it us h h' e1 e2 ex kk=>?_)
 have kv:ao h' l vs ns:=ex.on fun b hb o e=>kk b o (fun q=>(Ay.mp q).elim (o1 b hb) fun q=>o0 b hb (Ae.mp q)) e
 refine aB (HO e1) fun p e3 cz=>?_
 subst cz
 refine dZ e2 fun t u e4 gJ=>?_
 clear e2
 subst gJ
 refine da (kv.get e3) fun v' n e5 e6 e7=>?_
 rw[Dn,e5]at e4
 obtain rfl:=Aa e4
 rw[Cp]
 exact⟨kv,_,_,n,rfl, .cons (n:=[]) (.int ..) (ao.one e6),fun b hb=> .tail _ (.tail _ (.tail _ (e7 b hb)))⟩
theorem W7{x y:Str}{px py pt:B0}{kk:Nat}{A:Am}{E:Value->Ab->Prop}{s aa:Ab}{l:List PV}{v:Value}{ms:List Addr}(hh:A.handled=none)(k:KG s aa)(r:VR aa.heap (.list l) v ms):
  Al (Af W.prog W.w) A (call (.type "enumerate") [v]) (fun xv s₂=>Al (Af W.prog W.w) A (Hu xv) (ky W A s (.Tuple [.Name x px, .Name y py] kk pt) [x,y] (wM 0 l) fun _=>True) E s₂) E aa:=by
 refine i5 r.inv fun a vs ns hl bf l6 oq=>?_
 subst l6
 subst oq
 have n0:aa.heap.get? aa.heap.objs.size=none:=yP 0
 have n1:aa.heap.get? (aa.heap.objs.size+1)=none:=yP 1
 have ha:∃o,aa.heap.get? a=some o:=by obtain⟨n,e⟩:=hl;exact⟨_,e⟩
 refine call_enumerate_list hl.isList fun h' he hi hsz up=>?_
 refine wpAny_pyIter_enum he ?_
 generalize aa.heap.objs.size=I at n0 n1 he hi
 exact⟨I+1,(I+1)::I::a::ns,[I+1,I],_,rfl,zI k (jH _ _ _ up),fa (wV k n1) (fa (wV k n0) dO),fa ⟨_,he⟩ (fa (wT hi) (fa (ha.elim fun o e=>⟨o,up _ _ e⟩) fun b hb=>(bf.bV b hb).elim fun o e=>⟨o,up _ _ e⟩)),
  WZ hh (xU ha n1) (xU ha n0) bf (fun b hb=>xU (bf.bV b hb) n1) (fun b hb=>xU (bf.bV b hb) n0),⟨⟨⟨_,he⟩,hi,hl.isList.at fun o e=>up _ o e⟩,bf.sub up⟩,trivial⟩
theorem jb.enum{x y xe:Str}{px py pt pe pos:B0}{kk:Nat}{iter:Expr}{a:PE}(h:av W C iter a)(hx:xe= "enumerate") (hk:C.kn.lookup xe=some .globalImplicit) (hg:W.mg "enumerate" =none) (hb:W.mb "enumerate" =some (.type "enumerate")) (he:∀env,B1 [iter] env=[(false,eval iter env)]):
  jb W C (.Tuple [.Name x px, .Name y py] kk pt) [x,y] (.Call (.Name xe pe) [iter] [] pos) (.enum a):=fun env A E s σ its P e _=>by
 subst hx
 refine oB e fun p e1 e2=>?_
 obtain⟨l,rfl,rfl⟩:∃l,p= .list l/\wM 0 l=its:=by
  cases p with
  |list l=>exact⟨l,rfl,Aa e2⟩
  |_=>exact nn e2
 refine Er rfl ?_
 refine A6 P.kind (by unfold Be;refine af P.names ?_;exact hk) (C1 (mg:=W.mg) (mb:=W.mb) (P.gl▸W.g P.wd) hg (P.bl▸W.b P.wd) hb ?_) (by decide)
 refine Cn ?_ (he env) rfl
 refine af (he env) ?_
 refine A8 (zE (h env A E s σ _ P e1) fun v aa ah=>?_)
 obtain⟨k,ns,r,_⟩:=ah
 exact B4 (W7 P.room.hh k r)
theorem W8{x y:Str}{px py pt:B0}{kk:Nat}{A:Am}{h₀:Ap}{l m:List PV}{vs us:List Value}{ns l7:List Addr}{z TI TO i1 i2 a a':Addr}(hh:A.handled=none)(D:ZipApart z TI TO i1 i2 a a')(bf:ao h₀ l vs ns)(gb:ao h₀ m us l7)(off:∀b∈[z,TO,i1,i2],h₀.get? b=none):
  dH W.prog W.w A (.Tuple [.Name x px, .Name y py] kk pt) [x,y] z (z::TI::TO::i1::i2::a::a'::(ns++l7)) [z,TO,i1,i2] (nX l m)
   (fun i h=>(IsZip h z TI TO .none/\IsPair h TI (.ref i1) (.ref i2)/\(∃a b,IsPair h TO a b)/\h.IsListIter i1 a i/\h.IsListIter i2 a' i/\h.IsList a vs.toArray/\h.IsList a' us.toArray)/\(ao h l vs ns/\ao h m us l7)):=by
 have Wk:=WalksT.zip2 (prog:=W.prog) (w:=W.w) hh _ _ _ _ _ _ _ D vs.toArray us.toArray
 rw[A3,A3,bf.length,gb.length,<-PG l m]at Wk
 refine dH.i9 (fp':=z::TI::TO::i1::i2::a::a'::(ns++l7)) hh Wk (fun b hb=>Ax (ns++l7) hb) (fun h=>ao h l vs ns/\ao h m us l7) (fun h h' e kk=>⟨e.1.on fun b hb o e=>kk b (Ar [z,TI,TO,i1,i2,a,a'] (Ax _ hb)) o e,e.2.on fun b hb o e=>kk b (Ar [z,TI,TO,i1,i2,a,a'] (Ar _ hb)) o e⟩)
  (fun i h st ex=>?_) (fun i h st=>?_) (fun i it ws h h' e1 e2 ex kk=>?_)
 ·refine OP st fun q1 q2 jL q4 q5 q6 q7=>?_
  refine fT jL fun _ _ q3=>?_
  exact fa ⟨_,q1⟩ (fa ⟨_,q2⟩ (fa ⟨_,q3⟩ (fa (wT q4) (fa (wT q5) (fa (BL q6) (fa (BL q7) (fap ex.1.bV ex.2.bV)))))))
 ·refine OP st fun q1 q2 jL q4 q5 q6 q7=>?_
  refine fT jL fun _ _ q3=>?_
  exact fa (fun items n e=>by rw[q1]at e;simp at e) (fa (fun items n e=>by rw[q3]at e;simp at e) (fa (BJ q4) (fa (BJ q5) dO)))
 ·have kv:ao h' l vs ns/\ao h' m us l7:=⟨ex.1.on fun b hb o e=>kk b o (fun q=>xU (bf.bV b hb) (off b q) rfl) e,ex.2.on fun b hb o e=>kk b o (fun q=>xU (gb.bV b hb) (off b q) rfl) e⟩
  refine da (WY e1) fun p q e3 e4 iv=>?_
  subst iv
  refine da e2 fun z1 z2 e5 e6 iv=>?_
  clear e2
  subst iv
  refine da (kv.1.get e3) fun v1 n1 g1 g2 g3=>?_
  refine da (kv.2.get e4) fun v2 n2 f1 f2 f3=>?_
  rw[Dn,g1]at e5
  rw[Dn,f1]at e6
  obtain rfl:=Aa e5
  obtain rfl:=Aa e6
  exact⟨kv,_,_,n1++n2,rfl, .cons g2 (ao.one f2),fun b hb=>Ar [z,TI,TO,i1,i2,a,a'] ((Bb.mp hb).elim (fun hb=>Ax _ (g3 b hb)) fun hb=>Ar _ (f3 b hb))⟩
theorem W9{x y:Str}{px py pt:B0}{kk:Nat}{A:Am}{E:Value->Ab->Prop}{s aa:Ab}{l m:List PV}{v u:Value}{ms ls:List Addr}(hh:A.handled=none)(k:KG s aa)(r:VR aa.heap (.list l) v ms)(r':VR aa.heap (.list m) u ls):
  Al (Af W.prog W.w) A (call (.type "zip") [v,u]) (fun xv s₂=>Al (Af W.prog W.w) A (Hu xv) (ky W A s (.Tuple [.Name x px, .Name y py] kk pt) [x,y] (nX l m) fun _=>True) E s₂) E aa:=by
 refine i5 r.inv fun a vs ns hl bf l6 oq=>?_
 subst l6
 subst oq
 refine i5 r'.inv fun a' us l7 gI gb l6 oq=>?_
 subst l6
 subst oq
 have hd:(∃o,aa.heap.get? a=some o)/\∃o,aa.heap.get? a'=some o:=by obtain⟨n,e⟩:=hl;obtain⟨n',e'⟩:=gI;exact⟨⟨_,e⟩,_,e'⟩
 have D:=zipApart_new (n:=aa.heap.objs.size) (l1:=a) (l2:=a') (hd.1.elim fun _ e=>Bm e) (hd.2.elim fun _ e=>Bm e)
 have off:∀b∈[aa.heap.objs.size+4,aa.heap.objs.size+3,aa.heap.objs.size,aa.heap.objs.size+1],aa.heap.get? b=none:=fa (yP 4) (fa (yP 3) (fa (yP 0) (fa (yP 1) dO)))
 refine call_zip_2 hl.isList gI.isList fun h' hz nz nA vA PH hsz up=>?_
 refine wpAny_pyIter_zip hz ?_
 exact⟨_,_,_,_,rfl,zI k (jH _ _ _ up),fun b hb=>wV k (off b hb),
  fa ⟨_,hz⟩ (fa ⟨_,nz⟩ (fa ⟨_,nA⟩ (fa (wT vA) (fa (wT PH) (fa (hd.1.elim fun o e=>⟨o,up _ _ e⟩) (fa (hd.2.elim fun o e=>⟨o,up _ _ e⟩) (fap (fun b hb=>(bf.bV b hb).elim fun o e=>⟨o,up _ _ e⟩) fun b hb=>(gb.bV b hb).elim fun o e=>⟨o,up _ _ e⟩))))))),
  W8 hh D bf gb off,⟨⟨hz,nz,⟨_,_,nA⟩,vA,PH,hl.isList.at fun o e=>up _ o e,gI.isList.at fun o e=>up _ o e⟩,bf.sub up,gb.sub up⟩,trivial⟩
theorem jb.zip{x y xe:Str}{px py pt pe pos:B0}{kk:Nat}{i1 i2:Expr}{a b:PE}(h1:av W C i1 a)(h2:av W C i2 b)(hx:xe= "zip") (hk:C.kn.lookup xe=some .globalImplicit) (hg:W.mg "zip" =none) (hb:W.mb "zip" =some (.type "zip"))
  (he:∀env,B1 [i1,i2] env=(false,eval i1 env)::B1 [i2] env) (PI:∀env,B1 [i2] env=[(false,eval i2 env)]):
  jb W C (.Tuple [.Name x px, .Name y py] kk pt) [x,y] (.Call (.Name xe pe) [i1,i2] [] pos) (.zip a b):=fun env A E s σ its P e _=>by
 subst hx
 refine oB e fun p e1 e2=>?_
 refine oB e2 fun q e3 e4=>?_
 obtain⟨l,m,rfl,rfl,rfl⟩:∃l m,p= .list l/\q= .list m/\nX l m=its:=by
  cases p with
  |list l=>
   cases q with
   |list m=>exact⟨l,m,rfl,rfl,Aa e4⟩
   |_=>exact nn e4
  |_=>exact nn e4
 refine Er rfl ?_
 refine A6 P.kind (by unfold Be;refine af P.names ?_;exact hk) (C1 (mg:=W.mg) (mb:=W.mb) (P.gl▸W.g P.wd) hg (P.bl▸W.b P.wd) hb ?_) (by decide)
 refine Cn ?_ (he env) (by refine af (PI env) ?_;rfl)
 refine af (he env) ?_
 refine af (PI env) ?_
 refine A8 (zE (h1 env A E s σ _ P e1) fun v aa ah=>?_)
 obtain⟨k,ns,r,_⟩:=ah
 refine A8 (zE (h2 env A E aa σ _ (P.kp k) e3) fun u s₂ ai=>?_)
 obtain⟨k₂,ms,aY,_⟩:=ai
 exact B4 (W9 P.room.hh (zI k k₂) (r.sub (zV k₂)) aY)
end
set_option genSizeOf false
structure aj where
 chars:List Nat
 line:Int
 push:List (List Nat)
structure t9 where
 is:Value->aj->List Addr->Ap->Prop
 frame:∀{v b F h h'},is v b F h->(∀a∈F,∀o,h.get? a=some o->h'.get? a=some o)->is v b F h'
 bV:∀{v b F h},is v b F h->∀a∈F,∃o,h.get? a=some o
structure Sg where
 σ:List (Option PV)
 β:Option (Value×aj)
noncomputable def Sg.set(g:Sg)(i:Nat)(p:PV):Sg:={g with σ:=g.σ.set i (some p)}
structure Ctx where
 W:bx
 BK:t9
 C:Cx
inductive yZ(s₀ s:Ab):Prop
 |mk (h:Ap) (t:Nat) (g:Array Hb) (e:s={s₀ with heap:=h,toks:=t,gens:=g}) (x:pS s₀.gens g):yZ s₀ s
theorem yZ.refl(s:Ab):yZ s s:=⟨s.heap,s.toks,s.gens,rfl, .rfl' _⟩
theorem yZ.kg{s₀ s s':Ab}(x:yZ s₀ s)(k:KG s s'):yZ s₀ s':=by
 obtain⟨h,t,g,rfl,e⟩:=x
 obtain⟨h',t',g',rfl,_,e'⟩:=k
 exact⟨h',t',g',rfl,e.trans e'⟩
theorem yZ.heap{s₀ s:Ab}(x:yZ s₀ s)(h:Ap)(t:Nat):yZ s₀ {s with heap:=h,toks:=t}:=by
 obtain⟨h',t',g,rfl,e⟩:=x
 exact⟨h,t,g,rfl,e⟩
structure HP(C:Cx):Prop where
 inj:∀x y i,C.Γ.lookup x=some i->C.Γ.lookup y=some i->x=y
 lt:∀x i,C.Γ.lookup x=some i->i<C.n
 kd:∀x i,C.Γ.lookup x=some i->C.kn.lookup x=some .local\/C.kn.lookup x=some .cell
inductive PJ(env:Dy)(h:Ap)(x:Str)(p:PV)(ns:List Addr):Prop
 |mk (v:Value) (a:Acc env h x v) (r:VR h p v ns):PJ env h x p ns
structure ax(X:Ctx)(tv dv:List Nat)(K:Addr->Option Obj)(env:Dy)(A:Am)(s₀:Ab)(g:Sg)(N:Nat->List Addr)(F:List Addr)(s:Ab):Prop where
 fV:HP X.C
 kind:env.scope.kind= .function
 names:env.scope.names=X.C.kn
 gl:env.globals=mainGlobals
 bl:env.builtins=builtinsNs
 room:wO X.W.D A
 eP:∀x k,X.C.kn.lookup x=some k->k= .cell\/k= .free->∃c,env.cells.lookup x=some c
 eF:∀x y c,env.cells.lookup x=some c->env.cells.lookup y=some c->x=y
 len:g.σ.length=X.C.n
 loc:∃m,s.heap.Ns env.locals m
 dB:K env.locals=none
 cls:∀x c,X.C.kn.lookup x=some .cell->env.cells.lookup x=some c->(∃v,s.heap.IsCell c v)/\K c=none
 rd:∀x i p,X.C.Γ.lookup x=some i->g.σ[i]?=some (some p)->PJ env s.heap x p (N i)
 nd:∀j a,a∈N j->∃items n,s.heap.get? a=some {cls:= .type "list",data:= .seq items n}
 bL:∀i∈tv,∀a r,N i=a::r->K a=none/\a∉r/\∀j,j≠i->a∉N j
 deep:∀i∈dv,(N i).Nodup/\∀a∈N i,K a=none/\∀j,j≠i->a∉N j
 kept:∀b o,K b=some o->s.heap.get? b=some o
 eG:∀h:Ap,(∀b o,K b=some o->h.get? b=some o)->X.W.Wd h
 same:yZ s₀ s
 book:∀v b,g.β=some (v,b)->X.BK.is v b F s.heap
 foot:∀a∈F,K a=none/\(∃o,s.heap.get? a=some o)/\(∀j,a∉N j)/\a≠env.locals/\∀x c,env.cells.lookup x=some c->a≠c
section
variable{X:Ctx}{tv dv:List Nat}{K:Addr->Option Obj}{env:Dy}{A:Am}{s₀ s s':Ab}{g:Sg}{N:Nat->List Addr}{F:List Addr}
theorem ax.pre(T:ax X tv dv K env A s₀ g N F s):Pre X.W X.C env A g.σ s where
 kind:=T.kind
 names:=T.names
 gl:=T.gl
 bl:=T.bl
 room:=T.room
 len:=T.len
 rd:=fun x i p k _ _ e1 e2=>by obtain⟨v,a,r⟩:=T.rd x i p e1 e2;exact⟨v,_,a,r⟩
 wd:=T.eG _ T.kept
 eP:=T.eP
theorem ax.kg(T:ax X tv dv K env A s₀ g N F s)(k:KG s s'):ax X tv dv K env A s₀ g N F s':=
 {T with
  loc:=by obtain⟨m,h⟩:=T.loc;exact⟨m,h.keeps (zV k)⟩
  cls:=fun x c e1 e2=>by obtain⟨⟨v,h⟩,h2⟩:=T.cls x c e1 e2;exact⟨⟨v,h.keeps (zV k)⟩,h2⟩
  rd:=fun x i p e1 e2=>by obtain⟨v,a,r⟩:=T.rd x i p e1 e2;exact⟨v,a.sub (zV k),r.sub (zV k)⟩
  nd:=fun j a ha=>by obtain⟨i,n,e⟩:=T.nd j a ha;exact⟨i,n,zV k _ _ e⟩
  kept:=fun b o e=>zV k b o (T.kept b o e)
  same:=T.same.kg k
  book:=fun v b e=>X.BK.frame (T.book v b e) fun a _ o e=>zV k a o e
  foot:=fun a ha=>by obtain⟨h1,⟨o,h2⟩,h3⟩:=T.foot a ha;exact⟨h1,⟨o,zV k a o h2⟩,h3⟩}
theorem ax.mono{tv' dv':List Nat}(T:ax X tv dv K env A s₀ g N F s)(h1:∀i∈tv',i∈tv)(h2:∀i∈dv',i∈dv):ax X tv' dv' K env A s₀ g N F s:=
 {T with
  bL:=fun i hi=>T.bL i (h1 i hi)
  deep:=fun i hi=>T.deep i (h2 i hi)}
structure ew(tv dv:List Nat)(K:Addr->Option Obj)(N:Nat->List Addr)(F:List Addr)(ms:List Addr)(own:Bool):Prop where
 t:∀j∈tv,∀a r,N j=a::r->a∉ms
 d:∀j∈dv,∀a∈N j,a∉ms
 f:∀a∈F,a∉ms
 o:own=true->ms.Nodup/\∀a∈ms,K a=none/\∀j,a∉N j
theorem ew.nil{own:Bool}:ew tv dv K N F [] own:=⟨fun _ _ _ _ _=>(fun h=>nomatch h),fun _ _ _ _=>(fun h=>nomatch h),fun _ _=>(fun h=>nomatch h),fun _=>⟨Eu,fun _ h=>nomatch h⟩⟩
theorem ax.held(T:ax X tv dv K env A s₀ g N F s){ms:List Addr}(f:wN s.heap ms){own:Bool}:ew tv dv K N F ms own:=by
 have off:∀j,∀a∈N j,a∉ms:=fun j a ha hm=>by
  refine fT (T.nd j a ha) fun i n e=>?_
  rw[f.new a hm]at e;exact nn e
 refine⟨fun j _ a r e=>off j a (e▸Aj ..),fun j _ a ha=>off j a ha,fun a ha hm=>?_,fun _=>⟨f.nodup,fun a ha=>⟨?_,fun j hj=>off j a hj ha⟩⟩⟩
 ·refine dY (T.foot a ha) fun _ gL _=>?_
  refine aH gL fun o e=>?_
  rw[f.new a hm]at e;exact nn e
 ·cases e:K a with
  |none=>rfl
  |some o=>have:=T.kept a o e;rw[f.new a ha]at this;exact nn this
theorem Xa{h:Ap}{a:Addr}{m m':Str->Option Value}(x:h.Ns a m)(y:h.Ns a m')(n:Str):m n=m' n:=by
 refine i5 x fun o es ep e1 e2 _ e3=>?_
 refine i5 y fun o' es' ep' f1 f2 _ f3=>?_
 rw[e1]at f1;obtain rfl:=Aa f1
 rw[e2]at f2;cases f2
 rw[<-e3,f3]
theorem HQ{h:Ap}{c:Addr}{m:Str->Option Value}{v:Option Value}(hn:h.Ns c m)(hc:h.IsCell c v):False:=by
 refine nT hn fun o es ep e1 e2 _=>?_
 refine aB hc fun o' f1 f2=>?_
 rw[e1]at f1;obtain rfl:=Aa f1
 rw[e2]at f2;cases f2
theorem wX{h:Ap}{c:Addr}{v:Option Value}{items:Array Value}{n:Nat}(hc:h.IsCell c v)(e:h.get? c=some {cls:= .type "list",data:= .seq items n}):False:=by
 refine aB hc fun o' f1 f2=>?_
 rw[f1]at e;obtain rfl:=Aa e;cases f2
noncomputable def fW(N:Nat->List Addr)(i:Nat)(ms:List Addr):Nat->List Addr:=fun j=>if j=i then ms else N j
theorem ax.eH{x:Str}{i:Nat}{p:PV}{v:Value}{ms:List Addr}{own:Bool}(T:ax X tv dv K env A s₀ g N F s)(hx:X.C.Γ.lookup x=some i)(r:VR s.heap p v ms)(H:ew tv dv K N F ms own)
  (ho:own=true\/(i∉tv/\i∉dv)) {E:Value->Ab->Prop}:
  Al (Af X.W.prog X.W.w) A (storeName env x v) (fun _ s'=>ax X tv dv K env A s₀ (g.set i p) (fW N i ms) F s'/\(∀a items n,s.heap.get? a=some {cls:= .type "list",data:= .seq items n}->s'.heap.get? a=some {cls:= .type "list",data:= .seq items n})/\∀b o,b≠env.locals->(∀y d,X.C.kn.lookup y=some .cell->env.cells.lookup y=some d->b≠d)->s.heap.get? b=some o->s'.heap.get? b=some o) E s:=by
 have hi:i<g.σ.length:=by refine af T.len ?_;exact T.fV.lt x i hx
 have key:∀(c:Addr) (h':Ap) (tk:Nat),(∀b o,b≠c->s.heap.get? b=some o->h'.get? b=some o)->(c=env.locals\/∃y,X.C.kn.lookup y=some .cell/\env.cells.lookup y=some c)->K c=none->(∀items n,s.heap.get? c≠some {cls:= .type "list",data:= .seq items n})->
   c∉F->(∃m,h'.Ns env.locals m)->(∀y d,X.C.kn.lookup y=some .cell->env.cells.lookup y=some d->∃v,h'.IsCell d v)->
   (∀y j q,y≠x->X.C.Γ.lookup y=some j->g.σ[j]?=some (some q)->∀u,Acc env s.heap y u->Acc env h' y u)->Acc env h' x v->
   ax X tv dv K env A s₀ (g.set i p) (fW N i ms) F {s with heap:=h',toks:=tk}/\(∀a items n,s.heap.get? a=some {cls:= .type "list",data:= .seq items n}->h'.get? a=some {cls:= .type "list",data:= .seq items n})/\∀b o,b≠env.locals->(∀y d,X.C.kn.lookup y=some .cell->env.cells.lookup y=some d->b≠d)->s.heap.get? b=some o->h'.get? b=some o:=by
  intro c h' tk up HR HS dh HT bg bQ cq Xb
  have nodes:∀a,(∃items n,s.heap.get? a=some {cls:= .type "list",data:= .seq items n})->∀o,s.heap.get? a=some o->h'.get? a=some o:=fun a ⟨it,n,e⟩ o e'=>up a o (fun q=>dh it n (q▸e)) e'
  have PK:=r.nodes
  refine⟨?_,fun a items n e=>nodes a ⟨items,n,e⟩ _ e,fun b o h1 h2 e=>up b o (fun q=>by
   rcases HR with rfl|⟨y,e1,e2⟩
   ·exact h1 q
   ·exact h2 y c e1 e2 q) e⟩
  exact
   {fV:=T.fV,kind:=T.kind,names:=T.names,gl:=T.gl,bl:=T.bl,room:=T.room,eP:=T.eP,eF:=T.eF
    len:=by refine(?_:(g.σ.set i (some p)).length=_);refine af Ct ?_;exact T.len
    loc:=bg,dB:=T.dB
    cls:=fun y d e1 e2=>⟨bQ y d e1 e2,(T.cls y d e1 e2).2⟩
    rd:=fun y j q e1 e2=>by
     by_cases hj:j=i
     ·subst hj
      have:y=x:=T.fV.inj y x j e1 hx
      subst this
      have e2:(g.σ.set j (some p))[j]?=some (some q):=e2
      rw[D0 hi]at e2
      cases e2
      refine⟨v,Xb,?_⟩
      unfold fW;refine af (if_pos rfl) ?_
      exact r.on fun a ha o e=>nodes a (PK a ha) o e
     ·have e2:(g.σ.set i (some p))[j]?=some (some q):=e2
      rw[Bl (Hj hj)]at e2
      obtain⟨u,a,r'⟩:=T.rd y j q e1 e2
      have ot:y≠x:=fun q=>hj (by rw[q,hx]at e1;obtain rfl:=Aa e1;rfl)
      refine⟨u,cq y j q ot e1 e2 u a,?_⟩
      unfold fW;refine af (if_neg hj) ?_
      exact r'.on fun a ha o e=>nodes a (T.nd j a ha) o e
    nd:=fun j a ha=>by
     unfold fW at ha
     split at ha
     ·obtain⟨it,n,e⟩:=PK a ha;exact⟨it,n,nodes a ⟨it,n,e⟩ _ e⟩
     ·obtain⟨it,n,e⟩:=T.nd j a ha;exact⟨it,n,nodes a ⟨it,n,e⟩ _ e⟩
    bL:=fun j hj a rr e=>by
     unfold fW at e
     by_cases ee:j=i
     ·rw[if_pos ee]at e
      subst ee
      rcases ho with ho|ho
      ·refine aq (H.o ho) fun h1 h2=>?_
       rw[e]at h1 h2
       refine aq (h2 a (Aj ..)) fun h3 h4=>?_
       refine nU h3 ((Cs.mp h1).1) (fun k hk=>?_)
       unfold fW;refine af (if_neg hk) ?_;exact h4 k
      ·exact absurd hj ho.1
     ·rw[if_neg ee]at e
      refine dY (T.bL j hj a rr e) fun h1 h2 h3=>?_
      refine nU h1 h2 (fun k hk=>?_)
      unfold fW
      split
      ·exact H.t j hj a rr e
      ·exact h3 k hk
    deep:=fun j hj=>by
     unfold fW
     by_cases ee:j=i
     ·refine af (if_pos ee) ?_
      subst ee
      rcases ho with ho|ho
      ·refine aq (H.o ho) fun h1 h2=>?_
       refine bZ h1 (fun a ha=>⟨(h2 a ha).1,fun k hk=>?_⟩)
       refine af (if_neg hk) ?_;exact(h2 a ha).2 k
      ·exact absurd hj ho.2
     ·refine af (if_neg ee) ?_
      refine aq (T.deep j hj) fun h1 h2=>?_
      refine bZ h1 (fun a ha=>⟨(h2 a ha).1,fun k hk=>?_⟩)
      split
      ·exact H.d j hj a ha
      ·exact(h2 a ha).2 k hk
    kept:=fun b o e=>up b o (fun q=>by rw[q,HS]at e;exact nn e) (T.kept b o e)
    eG:=T.eG
    same:=T.same.heap h' tk
    book:=fun u b e=>X.BK.frame (T.book u b e) fun a ha o e=>up a o (fun q=>HT (q▸ha)) e
    foot:=fun a ha=>by
     refine AO (T.foot a ha) fun h1 gL h3 h4 h5=>?_
     refine aH gL fun o h2=>?_
     refine u5 h1 ⟨o,up a o (fun q=>HT (q▸ha)) h2⟩ (fun j=>?_) h4 h5
     unfold fW
     split
     ·exact H.f a ha
     ·exact h3 j}
 have kindOf:∀k,X.C.kn.lookup x=some k->env.kindOf x=some k:=fun k e=>by unfold Be;refine af T.names ?_;exact e
 rcases T.fV.kd x i hx with hk|hk
 ·refine aH T.loc fun m hm=>?_
  refine wpAny_storeName_local (kindOf _ hk) hm (fun h' qa dq=>?_) (by refine af T.kind ?_;rfl)
  refine key env.locals h' _ (fun b o hb e=>dq.extBut b o hb e) (.inl rfl) T.dB (fun items n e=>wH hm e) (fun hF=>(T.foot _ hF).2.2.2.1 rfl) ⟨_,qa⟩ (fun y d e1 e2=>?_) (fun y j q ot e1 e2 u a=>?_) ?_
  ·refine aq (T.cls y d e1 e2) fun bJ _=>?_
   refine aH bJ fun w h=>?_
   exact cu w (h.sameBut dq fun q=>HQ hm (q▸h))
  ·rcases a with⟨hl,m',qb,hv⟩|⟨hl,c,hc,hv⟩
   ·refine .inl ⟨hl,_,qa,?_⟩
    (refine eV ot ?_;(refine af (Xa hm qb ..) ?_;exact af hv rfl))
   ·exact .inr ⟨hl,c,hc,hv.sameBut dq fun q=>HQ hm (q▸hv)⟩
  ·exact .inl ⟨kindOf _ hk,_,qa,by simp⟩
 ·refine aH (T.eP x _ hk (.inl rfl)) fun c hc=>?_
  refine aq (T.cls x c hk hc) fun bJ HS=>?_
  refine aH bJ fun Xd l8=>?_
  refine aH T.loc fun m hm=>?_
  refine wpAny_storeName_cell T.kind (kindOf _ hk) hc l8 fun h' aT dq=>?_
  have BO:env.locals≠c:=fun q=>HQ hm (q▸l8)
  refine key c h' s.toks (fun b o hb e=>dq.extBut b o hb e) (.inr ⟨x,hk,hc⟩) HS (fun items n e=>wX l8 e) (fun hF=>(T.foot _ hF).2.2.2.2 x c hc rfl) ⟨m,hm.sameBut dq BO⟩ (fun y d e1 e2=>?_) (fun y j q ot e1 e2 u a=>?_) ?_
  ·by_cases hd:d=c
   ·subst hd;exact⟨_,aT⟩
   ·refine aq (T.cls y d e1 e2) fun bJ _=>?_
    refine aH bJ fun w h=>?_
    exact cu w (h.sameBut dq hd)
  ·rcases a with⟨hl,m',qb,hv⟩|⟨hl,c',lq,hv⟩
   ·exact .inl ⟨hl,m',qb.sameBut dq BO,hv⟩
   ·refine .inr ⟨hl,c',lq,hv.sameBut dq fun q=>ot (T.eF y x c' lq (q▸hc))⟩
  ·exact .inr ⟨.inl (kindOf _ hk),c,hc,aT⟩
theorem ax.store{x:Str}{i:Nat}{p:PV}{v:Value}{ms:List Addr}{own:Bool}(T:ax X tv dv K env A s₀ g N F s)(hx:X.C.Γ.lookup x=some i)(r:VR s.heap p v ms)(H:ew tv dv K N F ms own)
  (ho:own=true\/(i∉tv/\i∉dv)) {E:Value->Ab->Prop}:
  Al (Af X.W.prog X.W.w) A (storeName env x v) (fun _ s'=>ax X tv dv K env A s₀ (g.set i p) (fW N i ms) F s') E s:=zE (T.eH hx r H ho) fun _ _ h=>h.1
end
set_option genSizeOf false
inductive Fl where
 |next|brk|cont
 |ret (p:PV)
noncomputable abbrev Den:=Sg->Option (Sg×Fl)
noncomputable abbrev dC:=Sg->Option (Sg×PV)
noncomputable def fD(U:Uc)(pe:PE):dC:=fun g=>(ev U pe g.σ).bind fun p=>if fresh pe p then some (g,p)else none
noncomputable def yX(i:Nat)(f:dC):Den:=fun g=>(f g).bind fun r=>some (r.1.set i r.2, .next)
noncomputable def PL(i j:Nat)(f:dC):Den:=fun g=>(f g).bind fun r=>some ((r.1.set i r.2).set j r.2, .next)
noncomputable def PM(i j:Nat)(U:Uc)(a b:PE):Den:=fun g=>(ev U a g.σ).bind fun x=>(ev U b g.σ).bind fun y=>if x.ba&&y.ba then some ((g.set j y).set i x, .next)else none
noncomputable def PN(op:Ia)(x y:PV):Option PV:=match op with
 | .Sub=>tP (fun a b=>some (a-b)) x y
 | .Add=>match x with
  | .int a=>y.int?.map fun b=> .int (a+b)
  | .str a=>y.dr.bind fun b=>if a.length+b.length<=ag then some (.str (a++b))else none
  |_=>none
 |_=>none
noncomputable def ou(U:Uc)(op:Ia)(i:Nat)(pe:PE):Den:=fun g=>((g.σ[i]?).bind id).bind fun x=>(ev U pe g.σ).bind fun y=>(PN op x y).map fun z=>(g.set i z, .next)
noncomputable def BP(U:Uc)(c:PT)(f h:Den):Den:=fun g=>(aZ U c g.σ).bind fun t=>if t then f g else h g
noncomputable def vB(f:dC):Den:=fun g=>(f g).bind fun r=>some (r.1, .ret r.2)
noncomputable def aA:Den:=fun g=>some (g, .next)
noncomputable def zZ(f h:Den):Den:=fun g=>(f g).bind fun r=>match r with
 |(g', .next)=>h g'
 |r=>some r
section
variable(X:Ctx)(tv dv:List Nat)
inductive PX(K:Addr->Option Obj)(env:Dy)(A:Am)(s₀:Ab)(g':Sg)(p:PV)(own:Bool)(v:Value)(s':Ab):Prop
 |mk (N':Nat->List Addr) (F' ms:List Addr) (T:ax X tv dv K env A s₀ g' N' F' s') (r:VR s'.heap p v ms) (H:ew tv dv K N' F' ms own):PX K env A s₀ g' p own v s'
noncomputable def Xe(K:Addr->Option Obj)(env:Dy)(A:Am)(E:Value->Ab->Prop)(s₀:Ab)(g':Sg)(p:PV)(own:Bool)(e:Expr)(s:Ab):Prop:=Al (Af X.W.prog X.W.w) A (eval e env) (PX X tv dv K env A s₀ g' p own) E s
noncomputable def dm(own:Bool)(e:Expr)(f:dC):Prop:=∀K env A E s₀ g N F s g' p,ax X tv dv K env A s₀ g N F s->f g=some (g',p)->Xe X tv dv K env A E s₀ g' p own e s
noncomputable def Xf(K:Addr->Option Obj):Fl->Mb->Ab->Prop
 | .next,fw,_=>fw= .next
 | .brk,fw,_=>fw= .brk
 | .cont,fw,_=>fw= .cont
 | .ret p,fw,s=>∃v ms,fw= .ret v/\VR s.heap p v ms/\∀a∈ms,K a=none
inductive jf(K:Addr->Option Obj)(env:Dy)(A:Am)(s₀:Ab)(g':Sg)(fl:Fl)(fw:Mb)(s':Ab):Prop
 |mk (f:Xf K fl fw s') (N':Nat->List Addr) (F':List Addr) (T:ax X tv dv K env A s₀ g' N' F' s'):jf K env A s₀ g' fl fw s'
noncomputable def HU(K:Addr->Option Obj)(env:Dy)(A:Am)(E:Value->Ab->Prop)(s₀:Ab)(g':Sg)(fl:Fl)(st:Stmt)(s:Ab):Prop:=Al (Af X.W.prog X.W.w) A (exec st env) (jf X tv dv K env A s₀ g' fl) E s
noncomputable def PQ(K:Addr->Option Obj)(env:Dy)(A:Am)(E:Value->Ab->Prop)(s₀:Ab)(g':Sg)(fl:Fl)(b:List Stmt)(s:Ab):Prop:=Al (Af X.W.prog X.W.w) A (Gi b env) (jf X tv dv K env A s₀ g' fl) E s
noncomputable def zN(st:Stmt)(f:Den):Prop:=∀K env A E s₀ g N F s g' fl,ax X tv dv K env A s₀ g N F s->f g=some (g',fl)->HU X tv dv K env A E s₀ g' fl st s
noncomputable def zP(tv' dv':List Nat)(b:List Stmt)(f:Den):Prop:=∀K env A E s₀ g N F s g' fl,ax X tv dv K env A s₀ g N F s->f g=some (g',fl)->PQ X tv' dv' K env A E s₀ g' fl b s
end
noncomputable def jg(a b:List Nat):Bool:=a.all b.contains
theorem qc{a b:List Nat}(h:jg a b=true):∀i∈a,i∈b:=fun i hi=>by
 unfold jg at h
 have:=Ao.mp h i hi
 simpa using this
section
variable{X:Ctx}{tv dv tv' dv':List Nat}
theorem dm.pure{e:Expr}{pe:PE}(h:av X.W X.C e pe):dm X tv dv true e (fD X.W.U pe):=fun K env A E s₀ g N F s g' p T e=>by
 refine oB e fun q e1 e2=>?_
 refine oI e2 fun hf e2=>?_
 refine sp e2 (zE (h env A E s g.σ q T.pre e1) fun v aa ah=>?_)
 obtain⟨k,ns,r,f⟩:=ah
 exact⟨N,F,ns,T.kg k,r,T.held (f hf)⟩
theorem zN.assign{x:Str}{i:Nat}{px pos:B0}{value:Expr}{f:dC}{own:Bool}(hx:X.C.Γ.lookup x=some i)(ho:own=true\/(i∉tv/\i∉dv))(h:dm X tv dv own value f)
  (hs:∀env:Dy,env.scope.names=X.C.kn->Hx value (some (.Name x px)) pos.line env=pure false):zN X tv dv (.Assign [.Name x px] value pos) (yX i f):=fun K env A E s₀ g N F s g' fl T e=>by
 obtain⟨⟨g₁,p⟩,e1,e2⟩:=wG e
 refine sp e2 ?_
 refine Hk (zE (h K env A E s₀ g N F s g₁ p T e1) fun v aa ah=>?_) (hs env T.names)
 obtain⟨N',F',ms,T',r,H⟩:=ah
 exact zE (T'.store hx r H ho) fun _ s₂ aw=>⟨rfl,_,_,aw⟩
theorem zN.df{x y:Str}{i j:Nat}{px py pos:B0}{value:Expr}{pe:PE}(hx:X.C.Γ.lookup x=some i)(hy:X.C.Γ.lookup y=some j)(hi:i∉tv/\i∉dv)(hj:j∉tv/\j∉dv)
  (h:av X.W X.C value pe):zN X tv dv (.Assign [.Name x px, .Name y py] value pos) (PL i j fun g=>(ev X.W.U pe g.σ).bind fun p=>if p.ba then some (g,p)else none):=fun K env A E s₀ g N F s g' fl T e=>by
 obtain⟨⟨g₁,p⟩,e1,e2⟩:=wG e
 refine oB e1 fun q e3 e4=>?_
 refine oI e4 fun kA e4=>?_
 refine aq (Bh (Aa e4)) fun aG aM=>?_
 subst aG
 subst aM
 refine sp e2 (wpAny_Assign_two (zE (h env A E s g.σ q T.pre e3) fun v aa ah=>?_))
 obtain⟨k,ns,r,f⟩:=ah
 refine Dl (zE ((T.kg k).store hx (r.bP kA) (ew.nil (own:=true)) (.inl rfl)) fun _ s₂ aw=>?_)
 exact Dl (zE (aw.store hy (r.bP kA) (ew.nil (own:=true)) (.inl rfl)) fun _ ak aN=>⟨rfl,_,_,aN⟩)
theorem Xg{prog:Program}{w:Co}{A:Am}{E:Value->Ab->Prop}{s:Ab}{h:Ap}{op:Ia}{x y z:PV}{v u:Value}{ns ms:List Addr}{Q:Value->Ab->Prop}(e:PN op x y=some z)(hv:VR h x v ns)(hu:VR h y u ms)
  (k:∀v' tk,(∀h',VR h' z v' [])->Q v' {s with toks:=tk}):Al (Af prog w) A (Jy op v u) Q E s:=by
 cases op with
 |Sub=>exact vd hv hu e (M:=fun z v u=>(∀v' tk,(∀h',VR h' z v' [])->Q v' {s with toks:=tk})->Al (Af prog w) A (Jy .Sub v u) Q E s) (fun a b c t t' q k=>PyProof.Rows.isub_int (k _ _ fun h'=>Aa q▸ .int ..)) k
 |Add=>
  cases x with
  |int a=>
   obtain⟨b,e1,rfl⟩:=dk e
   exact VR.d0 hv (M:=fun v _=>Al (Af prog w) A (Jy .Add v u) Q E s) fun t=>VR.dt hu e1 (M:=fun u _=>Al (Af prog w) A (Jy .Add _ u) Q E s) fun t'=>Kl (k _ _ fun h'=> .int ..)
  |str a=>
   refine oB e fun b e1 e=>?_
   refine oI e fun hsz e=>?_
   refine VR.eW hv (M:=fun v _=>Al (Af prog w) A (Jy .Add v u) Q E s) fun t=>VR.il hu e1 (M:=fun u _=>Al (Af prog w) A (Jy .Add _ u) Q E s) fun t'=>SBL.iadd (fun t' kk _=>?_) (by rw[Bo];simp[Cf];assumption)
   rw[GQ]
   exact k _ _ fun h'=>Aa e▸ .str ..
  |_=>exact nn e
 |_=>exact nn e
theorem zN.aug{x:Str}{i:Nat}{px pos:B0}{op:Ia}{value:Expr}{pe:PE}(hx:X.C.Γ.lookup x=some i)(h:av X.W X.C value pe)(hn:(x==("__classdict__" :Str))=false):
  zN X tv dv (.AugAssign (.Name x px) op value pos) (ou X.W.U op i pe):=fun K env A E s₀ g N F s g' fl T e=>by
 refine oB e fun p e1 e=>?_
 refine oB e fun q e2 e=>?_
 obtain⟨z,ez,e⟩:=dk e
 refine oB e1 fun p' e3 e4=>?_
 obtain rfl:p'=some p:=e4
 obtain⟨v,a,r⟩:=T.rd x i p hx e3
 refine aq (Bh e) fun aG aM=>?_
 subst aG
 subst aM
 refine wpAny_AugAssign_Name (zS T.kind a ?_ hn)
 refine zE (h env A E s g.σ q T.pre e2) fun u aa ah=>?_
 obtain⟨k,ns,r',_⟩:=ah
 refine Xg (h:=aa.heap) ez (r.sub (zV k)) r' fun v' tk hz=>?_
 exact zE (((T.kg k).kg (wZ aa tk)).store hx (hz _) (ew.nil (own:=true)) (.inl rfl)) fun _ ak aN=>⟨rfl,_,_,aN⟩
theorem zN.PR{test:Expr}{body orelse:List Stmt}{pos:B0}{c:PT}{f h:Den}(ht:du X.W X.C test c)(hb:zP X tv dv tv dv body f)(ho:zP X tv dv tv dv orelse h):
  zN X tv dv (.If test body orelse pos) (BP X.W.U c f h):=fun K env A E s₀ g N F s g' fl T e=>by
 refine oB e fun t e1 e2=>?_
 refine Mc (zE (ht env A E s g.σ t T.pre e1) fun b aa ah=>?_)
 refine aq ah fun aG k=>?_
 clear ah
 subst aG
 cases b with
 |true=>exact hb K env A E s₀ g N F aa g' fl (T.kg k) e2
 |false=>exact ho K env A E s₀ g N F aa g' fl (T.kg k) e2
theorem zN.ret{e:Expr}{pos:B0}{f:dC}(h:dm X tv dv true e f):zN X tv dv (.Return (some e) pos) (vB f):=fun K env A E s₀ g N F s g' fl T e=>by
 obtain⟨⟨g₁,p⟩,e1,e2⟩:=wG e
 refine aq (Bh (Aa e2)) fun aG aM=>?_
 subst aG
 subst aM
 refine Ga (zE (h K env A E s₀ g N F s g₁ p T e1) fun v aa ah=>?_)
 obtain⟨N',F',ms,T',r,H⟩:=ah
 exact⟨⟨v,ms,rfl,r,fun a ha=>((H.o rfl).2 a ha).1⟩,N',F',T'⟩
theorem zN.brk{pos:B0}:zN X tv dv (.Break pos) (fun g=>some (g, .brk)):=fun K env A E s₀ g N F s g' fl T e=>by
 exact sp e (wpAny_Break ⟨rfl,N,F,T⟩)
theorem zN.cont{pos:B0}:zN X tv dv (.Continue pos) (fun g=>some (g, .cont)):=fun K env A E s₀ g N F s g' fl T e=>by
 exact sp e (wpAny_Continue ⟨rfl,N,F,T⟩)
theorem zN.pass{pos:B0}:zN X tv dv (.Pass pos) aA:=fun K env A E s₀ g N F s g' fl T e=>by
 exact sp e (wpAny_Pass ⟨rfl,N,F,T⟩)
theorem zP.nil(h1:jg tv' tv=true)(h2:jg dv' dv=true):zP X tv dv tv' dv' [] aA:=fun K env A E s₀ g N F s g' fl T e=>by
 exact sp e (Ek ⟨rfl,N,F,T.mono (qc h1) (qc h2)⟩)
theorem zP.cons{tv₁ dv₁:List Nat}{st:Stmt}{rest:List Stmt}{f h:Den}(h1:zN X tv dv st f)(h2:zP X tv₁ dv₁ tv' dv' rest h)(m1:jg tv₁ tv=true)(m2:jg dv₁ dv=true)(m3:jg tv' tv=true)(m4:jg dv' dv=true):
  zP X tv dv tv' dv' (st::rest) (zZ f h):=fun K env A E s₀ g N F s g' fl T e=>by
 obtain⟨⟨g₁,iw⟩,e1,e2⟩:=wG e
 refine Bd (zE (h1 K env A E s₀ g N F s g₁ iw T e1) fun fw aa ah=>?_)
 obtain⟨hf,N',F',T'⟩:=ah
 have aR:=T'.mono (qc m3) (qc m4)
 cases iw with
 |next=>exact Fz hf▸h2 K env A E s₀ g₁ N' F' aa g' fl (T'.mono (qc m1) (qc m2)) e2
 |brk=>exact sp e2 (Fz hf▸⟨rfl,N',F',aR⟩)
 |cont=>exact sp e2 (Fz hf▸⟨rfl,N',F',aR⟩)
 |ret p=>exact sp e2 (let⟨v,ms,q,r,hn⟩:=hf;q.symm▸⟨⟨v,ms,rfl,r,hn⟩,N',F',aR⟩)
end
theorem ao.setAt{h:Ap}{ps:List PV}{vs:List Value}{ns:List Addr}(x:ao h ps vs ns){p:PV}{v:Value}(k:Nat)(r:VR h p v []):∃r,ao h (ps.set k p) (vs.set k v) r/\∀b∈r,b∈ns:=
 x.ind (M:=fun ps vs ns=>∀k:Nat,∃r,ao h (ps.set k p) (vs.set k v) r/\∀b∈r,b∈ns) (fun _=>⟨[], .nil,fun _ h=>h⟩) (fun hv hs ih k=>by
  cases k with
  |zero=>exact⟨_, .cons r hs,fun b hb=>Ar _ hb⟩
  |succ k=>
   refine aB (ih k) fun r' e1 e2=>?_
   exact⟨_, .cons hv e1,fun b hb=>Bb.mpr ((Bb.mp hb).imp id (e2 b))⟩) k
theorem ao.snoc{h:Ap}:∀{ps:List PV} {p:PV} {vs:List Value} {ns:List Addr},ao h (ps++[p]) vs ns->∃us v r n,vs=us++[v]/\ao h ps us r/\VR h p v n/\(∀b∈r,b∈ns)/\∀b∈n,b∈ns
 |[],p,_,_,x=>x.lX (M:=fun vs=>∃us v r n,vs=us++[v]/\ao h [] us r/\VR h p v n/\(∀b∈r,b∈_)/\∀b∈n,b∈_) fun v hv=>⟨[],v,[],_,rfl, .nil,hv,fun _ h=>(Aq h).elim,fun _ h=>h⟩
 |q::ps,p,vs,ns,x=>ao.fq (M:=fun vs ns=>∃us v r n,vs=us++[v]/\ao h (q::ps) us r/\VR h p v n/\(∀b∈r,b∈ns)/\∀b∈n,b∈ns) x fun w _ _ _ hv hs=>by
  refine u3 (ao.snoc (ps:=ps) hs) fun us v r n iv e1 e2 e3 e4=>?_
  subst iv
  exact VC (w::us) v _ n rfl (.cons hv e1) e2 (fun b hb=>Bb.mpr ((Bb.mp hb).imp id (e3 b))) (fun b hb=>Ar _ (e4 b hb))
section
variable{X:Ctx}{tv dv:List Nat}{K:Addr->Option Obj}{env:Dy}{A:Am}{s₀ s:Ab}{g:Sg}{N:Nat->List Addr}{F:List Addr}
theorem vC{i j:Nat}{l:List Addr}{b:Addr}{P:Prop}(h:b∈fW N i l j)(h1:j=i->b∈l->P)(h2:j≠i->b∈N j->P):P:=by
 by_cases q:j=i
 ·exact h1 q (by rw[fW,if_pos q]at h;exact h)
 ·exact h2 q (by rw[fW,if_neg q]at h;exact h)
theorem ow{i j:Nat}{l:List Addr}(h:j≠i):fW N i l j=N j:=if_neg h
theorem HV{i:Nat}{l:List Addr}:fW N i l i=l:=if_pos rfl
inductive HW(env:Dy)(h:Ap)(x:Str)(l:List PV)(ns:List Addr):Prop
 |mk (a:Addr) (r:List Addr) (us:List Value) (hN:ns=a::r) (acc:Acc env h x (.ref a)) (pl:h.PlainList a (En us)) (vs:ao h l us r):HW env h x l ns
theorem ax.top{x:Str}{i:Nat}{l:List PV}(T:ax X tv dv K env A s₀ g N F s)(hx:X.C.Γ.lookup x=some i)(hl:g.σ[i]?=some (some (.list l))):HW env s.heap x l (N i):=by
 obtain⟨v,a,r⟩:=T.rd x i _ hx hl
 exact VR.cW r (M:=fun v ns=>Acc env s.heap x v->HW env s.heap x l ns) (fun b vs ms h1 h2 ac=>⟨b,ms,vs,rfl,ac,h1,h2⟩) a
theorem Acc.ox{h h':Ap}{a:Addr}{its:Array Value}{nn:Nat}{y:Str}{u:Value}(di:h.get? a=some {cls:= .type "list",data:= .seq its nn}) (hs:Cd a h h') (ac:Acc env h y u):Acc env h' y u:=by
 rcases ac with⟨hk,m,hn,hm⟩|⟨hk,c,hc,o,e1,e2⟩
 ·exact .inl ⟨hk,m,hn.at' fun o e=>hs _ o (fun q=>wH hn (q▸di)) e,hm⟩
 ·exact .inr ⟨hk,c,hc,o,hs c o (fun q=>wX ⟨o,e1,e2⟩ (q▸di)) e1,e2⟩
theorem ax.mut{x:Str}{i:Nat}{l l':List PV}{a:Addr}{r r':List Addr}{ua:List Value}{h':Ap}{tk:Nat}(T:ax X tv dv K env A s₀ g N F s)(hx:X.C.Γ.lookup x=some i)(hl:g.σ[i]?=some (some (.list l)))
  (hi:i∈tv) (hd:i∉dv) (hN:N i=a::r) (cj:h'.PlainList a ua.toArray) (bf:ao s.heap l' ua r') (PU:a∉r') (hs:Cd a s.heap h')
  (h1:∀j∈tv,j≠i->∀b q,N j=b::q->b∉r') (h2:∀j∈dv,∀b∈N j,b∉r') (h3:∀b∈F,b∉r'):
  ax X tv dv K env A s₀ (g.set i (.list l')) (fW N i (a::r')) F {s with heap:=h',toks:=tk}:=by
 refine dY (T.bL i hi a r hN) fun rx ix dD=>?_
 have jM:i<g.σ.length:=(Bc.mp hl).1
 have PW:a∈N i:=hN▸Aj ..
 refine fT (T.nd i a PW) fun its nn di=>?_
 have HX:a∉F:=fun h=>(T.foot a h).2.2.1 i PW
 have oy:ao h' l' ua r':=bf.on fun b hb o e=>hs b o (fun q=>PU (q▸hb)) e
 exact
  {fV:=T.fV,kind:=T.kind,names:=T.names,gl:=T.gl,bl:=T.bl,room:=T.room,eP:=T.eP,eF:=T.eF
   len:=by refine(?_:(g.σ.set i _).length=_);refine af Ct ?_;exact T.len
   loc:=by obtain⟨m,hm⟩:=T.loc;exact⟨m,hm.at' fun o e=>hs _ o (fun q=>wH hm (q▸di)) e⟩
   dB:=T.dB
   cls:=fun y c e1 e2=>by
    refine aq (T.cls y c e1 e2) fun bJ h=>?_
    refine dZ bJ fun v o e3 e4=>?_
    exact bZ ⟨v,o,hs c o (fun q=>wX ⟨o,e3,e4⟩ (q▸di)) e3,e4⟩ h
   rd:=fun y j q e1 e2=>by
    by_cases hj:j=i
    ·have ot:y=x:=T.fV.inj y x i (hj▸e1) hx
     have e2:(g.σ.set i (some (.list l')))[i]?=some (some q):=hj▸e2
     rw[D0 jM]at e2
     obtain⟨a',r0,HY,e3,e4,_⟩:=T.top hx hl
     refine aq (D9 (hN.symm.trans e3)) fun aG _=>?_
     subst aG
     refine⟨.ref a,ot▸e4.ox di hs,?_⟩
     refine af hj ?_
     refine af HV ?_
     exact Aa (Aa e2)▸ .list cj oy
    ·have e2:(g.σ.set i (some (.list l')))[j]?=some (some q):=e2
     rw[Bl (Hj hj)]at e2
     obtain⟨u,ac,rr⟩:=T.rd y j q e1 e2
     refine⟨u,ac.ox di hs,?_⟩
     refine af (ow hj) ?_
     exact rr.on fun b hb o e=>hs b o (fun q=>dD j hj (q▸hb)) e
   nd:=fun j b hb=>vC hb (fun _ hb=>(Ay.mp hb).elim (fun q=>cj.elim fun n e=>⟨_,n,q▸e⟩) (oy.nodes b)) fun hj hb=>(T.nd j b hb).elim fun it e=>e.elim fun n e=>⟨it,n,hs b _ (fun q=>dD j hj (q▸hb)) e⟩
   bL:=fun j hj b rr e=>by
    by_cases ee:j=i
    ·rw[ee,HV]at e
     refine aq (D9 e) fun aG aM=>?_
     subst aG
     subst aM
     exact nU rx PU (fun k hk=>by refine af (ow (ee▸hk)) ?_;exact dD k (ee▸hk))
    ·rw[ow ee]at e
     refine dY (T.bL j hj b rr e) fun g1 g2 g3=>?_
     exact nU g1 g2 (fun k hk hm=>vC hm (fun _ hm=>(Ay.mp hm).elim (fun q=>dD j ee (e▸q▸Aj ..)) (h1 j hj ee b rr e)) fun _=>g3 k hk)
   deep:=fun j hj=>by
    have ee:j≠i:=fun q=>hd (q▸hj)
    refine af (ow ee) ?_
    refine aq (T.deep j hj) fun g1 g2=>?_
    exact bZ g1 (fun b hb=>⟨(g2 b hb).1,fun k hk hm=>vC hm (fun _ hm=>(Ay.mp hm).elim (fun q=>dD j ee (q▸hb)) (h2 j hj b hb)) fun _=>(g2 b hb).2 k hk⟩)
   kept:=fun b o e=>hs b o (fun q=>by rw[q,rx]at e;cases e) (T.kept b o e)
   eG:=T.eG
   same:=T.same.heap h' tk
   book:=fun u b e=>X.BK.frame (T.book u b e) fun c hc o e=>hs c o (fun q=>HX (q▸hc)) e
   foot:=fun b hb=>by
    refine AO (T.foot b hb) fun g1 gL g3 g4 g5=>?_
    refine aH gL fun o g2=>?_
    exact⟨g1,⟨o,hs b o (fun q=>HX (q▸hb)) g2⟩,fun j hm=>vC hm (fun _ hm=>(Ay.mp hm).elim (fun q=>HX (q▸hb)) (h3 b hb)) fun _=>g3 j,g4,g5⟩}
theorem PY{prog:Program}{w:Co}{E:Value->Ab->Prop}{l:Addr}{us:List Value}{y:Value}{Q:Value->Ab->Prop}(hl:s.heap.PlainList l (us++[y]).toArray)(hsz:us.length+1<=ag)
  (hQ:∀h',h'.PlainList l us.toArray->Cd l s.heap h'->Q y {s with heap:=h'}):Al (Af prog w) A (call (.builtin "list.pop") [.ref l]) Q E s:=by
 refine aH hl fun n ho=>?_
 have hz:(us++[y]).toArray.size<=sizeLine:=by refine af Bo ?_;simp;exact Fx ‹_›
 have hk:(us++[y]).toArray.size-1=us.length:=by(refine af A3 ?_;refine af Ah ?_);rfl
 have hy:(us++[y]).toArray[(us++[y]).toArray.size-1]?=some y:=by refine af hk ?_;simp
 refine I1 E2 ⟨_,ho,rfl⟩ Kb (PySem.F.args_list_pop_1 _) (PySem.MeetsSeq.list_pop_last l _ n y hy hz) ⟨ho,hQ _ ?_ (El ..).extBut⟩
 have q:=Gp ho (fun xs=>xs.eraseIdxIfInBounds ((us++[y]).toArray.size-1))
 rw[hk,kl_erase,Bx]at q
 refine af hk ?_
 exact cu _ q
noncomputable def lB(g:Sg)(i:Nat):Option (List PV):=((g.σ[i]?).bind id).bind PV.dM
theorem vD{g:Sg}{i:Nat}{l:List PV}(h:lB g i=some l):g.σ[i]?=some (some (.list l)):=by
 refine oB h fun p e1 e2=>?_
 refine oB e1 fun q e3 e4=>?_
 rw[e3,show q=some p from e4,PV.cX e2]
theorem HZ{g:Sg}{i:Nat}{l:List PV}(h:g.σ[i]?=some (some (.list l))):lB g i=some l:=by
 rw[lB,h];rfl
noncomputable def vE(i:Nat):dC:=fun g=>(lB g i).bind fun l=>if l.length<=ag then(l.getLast?).map fun p=>(g.set i (.list l.dropLast),p)else none
inductive PZ(i:Nat)(g g':Sg)(p:PV):Prop
 |mk (l:List PV) (hl:g.σ[i]?=some (some (.list (l++[p])))) (hsz:l.length+1<=ag) (hg:g.set i (.list l)=g'):PZ i g g' p
theorem P7{i:Nat}{g g':Sg}{p:PV}(e:vE i g=some (g',p)):PZ i g g' p:=by
 refine oB e fun l e1 e=>?_
 refine oI e fun hsz e=>?_
 obtain⟨q,e2,e3⟩:=dk e
 refine aH (List.getLast?_eq_some_iff.mp e2) fun l aM=>?_
 subst aM
 refine aq (Bh e3) fun e4 aM=>?_
 subst aM
 rw[K5]at e4
 rw[Ah]at hsz
 exact⟨l,vD e1,hsz,e4⟩
inductive P8(X:Ctx)(tv dv:List Nat)(K:Addr->Option Obj)(env:Dy)(A:Am)(s₀:Ab)(g':Sg)(N:Nat->List Addr)(F:List Addr)(i:Nat)(p:PV)(v:Value)(s':Ab):Prop
 |mk (ms nn:List Addr) (T:ax X tv dv K env A s₀ g' (fW N i nn) F s') (r:VR s'.heap p v ms) (H:ew tv dv K (fW N i nn) F ms false):P8 X tv dv K env A s₀ g' N F i p v s'
theorem BQ{h:Ap}{a:Addr}{l:Array Value}(cj:h.PlainList a l):∀c,Hy a= .ref c->∃o,h.get? c=some o/\o.dict=none:=fun c e=>by
 refine aH cj fun n h=>?_
 exact i12 _ (Gu e▸h) rfl
theorem P9{x:Str}{i:Nat}{apos pos px:B0}{E:Value->Ab->Prop}{g':Sg}{p:PV}(hx:X.C.Γ.lookup x=some i)(hi:i∈tv)(hd:i∉dv)(hn:(x==("__classdict__" :Str))=false) (kB:(x==("__debug__" :Str))=false)
  (aQ:(apos.endLine==pos.line)=true) (bz:∀env,C6 (.Name x px) "pop" env (eval (.Name x px) env)=eval (.Name x px) env) (T:ax X tv dv K env A s₀ g N F s) (e:vE i g=some (g',p)):
  Al (Af X.W.prog X.W.w) A (eval (.Call (.Attribute (.Name x px) "pop" apos) [] [] pos) env) (P8 X tv dv K env A s₀ g' N F i p) E s:=by
 obtain⟨l,hl,hsz,rfl⟩:=P7 e
 obtain⟨a,r,us,hN,cq,cj,bf⟩:=T.top hx hl
 refine u3 bf.snoc fun ua y r' n iv e3 e4 e5 e6=>?_
 subst iv
 refine dY (T.bL i hi a r hN) fun rx ix dD=>?_
 refine Call_method0 (bz env) aQ (Bq (zS T.kind cq ?_ hn) kB)
 refine lU ("list") _ Eg E2 Hp cj.isList.typeIs (BQ cj) (Dc rfl (Ir ?_))
 refine PY cj (e3.length▸hsz) fun h' gj eY=>?_
 have sub:∀b∈r,b∈N i:=fun b hb=>hN▸Ai _ hb
 have vF:∀j∈tv,j≠i->∀b q,N j=b::q->b∉r:=fun j hj ee b q e hm=>(T.bL j hj b q e).2.2 i (Hj ee) (sub b hm)
 have vG:∀j∈dv,∀b∈N j,b∉r:=fun j hj b hb hm=>((T.deep j hj).2 b hb).2 i (fun q=>hd (q▸hj)) (sub b hm)
 have fE:∀b∈F,b∉r:=fun b hb hm=>(T.foot b hb).2.2.1 i (sub b hm)
 refine⟨n,_,T.mut (tk:=s.toks) hx hl hi hd hN gj e3 (fun h=>ix (e5 a h)) eY (fun j hj ee b q e hm=>vF j hj ee b q e (e5 b hm)) (fun j hj b hb hm=>vG j hj b hb (e5 b hm)) (fun b hb hm=>fE b hb (e5 b hm)),
  e4.on fun b hb o e=>eY b o (fun q=>ix (q▸e6 b hb)) e,fun j hj b q e hm=>?_,fun j hj b hb hm=>vC hb (fun q _=>hd (q▸hj)) fun _ hb=>vG j hj b hb (e6 b hm),fun b hb hm=>fE b hb (e6 b hm),fun q=>ft q⟩
 by_cases ee:j=i
 ·rw[ee,HV]at e
  exact ix ((D9 e).1▸e6 b hm)
 ·rw[ow ee]at e
  exact vF j hj ee b q e (e6 b hm)
theorem dm.pop{x:Str}{i:Nat}{apos pos px:B0}(hx:X.C.Γ.lookup x=some i)(hi:i∈tv)(hd:i∉dv)(hn:(x==("__classdict__" :Str))=false) (kB:(x==("__debug__" :Str))=false)
  (aQ:(apos.endLine==pos.line)=true) (bz:∀env,C6 (.Name x px) "pop" env (eval (.Name x px) env)=eval (.Name x px) env):
  dm X tv dv false (.Call (.Attribute (.Name x px) "pop" apos) [] [] pos) (vE i):=fun K env A E s₀ g N F s g' p T e=>
 zE (P9 hx hi hd hn kB aQ bz T e) fun v s' ⟨ms,nn,T',r,H⟩=>⟨_,F,ms,T',r,H⟩
end
noncomputable def Qa(i:Nat)(U:Uc)(pe:PE):Den:=fun g=>(lB g i).bind fun l=>(ev U pe g.σ).bind fun p=>if fresh pe p&&decide (l.length<=ag)then some (g.set i (.list (l++[p])), .next)else none
noncomputable def Qb(i j:Nat)(U:Uc)(pe:PE):Den:=fun g=>(lB g i).bind fun l=>(vE j g).bind fun r=>(ev U pe r.1.σ).bind fun q=>(r.2.int?).bind fun a=>(q.int?).bind fun b=>
 if l.length<=ag then some (r.1.set i (.list (l++[.int (a+b)])), .next)else none
noncomputable def Qc(i:Nat)(U:Uc)(ie ve:PE):Den:=fun g=>(ev U ve g.σ).bind fun p=>(lB g i).bind fun l=>(ev U ie g.σ).bind fun k=>(k.int?).bind fun k=>
 if p.ba&&decide (0<=k)&&decide (k<l.length)&&decide (l.length<=1000)then some (g.set i (.list (l.set k.toNat p)), .next)else none
noncomputable def Qd(g:Sg)(i:Nat)(p:PV)(l:List PV)(a b:PV):Option (Sg×Fl):=(a.int?).bind fun a=>(b.int?).bind fun b=>((l[a.toNat]?).bind PV.dM).bind fun m=>
 if p.ba&&decide (0<=a)&&decide (a<l.length)&&decide (l.length<=1000)&&decide (0<=b)&&decide (b<m.length)&&decide (m.length<=1000)&&m.all PV.ba then some (g.set i (.list (l.set a.toNat (.list (m.set b.toNat p)))), .next)else none
noncomputable def Qe(i:Nat)(U:Uc)(ie je ve:PE):Den:=fun g=>(ev U ve g.σ).bind fun p=>(lB g i).bind fun l=>(ev U ie g.σ).bind fun a=>(ev U je g.σ).bind fun b=>Qd g i p l a b
inductive Qf(g:Sg)(i:Nat)(p:PV)(l:List PV)(a b:PV)(r:Sg×Fl):Prop
 |mk (x y:Int) (m:List PV) (ha:a= .int x) (hb:b= .int y) (hm:l[x.toNat]?=some (.list m)) (hc:(p.ba&&decide (0<=x)&&decide (x<l.length)&&decide (l.length<=1000)&&decide (0<=y)&&decide (y<m.length)&&decide (m.length<=1000)&&m.all PV.ba)=true)
  (e:(g.set i (.list (l.set x.toNat (.list (m.set y.toNat p)))), .next)=r):Qf g i p l a b r
theorem Xh{g:Sg}{i:Nat}{p:PV}{l:List PV}{a b:PV}{r:Sg×Fl}(e:Qd g i p l a b=some r):Qf g i p l a b r:=by
 refine oB e fun x e1 e=>?_
 refine oB e fun y e2 e=>?_
 refine oB e fun m e3 e=>?_
 refine oB e3 fun q e4 e5=>?_
 refine oI e fun hc e=>?_
 exact⟨x,y,m,PV.ea e1,PV.ea e2,PV.cX e5▸e4,hc,Aa e⟩
section
variable{X:Ctx}{tv dv:List Nat}{K:Addr->Option Obj}{env:Dy}{A:Am}{s₀ s:Ab}{g:Sg}{N:Nat->List Addr}{F:List Addr}
inductive Qg(env:Dy)(h:Ap)(x:Str)(l:List PV)(a:Addr)(r:List Addr):Prop
 |mk (us:List Value) (acc:Acc env h x (.ref a)) (pl:h.PlainList a (En us)) (vs:ao h l us r):Qg env h x l a r
theorem Qh{x:Str}{i:Nat}{l:List PV}{a:Addr}{r:List Addr}(T:ax X tv dv K env A s₀ g N F s)(hx:X.C.Γ.lookup x=some i)(hl:g.σ[i]?=some (some (.list l)))(hN:N i=a::r):Qg env s.heap x l a r:=by
 obtain⟨a',r',us,h1,h2,h3,h4⟩:=T.top hx hl
 refine aq (D9 (h1.symm.trans hN)) fun aG aM=>?_
 subst aG
 subst aM
 exact⟨us,h2,h3,h4⟩
inductive Qi(X:Ctx)(tv dv:List Nat)(K:Addr->Option Obj)(env:Dy)(A:Am)(s₀:Ab)(g':Sg)(F:List Addr)(u:Value)(s':Ab):Prop
 |mk (h:u= .none) (N':Nat->List Addr) (T:ax X tv dv K env A s₀ g' N' F s'):Qi X tv dv K env A s₀ g' F u s'
theorem vH{l:List Nat}{i:Nat}(h:l.contains i=true):i∈l:=Hq.mp h
theorem ry{l:List Nat}{i:Nat}(h:l.contains i=false):i∉l:=fun q=>ft (h.symm.trans (Hq.mpr q))
theorem Qj{x:Str}{i:Nat}{l:List PV}{p:PV}{a:Addr}{r:List Addr}{v:Value}{ms:List Addr}{E:Value->Ab->Prop}(T:ax X tv dv K env A s₀ g N F s)(hx:X.C.Γ.lookup x=some i)(hl:g.σ[i]?=some (some (.list l)))(hi:i∈tv)(hd:i∉dv)
  (hN:N i=a::r) (rv:VR s.heap p v ms) (H:ew tv dv K N F ms true) (hsz:l.length<=ag):
  Al (Af X.W.prog X.W.w) A (call (.builtin "list.append") [.ref a,v]) (Qi X tv dv K env A s₀ (g.set i (.list (l++[p]))) F) E s:=by
 obtain⟨us,cq,cj,bf⟩:=Qh T hx hl hN
 refine dY (T.bL i hi a r hN) fun rx ix dD=>?_
 refine Fi cj (fun h' gj dq=>⟨rfl,fW N i (a::(r++ms)),?_⟩) (by have:=bf.length;unfold ag at hsz;rw[Bo];simp;exact zJ)
 rw[Jh]at gj
 have sub:∀b∈r,b∈N i:=fun b hb=>hN▸Ai _ hb
 have Xi:a∉ms:=H.t i hi a r hN
 exact T.mut (tk:=s.toks) hx hl hi hd hN gj (bf.append (ao.one rv)) (fun h=>(Bb.mp h).elim ix Xi) dq.extBut
  (fun j hj ee b q e hm=>(Bb.mp hm).elim (fun h=>(T.bL j hj b q e).2.2 i (Hj ee) (sub b h)) (H.t j hj b q e))
  (fun j hj b hb hm=>(Bb.mp hm).elim (fun h=>((T.deep j hj).2 b hb).2 i (fun q=>hd (q▸hj)) (sub b h)) (H.d j hj b hb))
  (fun b hb hm=>(Bb.mp hm).elim (fun h=>(T.foot b hb).2.2.1 i (sub b h)) (H.f b hb))
theorem zN.append{x:Str}{i:Nat}{px ap pos jh:B0}{arg:Expr}{pe:PE}(hx:X.C.Γ.lookup x=some i)(hi:tv.contains i=true)(hd:dv.contains i=false)(hn:(x==("__classdict__" :Str))=false) (kB:(x==("__debug__" :Str))=false)
  (aQ:(ap.endLine==pos.line)=true) (bz:∀env,C6 (.Name x px) "append" env (eval (.Name x px) env)=eval (.Name x px) env) (hs:∀env,B1 [arg] env=[(false,eval arg env)])
  (h:av X.W X.C arg pe):zN X tv dv (.Expr (.Call (.Attribute (.Name x px) "append" ap) [arg] [] pos) jh) (Qa i X.W.U pe):=fun K env A E s₀ g N F s g' fl T e=>by
 have hi:=vH hi
 have hd:=ry hd
 refine oB e fun l e1 e=>?_
 refine oB e fun p e2 e=>?_
 have hl:=vD e1
 refine oI e fun hc e=>?_
 refine aq (b2 hc) fun Xj Xk=>?_
 refine sp e ?_
 obtain⟨a,r,us,hN,cq,cj,bf⟩:=T.top hx hl
 refine wpAny_Expr ?_ (by unfold interactive;rw[T.kind];rfl) rfl
 refine Iy (bz env) (hs env) aQ (Bq (zS T.kind cq ?_ hn) kB)
 refine lU ("list") _ Eg Jo Jp cj.isList.typeIs (BQ cj) (Dc rfl (evalArgs_plain (A8 (zE (h env A E s g.σ p T.pre e2) fun u s₂ ai=>B4 ?_))))
 obtain⟨k,ms,aY,rg⟩:=ai
 refine zE (Qj (T.kg k) hx hl hi hd hN aY (T.held (rg Xj)) (of_decide_eq_true Xk)) fun u ak au=>?_
 obtain⟨rfl,N',T'⟩:=au
 exact⟨rfl,N',F,T'⟩
theorem zN.dF{x y:Str}{i j:Nat}{px py ap dX pos kE bp jh:B0}{e2:Expr}{pe:PE}(hx:X.C.Γ.lookup x=some i)(hi:tv.contains i=true)(hd:dv.contains i=false)(hy:X.C.Γ.lookup y=some j)(hj:tv.contains j=true)(IA:dv.contains j=false)(BR:(i==j)=false)
  (hn:(x==("__classdict__" :Str))=false) (kB:(x==("__debug__" :Str))=false) (Xl:(y==("__classdict__" :Str))=false) (IB:(y==("__debug__" :Str))=false)
  (aQ:(ap.endLine==pos.line)=true) (bz:∀env,C6 (.Name x px) "append" env (eval (.Name x px) env)=eval (.Name x px) env)
  (rz:(dX.endLine==kE.line)=true) (rA:∀env,C6 (.Name y py) "pop" env (eval (.Name y py) env)=eval (.Name y py) env)
  (hs:∀env,B1 [Expr.BinOp (.Call (.Attribute (.Name y py) "pop" dX) [] [] kE) .Add e2 bp] env=[(false,eval (Expr.BinOp (.Call (.Attribute (.Name y py) "pop" dX) [] [] kE) .Add e2 bp) env)])
  (h:av X.W X.C e2 pe):zN X tv dv (.Expr (.Call (.Attribute (.Name x px) "append" ap) [.BinOp (.Call (.Attribute (.Name y py) "pop" dX) [] [] kE) .Add e2 bp] [] pos) jh) (Qb i j X.W.U pe):=fun K env A E s₀ g N F s g' fl T e=>by
 have hi:=vH hi
 have hd:=ry hd
 have hj:=vH hj
 have IA:=ry IA
 have BR:i≠j:=ne_of_beq_false BR
 refine oB e fun l e1 e=>?_
 obtain⟨⟨g₁,w⟩,e3,e⟩:=wG e
 refine oB e fun q e4 e=>?_
 have hl:=vD e1
 refine oB e fun z ez e=>?_
 refine oB e fun b eb e=>?_
 refine oI e fun hc e=>?_
 have vI:g₁.σ[i]?=some (some (.list l)):=by
  obtain⟨l',_,_,rfl⟩:=P7 e3
  refine(?_:(g.σ.set j _)[i]?=_)
  rw[Bl (Hj BR)];exact hl
 refine sp e ?_
 obtain⟨a,r,us,hN,cq,cj,bf⟩:=T.top hx hl
 refine wpAny_Expr ?_ (by unfold interactive;rw[T.kind];rfl) rfl
 refine Iy (bz env) (hs env) aQ (Bq (zS T.kind cq ?_ hn) kB)
 refine lU ("list") _ Eg Jo Jp cj.isList.typeIs (BQ cj) (Dc rfl (evalArgs_plain (A8 (wpAny_BinOp (zE (P9 hy hj IA Xl IB rz rA T e3) fun v aa ah=>?_)))))
 obtain⟨ms,nn,aR,rv,H⟩:=ah
 refine zE (h env A E aa g₁.σ _ aR.pre e4) fun u s₂ ai=>?_
 obtain⟨k,Qk,aY,_⟩:=ai
 refine VR.dt rv ez (M:=fun v _=>Al _ _ (Kv .Add v u) _ _ s₂) fun t=>VR.dt aY eb (M:=fun u _=>Al _ _ (Kv .Add _ u) _ _ s₂) fun t'=>PyProof.Rows.add_int (B4 ?_)
 refine zE (Qj ((aR.kg k).kg (wZ s₂ (s₂.toks+1))) hx vI hi hd ((ow BR).trans hN) (.int ..) ew.nil hc) fun u ak au=>?_
 obtain⟨rfl,N',T'⟩:=au
 exact⟨rfl,N',F,T'⟩
theorem zN.setItem{x:Str}{i:Nat}{px sp pos:B0}{ie value:Expr}{pi pv:PE}(hx:X.C.Γ.lookup x=some i)(hi:tv.contains i=true)(hd:dv.contains i=false)(hn:(x==("__classdict__" :Str))=false) (kB:(x==("__debug__" :Str))=false)
  (hs:∀env,Hx value (some (.Subscript (.Name x px) ie sp)) pos.line env=pure false) (h1:av X.W X.C ie pi) (h2:av X.W X.C value pv):
  zN X tv dv (.Assign [.Subscript (.Name x px) ie sp] value pos) (Qc i X.W.U pi pv):=fun K env A E s₀ g N F s g' fl T e=>by
 have hi:=vH hi
 have hd:=ry hd
 refine oB e fun p e1 e=>?_
 refine oB e fun l e2 e=>?_
 refine oB e fun k e3 e=>?_
 refine oB e fun z ek e=>?_
 have hl:=vD e2
 refine oI e fun hc e=>?_
 refine aq (b2 hc) fun hc c4=>?_
 refine aq (b2 hc) fun hc c3=>?_
 refine aq (b2 hc) fun c1 c2=>?_
 have c2:=of_decide_eq_true c2
 have c3:=of_decide_eq_true c3
 have c4:=of_decide_eq_true c4
 refine Internal.sp e (wpAny_Assign_Subscript (zE (h2 env A E s g.σ p T.pre e1) fun v aa ah=>?_) (hs env))
 obtain⟨k₁,ns,az,_⟩:=ah
 have aR:=T.kg k₁
 obtain⟨a,r,us,hN,cq,cj,bf⟩:=aR.top hx hl
 refine Bq (zS aR.kind cq ?_ hn) kB
 refine zE (h1 env A E aa g.σ _ aR.pre e3) fun u s₂ ai=>?_
 obtain⟨k₂,ms,aY,_⟩:=ai
 have aY:VR s₂.heap (.int z) u ms:=PV.ea ek▸aY
 refine aB aY.inv fun t aM _=>?_
 subst aM
 have aw:=aR.kg k₂
 obtain⟨us,cq,cj,bf⟩:=Qh aw hx hl hN
 refine dY (aw.bL i hi a r hN) fun rx ix dD=>?_
 refine aH (id cj) fun n ho=>?_
 have hlen:=bf.length
 refine ki_setAt ho c2 (Md c3 (Es (E6.mpr c4) (by decide))) (by(refine af A3 ?_;refine af hlen ?_);exact c3) ?_
 have gk:=Gp ho (fun xs=>xs.setIfInBounds z.toNat v)
 refine aB (bf.setAt z.toNat (az.bP c1)) fun r' e4 e5=>?_
 have sub:∀b∈r',b∈N i:=fun b hb=>hN▸Ai _ (e5 b hb)
 have gj:(s₂.heap.update a (Ly fun xs=>xs.setIfInBounds z.toNat v)).PlainList a (us.set z.toNat v).toArray:=by
  refine cw (I4 ..) ?_
  exact cu _ gk
 exact⟨rfl,fW N i (a::r'),F,aw.mut (tk:=s₂.toks) hx hl hi hd hN gj e4 (fun h=>ix (e5 a h)) (El ..).extBut (fun j hj ee b q e hm=>(aw.bL j hj b q e).2.2 i (Hj ee) (sub b hm))
  (fun j hj b hb hm=>((aw.deep j hj).2 b hb).2 i (fun q=>hd (q▸hj)) (sub b hm)) (fun b hb hm=>(aw.foot b hb).2.2.1 i (sub b hm))⟩
end
noncomputable def nB(U:Uc)(c:PT)(f:Den):Nat->Den
 |0=>fun _=>none
 |n+1=>fun g=>(aZ U c g.σ).bind fun t=>if t then(f g).bind fun r=>match r with
   |(g', .next)=>nB U c f n g'
   |(g', .cont)=>nB U c f n g'
   |(g', .brk)=>some (g', .next)
   |(g', .ret p)=>some (g', .ret p)
  else some (g, .next)
noncomputable def IC:List Nat->List PV->Sg->Sg
 |i::r,p::ps,g=>IC r ps (g.set i p)
 |_,_,g=>g
noncomputable def wE(is:List Nat)(f:Den):List (List PV)->Den
 |[]=>aA
 |it::r=>fun g=>(f (IC is it g)).bind fun q=>match q with
   |(g', .next)=>wE is f r g'
   |(g', .cont)=>wE is f r g'
   |(g', .brk)=>some (g', .next)
   |(g', .ret p)=>some (g', .ret p)
noncomputable def ub(src:Sg->Option (List (List PV)))(is:List Nat)(f:Den):Den:=fun g=>(src g).bind fun its=>wE is f its g
section
variable{X:Ctx}{tv dv:List Nat}
inductive vJ(X:Ctx)(tv dv:List Nat)(K:Addr->Option Obj)(env:Dy)(A:Am)(s₀:Ab)(d:Sg->Option (Sg×Fl))(r:Sg×Fl)(s':Ab):Prop
 |mk (g₁:Sg) (N':Nat->List Addr) (F':List Addr) (T:ax X tv dv K env A s₀ g₁ N' F' s') (e:d g₁=some r):vJ X tv dv K env A s₀ d r s'
theorem zN.l9{test:Expr}{body:List Stmt}{pos:B0}{c:PT}{f:Den}(n:Nat)(ht:du X.W X.C test c)(hb:zP X tv dv tv dv body f):
  zN X tv dv (.While test body [] pos) (nB X.W.U c f n):=fun K env A E s₀ g N F s g' fl T e=>by
 refine wpAny_While (codeAny_whileLoop (fun m s'=>vJ X tv dv K env A s₀ (nB X.W.U c f m) (g',fl) s') ?_ n ⟨g,N,F,T,e⟩)
 intro m s' I
 obtain⟨g₁,N',F',T',e'⟩:=I
 cases m with
 |zero=>exact nn e'
 |succ m=>
  refine oB e' fun t e1 e2=>?_
  refine zE (ht env A _ s' g₁.σ t T'.pre e1) fun b s₂ ai=>?_
  refine aq ai fun aG k=>?_
  clear ai
  subst aG
  have aw:=T'.kg k
  cases b with
  |false=>exact Internal.sp e2 (Ek ⟨rfl,N',F',aw⟩)
  |true=>
   obtain⟨⟨ct,cf⟩,e3,e4⟩:=wG e2
   refine zE (hb K env A _ s₀ g₁ N' F' s₂ ct cf aw e3) fun fw ak au=>?_
   obtain⟨hf,fF,kF,aN⟩:=au
   cases cf with
   |next=>exact Fz hf▸⟨m,Bk m,ct,fF,kF,aN,e4⟩
   |cont=>exact Fz hf▸⟨m,Bk m,ct,fF,kF,aN,e4⟩
   |brk=>exact Fz hf▸Internal.sp e4 ⟨rfl,fF,kF,aN⟩
   |ret p=>
    refine da hf fun v ms cz r hn=>?_
    clear hf
    subst cz
    exact Internal.sp e4 ⟨⟨v,ms,rfl,r,hn⟩,fF,kF,aN⟩
theorem ID{prog:Program}{w:Co}{A:Am}{R:D6->Ab->Prop}{s:Ab}{target:Expr}{I:Addr}{body:List Stmt}{env:Dy}(J:Nat->Ab->Prop)
  (turn:∀n s,J n s->Al (Af prog w) A (G0 (.ref I)) (fun r aa=>(r=none/\R (.ok .next) aa)\/rj prog w A target I env (Fy (Af prog w) A env fun e s'=>R (.error e) s') (fun s₂=>
    Al (Af prog w) A (Gi body env) (fun f ak=>match f with
     | .next| .cont=>∃m,m<n/\J m ak
     | .brk=>R (.ok .next) ak
     | .ret v=>R (.ok (.ret v)) ak) (Fy (Af prog w) A env fun e s'=>R (.error e) s') s₂) r aa) (Fy (Af prog w) A env fun e s'=>R (.error e) s') s)
  (n:Nat) (h:J n s):Ca (Af prog w) A (.forLoop target (.ref I) body [] env) R s:=by
 refine codeAny_loop' rfl J (fun n s hI=>?_) n h
 refine(?_:Al _ _ ((forTurn target (.ref I) body [] env).onRaise (fun x=>do Hv x env;E5 x)) _ _ s)
 refine Ky ?_
 simp only[forTurn]
 refine Ac (Cm (Ac (Lm (Bu (turn n s hI) (fun r aa ah=>?_) fun _ _ h'=>Cm h'))))
 rcases ah with⟨rfl,ah⟩|⟨v,rfl,ah⟩
 ·exact Ak (.inr ⟨rfl,codeAny_block (Ek ah)⟩)
 ·refine Ac (Bu ah (fun _ pZ fu=>?_) fun _ _ h'=>h')
  refine Ac (Bu fu (fun _ s₂ ai=>Ac (Bu ai (fun f ak au=>?_) fun _ _ h'=>h')) fun _ _ h'=>h')
  cases f with
  |next=>exact Ak (.inl ⟨rfl,au⟩)
  |cont=>exact Ak (.inl ⟨rfl,au⟩)
  |brk=>exact Ak au
  |ret v=>exact Ak au
noncomputable def IE(tv dv:List Nat)(N:Nat->List Addr)(s:Ab)(fp:List Addr):Prop:=
 ∀b∈fp,s.heap.get? b=none\/((∃j,b∈N j)/\(∀j∈tv,∀a r,N j=a::r->b≠a)/\∀j∈dv,b∉N j)
noncomputable def lC(X:Ctx)(tv dv:List Nat)(target:Expr)(xs:List Str)(iter:Expr)(src:Sg->Option (List (List PV))):Prop:=∀K env A E s₀ g N F s its,ax X tv dv K env A s₀ g N F s->src g=some its->
 Al (Af X.W.prog X.W.w) A (eval iter env) (fun xv aa=>Al (Af X.W.prog X.W.w) A (Hu xv) (ky X.W A s target xs its (IE tv dv N s)) E aa) E s
inductive vK(C:Cx):List Str->List Nat->Prop
 |nil:vK C [] []
 |cons {x i xs is}:C.Γ.lookup x=some i->vK C xs is->vK C (x::xs) (i::is)
theorem Ql{K:Addr->Option Obj}{env:Dy}{A:Am}{E:Value->Ab->Prop}{s₀:Ab}{F:List Addr}{Q:Ab->Prop}:∀{xs:List Str} {is:List Nat},vK X.C xs is->∀{it:List PV} {vs:List Value} {ns:List Addr} {s:Ab} {g:Sg} {N:Nat->List Addr},
  ax X tv dv K env A s₀ g N F s->ao s.heap it vs ns->it.length=xs.length->(∀i∈is,i∉tv/\i∉dv)->ew tv dv K N F ns false->(∀N' s',ax X tv dv K env A s₀ (IC is it g) N' F s'->(∀j,j∉is->N' j=N j)->(∀b o,b≠env.locals->(∀y d,X.C.kn.lookup y=some .cell->env.cells.lookup y=some d->b≠d)->s.heap.get? b=some o->s'.heap.get? b=some o)->Q s')->
  ri X.W.prog X.W.w A env E Q (xs.zip vs) s:=by
 intro xs is S
 induction S with
 |nil=>
  intro it vs ns s g N T r hl _ _ h
  cases it with
  |nil=>exact r.lW (M:=fun vs _=>ri X.W.prog X.W.w A env E Q (([]:List Str).zip vs) s) (h N s T (fun _ _=>rfl) fun _ _ _ _ e=>e)
  |cons p q=>exact absurd hl (Jz _)
 | @cons x i xs is hx S ih=>
  intro it vs ns s g N T r hl hi H h
  cases it with
  |nil=>exact absurd hl.symm (Jz _)
  |cons p ps=>
   refine tM r.inv fun v n ud l7 rv rs oq HA=>?_
   subst oq
   subst HA
   rw[G1]
   have jM:=hi i (Aj ..)
   have H1:ew tv dv K N F n false:=⟨fun j hj a r e hm=>H.t j hj a r e (Ax _ hm),fun j hj a ha hm=>H.d j hj a ha (Ax _ hm),fun a ha hm=>H.f a ha (Ax _ hm),fun q=>ft q⟩
   refine zE (T.eH (E:=E) hx rv H1 (.inr jM)) fun _ aa ah=>?_
   refine dY ah fun aR vL vM=>?_
   have vN:ao aa.heap ps ud l7:=rs.on fun a ha o e=>by
    refine fT (rs.nodes a ha) fun its n e'=>?_
    exact Aa (e'.symm.trans e)▸vL a its n e'
   refine ih aR vN (Iu hl) (fun k hk=>hi k (Ai _ hk)) ⟨fun j hj a r e hm=>?_,fun j hj a ha hm=>?_,fun a ha hm=>H.f a ha (Ar _ hm),fun q=>ft q⟩ fun N' s' T' vO Xm=>h N' s' T' (fun j hj=>?_) fun b o h1 h2 e=>Xm b o h1 h2 (vM b o h1 h2 e)
   ·exact H.t j hj a r ((ow (N:=N) (i:=i) (j:=j) (l:=n) fun q=>jM.1 (q▸hj)).symm.trans e) (Ar _ hm)
   ·exact H.d j hj a ((ow (N:=N) (i:=i) (j:=j) (l:=n) fun q=>jM.2 (q▸hj))▸ha) (Ar _ hm)
   ·exact(vO j fun h=>hj (Ai _ h)).trans (ow fun q=>hj (q▸Aj ..))
end
section
variable{X:Ctx}{tv dv:List Nat}{K K':Addr->Option Obj}{env:Dy}{A:Am}{s₀ s:Ab}{g:Sg}{N:Nat->List Addr}{F:List Addr}
theorem ax.eQ(T:ax X tv dv K' env A s₀ g N F s)(h:∀b o,K b=some o->K' b=some o)(wd:∀h:Ap,(∀b o,K b=some o->h.get? b=some o)->X.W.Wd h):ax X tv dv K env A s₀ g N F s:=by
 have no:∀a,K' a=none->K a=none:=fun a e=>by
  cases q:K a with
  |none=>rfl
  |some o=>rw[h a o q]at e;exact sn e
 exact
  {T with
   dB:=no _ T.dB
   cls:=fun x c e1 e2=>⟨(T.cls x c e1 e2).1,no c (T.cls x c e1 e2).2⟩
   bL:=fun i hi a r e=>⟨no a (T.bL i hi a r e).1,(T.bL i hi a r e).2⟩
   deep:=fun i hi=>⟨(T.deep i hi).1,fun a ha=>⟨no a ((T.deep i hi).2 a ha).1,((T.deep i hi).2 a ha).2⟩⟩
   kept:=fun b o e=>T.kept b o (h b o e)
   eG:=wd
   foot:=fun a ha=>⟨no a (T.foot a ha).1,(T.foot a ha).2⟩}
structure oz(X:Ctx)(tv dv:List Nat)(env:Dy)(N:Nat->List Addr)(F:List Addr)(fp:List Addr):Prop where
 loc:env.locals∉fp
 cls:∀x c,X.C.kn.lookup x=some .cell->env.cells.lookup x=some c->c∉fp
 f:∀a∈F,a∉fp
 t:∀j∈tv,∀a r,N j=a::r->a∉fp
 d:∀j∈dv,∀a∈N j,a∉fp
noncomputable def oA(K:Addr->Option Obj)(fp:List Addr)(h:Ap):Addr->Option Obj:=fun b=>if fp.contains b then h.get? b else K b
theorem lD{fp:List Addr}{h:Ap}{b:Addr}(hb:b∈fp):oA K fp h b=h.get? b:=by
 exact xT (by simpa using hb) rfl
theorem wS{fp:List Addr}{h:Ap}{b:Addr}(hb:b∉fp):oA K fp h b=K b:=by
 exact eV (by simpa using hb) rfl
theorem ax.freeze{fp:List Addr}(T:ax X tv dv K env A s₀ g N F s)(I:oz X tv dv env N F fp):ax X tv dv (oA K fp s.heap) env A s₀ g N F s:=
 {T with
  dB:=by refine af (wS I.loc) ?_;exact T.dB
  cls:=fun x c e1 e2=>⟨(T.cls x c e1 e2).1,by refine af (wS (I.cls x c e1 e2)) ?_;exact(T.cls x c e1 e2).2⟩
  bL:=fun i hi a r e=>⟨by refine af (wS (I.t i hi a r e)) ?_;exact(T.bL i hi a r e).1,(T.bL i hi a r e).2⟩
  deep:=fun i hi=>⟨(T.deep i hi).1,fun a ha=>⟨by refine af (wS (I.d i hi a ha)) ?_;exact((T.deep i hi).2 a ha).1,((T.deep i hi).2 a ha).2⟩⟩
  kept:=fun b o e=>by
   by_cases hb:b∈fp
   ·rw[lD hb]at e;exact e
   ·rw[wS hb]at e;exact T.kept b o e
  eG:=fun h hk=>T.eG h fun b o e=>by
   by_cases hb:b∈fp
   ·exact hk b o (by refine af (lD hb) ?_;exact T.kept b o e)
   ·exact hk b o (by refine af (wS hb) ?_;exact e)
  foot:=fun a ha=>⟨by refine af (wS (I.f a ha)) ?_;exact(T.foot a ha).1,(T.foot a ha).2⟩}
theorem ax.vP{fp:List Addr}{h:Ap}(T:ax X tv dv (oA K fp h) env A s₀ g N F s)(hd:∀b∈fp,∃o,h.get? b=some o):oz X tv dv env N F fp:=by
 have no:∀a,oA K fp h a=none->a∉fp:=fun a e hm=>by
  refine aH (hd a hm) fun o ho=>?_
  rw[lD hm,ho]at e;exact sn e
 exact⟨no _ T.dB,fun x c e1 e2=>no c (T.cls x c e1 e2).2,fun a ha=>no a (T.foot a ha).1,fun j hj a r e=>no a (T.bL j hj a r e).1,fun j hj a ha=>no a ((T.deep j hj).2 a ha).1⟩
theorem ax.other{wr:List Addr}{h':Ap}{tk:Nat}(T:ax X tv dv K env A s₀ g N F s)(hk:∀b o,b∉wr->s.heap.get? b=some o->h'.get? b=some o)(h1:env.locals∉wr)(h2:∀x c,X.C.kn.lookup x=some .cell->env.cells.lookup x=some c->c∉wr)
  (h3:∀a∈F,a∉wr) (h4:∀j,∀a∈N j,a∉wr) (h5:∀b∈wr,K b=none) (h6:∀x c,X.C.kn.lookup x=some .free->env.cells.lookup x=some c->c∉wr):ax X tv dv K env A s₀ g N F {s with heap:=h',toks:=tk}:=
 {T with
  loc:=by obtain⟨m,h⟩:=T.loc;exact⟨m,h.at' fun o e=>hk _ o h1 e⟩
  cls:=fun x c e1 e2=>by
   refine aq (T.cls x c e1 e2) fun bJ h=>?_
   refine dZ bJ fun v o e3 e4=>?_
   exact bZ ⟨v,o,hk c o (h2 x c e1 e2) e3,e4⟩ h
  rd:=fun x i p e1 e2=>by
   obtain⟨v,a,r⟩:=T.rd x i p e1 e2
   refine⟨v,?_,r.on fun a ha o e=>hk a o (h4 i a ha) e⟩
   rcases a with⟨hl,m,hn,hm⟩|⟨hl,c,hc,o,e3,e4⟩
   ·exact .inl ⟨hl,m,hn.at' fun o e=>hk _ o h1 e,hm⟩
   ·refine .inr ⟨hl,c,hc,o,hk c o ?_ e3,e4⟩
    rcases hl with hl|hl
    ·exact h2 x c (by unfold Be at hl;rw[T.names]at hl;exact hl) hc
    ·exact h6 x c (by unfold Be at hl;rw[T.names]at hl;exact hl) hc
  nd:=fun j a ha=>by obtain⟨i,n,e⟩:=T.nd j a ha;exact⟨i,n,hk a _ (h4 j a ha) e⟩
  kept:=fun b o e=>hk b o (fun hb=>by rw[h5 b hb]at e;exact nn e) (T.kept b o e)
  same:=T.same.heap h' tk
  book:=fun v b e=>X.BK.frame (T.book v b e) fun a ha o e=>hk a o (h3 a ha) e
  foot:=fun a ha=>by obtain⟨g1,⟨o,g2⟩,g3⟩:=T.foot a ha;exact⟨g1,⟨o,hk a o (h3 a ha) g2⟩,g3⟩}
theorem ax.oC{fp:List Addr}(T:ax X tv dv K env A s₀ g N F s)(h:IE tv dv N s fp):oz X tv dv env N F fp:=by
 have bV:∀a j,a∈N j->∃o,s.heap.get? a=some o:=fun a j ha=>(T.nd j a ha).elim fun _ h=>h.elim fun _ e=>⟨_,e⟩
 refine⟨fun hm=>?_,fun x c e1 e2 hm=>?_,fun a ha hm=>?_,fun j hj a r e hm=>?_,fun j hj a ha hm=>?_⟩
 ·refine aH T.loc fun m hn=>?_
  rcases h _ hm with h0|⟨⟨j,hj⟩,_⟩
  ·obtain⟨o,_,_,e,_⟩:=hn;rw[h0]at e;exact nn e
  ·obtain⟨_,_,e⟩:=T.nd j _ hj;exact wH hn e
 ·refine aq (T.cls x c e1 e2) fun bJ _=>?_
  refine aH bJ fun v hc=>?_
  rcases h _ hm with h0|⟨⟨j,hj⟩,_⟩
  ·obtain⟨o,e,_⟩:=hc;rw[h0]at e;exact nn e
  ·obtain⟨_,_,e⟩:=T.nd j _ hj;exact wX hc e
 ·refine tK (T.foot a ha) fun _ gL g3 _=>?_
  refine aH gL fun o e=>?_
  rcases h _ hm with h0|⟨⟨j,hj⟩,_⟩
  ·rw[h0]at e;exact nn e
  ·exact g3 j hj
 ·refine aH (bV a j (e▸Aj ..)) fun o e'=>?_
  rcases h _ hm with h0|⟨_,h1,_⟩
  ·rw[h0]at e';exact nn e'
  ·exact h1 j hj a r e rfl
 ·refine aH (bV a j ha) fun o e'=>?_
  rcases h _ hm with h0|⟨_,_,h2⟩
  ·rw[h0]at e';exact nn e'
  ·exact h2 j hj ha
end
section
variable{X:Ctx}{tv dv:List Nat}
inductive IF(X:Ctx)(tv dv:List Nat)(K:Addr->Option Obj)(env:Dy)(A:Am)(s₀:Ab)(fp:List Addr)(St:Nat->Ap->Prop)(its:List (List PV))(d:List (List PV)->Sg->Option (Sg×Fl))(r:Sg×Fl)(n:Nat)(s':Ab):Prop
 |mk (i:Nat) (g₁:Sg) (N':Nat->List Addr) (F':List Addr) (hn:n+i=its.length+1) (hi:i<=its.length) (T:ax X tv dv K env A s₀ g₁ N' F' s') (J:oz X tv dv env N' F' fp) (st:St i s'.heap) (e:d (its.drop i) g₁=some r):IF X tv dv K env A s₀ fp St its d r n s'
theorem ax.wr{I:Addr}{fp wr:List Addr}{its:List (List PV)}{St:Nat->Ap->Prop}{target:Expr}{xs:List Str}{K:Addr->Option Obj}{env:Dy}{A A':Am}{s₀ s:Ab}{g:Sg}{N:Nat->List Addr}{F:List Addr}(T:ax X tv dv K env A s₀ g N F s)(J:oz X tv dv env N F fp)(Y:dH X.W.prog X.W.w A' target xs I fp wr its St){i:Nat}(st:St i s.heap)
  (wK:∀b∈wr,K b=none) (iy:∀x,X.C.kn.lookup x≠some .free) {h':Ap} {tk:Nat} (hk:∀b o,b∉wr->s.heap.get? b=some o->h'.get? b=some o):ax X tv dv K env A s₀ g N F {s with heap:=h',toks:=tk}:=
 T.other hk (fun h=>J.loc (Y.sub _ h)) (fun x c e1 e2 h=>J.cls x c e1 e2 (Y.sub _ h)) (fun a ha h=>J.f a ha (Y.sub _ h)) (fun j a ha hw=>by obtain⟨items,n,e⟩:=T.nd j a ha;exact Y.rk i _ st a hw items n e) wK (fun x c e _=>absurd e (iy x))
theorem Qm{K:Addr->Option Obj}{fp:List Addr}{h:Ap}(k:∀b o,K b=some o->h.get? b=some o)(b:Addr)(o:Obj)(e:K b=some o):oA K fp h b=some o:=by
 by_cases hm:b∈fp
 ·rw[lD hm];exact k b o e
 ·rw[wS hm];exact e
theorem rB{K K':Addr->Option Obj}(k:∀b o,K b=some o->K' b=some o){a:Addr}(h:K' a=none):K a=none:=by
 cases q:K a with
 |none=>rfl
 |some o=>exact nn (h.symm.trans (k a o q))
theorem zN.vQ{target iter:Expr}{xs:List Str}{is:List Nat}{body:List Stmt}{pos:B0}{src:Sg->Option (List (List PV))}{f:Den}(l5:lC X tv dv target xs iter src)(S:vK X.C xs is)
  (hi:∀i∈is,i∉tv/\i∉dv) (hb:zP X tv dv tv dv body f) (hf:∀env x,Ef iter env x=pure x) (iy:∀x,X.C.kn.lookup x≠some .free):zN X tv dv (.For target iter body [] pos) (ub src is f):=fun K env A E s₀ g N F s g' fl T e=>by
 refine oB e fun its e1 e2=>?_
 refine wpAny_For (zE (l5 K env A E s₀ g N F s its T e1) fun xv aa ah=>zE ah fun it s₂ ai=>?_) (hf env)
 obtain⟨I,fp,wr,St,rfl,k,eu,cV,Y,st,hF⟩:=ai
 have wK:∀b∈wr,K b=none:=fun b hb=>rB T.kept (eu b hb)
 refine ID (IF X tv dv K env A s₀ fp St its (wE is f) (g',fl)) (fun n s' I=>?_) (its.length+1) ⟨0,g,N,F,rfl,C2 _,T.kg k,T.oC hF,st,e2⟩
 obtain⟨i,g₁,N',F',hn,nE,T',J,i8,e'⟩:=I
 rcases Nat.lt_or_eq_of_le nE with aX|rfl
 ·rw[A5 aX]at e'
  obtain⟨⟨ct,cf⟩,e3,e4⟩:=wG e'
  refine zE (Y.item i _ s' env _ _ (Aw aX) i8 fun us ms ai bU gb fv hlen cD aD=>?_) fun r aa h=> .inr h
  have H:ew tv dv K N' F' ms false:=⟨fun j hj a r e hm=>J.t j hj a r e (fv a hm),fun j hj a ha hm=>J.d j hj a ha (fv a hm),fun a ha hm=>J.f a ha (fv a hm),fun q=>ft q⟩
  refine Ql S (T'.wr (tk:=bU) J Y i8 wK iy aD) gb hlen hi H fun fF ak aN qd kp=>?_
  have IG:oz X tv dv env fF F' fp:=⟨J.loc,J.cls,J.f,fun j hj a r e=>J.t j hj a r (by rw[<-qd j fun h=>(hi j h).1 hj];exact e),fun j hj a ha=>J.d j hj a (by rw[<-qd j fun h=>(hi j h).2 hj];exact ha)⟩
  have gx:St (i+1) ak.heap:=Y.frame _ _ _ cD fun b hb o e=>kp b o (fun q=>J.loc (q▸hb)) (fun y d e1 e2 q=>J.cls y d e1 e2 (q▸hb)) e
  refine zE (hb _ env A _ s₀ _ fF F' ak ct cf (aN.freeze IG) e3) fun fw aU aW=>?_
  obtain⟨iz,gM,iA,bS⟩:=aW
  have up:=Qm (fp:=fp) aN.kept
  have go:wE is f (its.drop (i+1)) ct=some (g',fl)->∃m,m<n/\IF X tv dv K env A s₀ fp St its (wE is f) (g',fl) m aU:=fun e=>
   ⟨its.length-i,by(refine cw (Nat.add_sub_cancel (n:=n) (m:=i)) ?_;refine af hn ?_;refine af (Nat.succ_sub nE) ?_);exact Bk _,i+1,ct,gM,iA,by(refine cw (C5 ..) ?_;exact af (Nat.sub_add_cancel nE) rfl),aX,bS.eQ up T.eG,bS.vP (Y.bV _ _ gx),Y.frame _ _ _ gx fun b hb o e=>bS.kept b o (by refine af (lD hb) ?_;exact e),e⟩
  cases cf with
  |next=>exact Fz iz▸go e4
  |cont=>exact Fz iz▸go e4
  |brk=>exact Fz iz▸Internal.sp e4 ⟨rfl,gM,iA,bS.eQ up T.eG⟩
  |ret p=>
   refine da iz fun v BA cz r hn=>?_
   clear iz
   subst cz
   exact Internal.sp e4 ⟨⟨v,BA,rfl,r,fun a ha=>rB up (hn a ha)⟩,gM,iA,bS.eQ up T.eG⟩
 ·rw[Hw]at e'
  exact Internal.sp e' (Y.done _ _ _ i8 fun ai bU aD=> .inl ⟨rfl,rfl,N',F',T'.wr J Y i8 wK iy aD⟩)
theorem ky.mono{W:bx}{A:Am}{s:Ab}{target:Expr}{xs:List Str}{its:List (List PV)}{F F':List Addr->Prop}{it:Value}{s₂:Ab}(h:ky W A s target xs its F it s₂)(k:∀fp,F fp->F' fp):ky W A s target xs its F' it s₂:=by
 obtain⟨I,fp,wr,St,h1,h2,h3,h4,h5,h6,h7⟩:=h
 exact⟨I,fp,wr,St,h1,h2,h3,h4,h5,h6,k fp h7⟩
theorem lC.eD{x xr:Str}{px pr pos:B0}{iter:Expr}{pe:PE}(h:av X.W X.C iter pe)(hx:xr= "range") (hk:X.C.kn.lookup xr=some .globalImplicit) (hg:X.W.mg "range" =none) (hb:X.W.mb "range" =some (.type "range")) (he:∀env,B1 [iter] env=[(false,eval iter env)]):
  lC X tv dv (.Name x px) [x] (.Call (.Name xr pr) [iter] [] pos) (fun g=>kh X.W.U (.eD pe) g.σ):=fun K env A E s₀ g N F s its T e=>
 zE (PF (x:=x) (px:=px) h hx hk hg hb he T.pre e) fun xv aa ah=>zE ah fun it s₂ ai=>ai.mono fun fp hf b hb=> .inl (hf b hb)
theorem Qn{x:Str}{px:B0}{p:PV}{v:Value}{ns:List Addr}{its:List (List PV)}{K:Addr->Option Obj}{env:Dy}{A:Am}{E:Value->Ab->Prop}{s₀ s aa:Ab}{g:Sg}{N:Nat->List Addr}{F:List Addr}(T:ax X tv dv K env A s₀ g N F s)(k:KG s aa)(r:VR aa.heap p v ns)(e:pV p=some its)
  (h:∀b∈ns,s.heap.get? b=none\/((∃j,b∈N j)/\(∀j∈tv,∀a r,N j=a::r->b≠a)/\∀j∈dv,b∉N j)):
  Al (Af X.W.prog X.W.w) A (Hu v) (ky X.W A s (.Name x px) [x] its (IE tv dv N s)) E aa:=by
 cases p with
 |list l=>exact so e (zE (HJ (x:=x) (px:=px) T.room.hh k r) fun it s₂ ai=>ai.mono fun fp hq b hb=>(hq b hb).elim .inl (h b))
 |str l=>exact so e (zE (BM (x:=x) (px:=px) T.room.hh k r) fun it s₂ ai=>ai.mono fun fp hq b hb=> .inl (hq b hb))
 |_=>exact nn e
theorem lC.items{x:Str}{px:B0}{iter:Expr}{pe:PE}(h:av X.W X.C iter pe):
  lC X tv dv (.Name x px) [x] iter (fun g=>(ev X.W.U pe g.σ).bind fun p=>if fresh pe p then pV p else none):=fun K env A E s₀ g N F s its T e=>by
 refine oB e fun p e1 e2=>?_
 refine oI e2 fun hf e2=>?_
 refine zE (h env A E s g.σ p T.pre e1) fun v aa ah=>?_
 obtain⟨k,ns,r,f⟩:=ah
 exact Qn T k r e2 fun b hb=> .inl ((f hf).new b hb)
theorem lC.name{x y:Str}{j:Nat}{px py:B0}(hy:X.C.Γ.lookup y=some j)(ht:tv.contains j=false)(hd:dv.contains j=false)(hn:(y==("__classdict__" :Str))=false) (kB:(y==("__debug__" :Str))=false):
  lC X tv dv (.Name x px) [x] (.Name y py) (fun g=>((g.σ[j]?).bind id).bind pV):=fun K env A E s₀ g N F s its T e=>by
 have ht:=ry ht
 have hd:=ry hd
 refine oB e fun p e1 e2=>?_
 refine oB e1 fun p' e3 e4=>?_
 obtain rfl:p'=some p:=e4
 obtain⟨v,a,r⟩:=T.rd y j p hy e3
 refine Bq (zS T.kind a ?_ hn) kB
 exact Qn T (jG s) r e2 fun b h=> .inr ⟨⟨j,h⟩,fun i hi a r e q=>(T.bL i hi a r e).2.2 j (fun q'=>ht (q'▸hi)) (q▸h),fun i hi hm=>((T.deep i hi).2 b hm).2 j (fun q'=>hd (q'▸hi)) h⟩
end
inductive lE(h:Ap)(a:Addr)(name:Str)(params:Arguments)(body:List Stmt)(scope:Scope):Prop
 |mk (o:Obj) (pm cd doc:Value) (e:h.get? a=some o) (d:o.data= .func (F0 name params body scope pm cd doc)) (c:h.CodeRec cd name):lE h a name params body scope
theorem lE.sub{h h':Ap}{a:Addr}{name:Str}{params:Arguments}{body:List Stmt}{scope:Scope}(x:lE h a name params body scope)(k:Sub h h'):lE h' a name params body scope:=by
 obtain⟨o,pm,cd,doc,e1,e2,e3⟩:=x
 exact⟨o,pm,cd,doc,k _ _ e1,e2,e3.keeps k⟩
noncomputable def yQ(scope:Scope)(xs:List Str):List Str:=xs++(scope.names.filter fun y=>(y.2== .local||y.2== .cell)&&!xs.contains y.1).map (·.1)
noncomputable def xY(scope:Scope)(xs:List Str):Cx:=⟨scope.names,lr 0 (yQ scope xs),(yQ scope xs).length⟩
noncomputable def ji(scope:Scope)(xs:List Str):Bool:=
 scope.kind== .function&&!scope.isCoroutine&&!scope.isGenerator&&xV (yQ scope xs)&&
 (yQ scope xs).all (fun x=>scope.names.lookup x==some .local||scope.names.lookup x==some .cell)&&scope.names.all fun y=>y.2 != .free
theorem BS{scope:Scope}{xs:List Str}(h:ji scope xs=true):HP (xY scope xs):=by
 unfold ji at h
 simp only[Az,Ao,beq_iff_eq,Ej]at h
 refine aq h fun bJ _=>?_
 refine aq bJ fun bJ hk=>?_
 obtain⟨_,hn⟩:=bJ
 refine⟨fun x y i h1 h2=>?_,fun x i h1=>?_,fun x i h1=>?_⟩
 ·refine aB (wF h1) fun j e1 e2=>?_
  refine aB (wF h2) fun k e3 e4=>?_
  have:j=k:=by lia
  subst this
  rw[e2]at e4;obtain rfl:=Aa e4;rfl
 ·refine aB (wF h1) fun j e1 e2=>?_
  obtain⟨h2,_⟩:=Bc.mp e2
  refine(?_:i<(yQ scope xs).length)
  lia
 ·refine aB (wF h1) fun j e1 e2=>?_
  exact hk x (C4 e2)
theorem BU{x:Str}:∀(names:List (Str×Dd)) (n:Nat) (acc:List (Str×Addr)),((x,C7)∈names\/(acc.lookup x).isSome=true)->((Gq n names acc).lookup x).isSome=true
 |[],n,acc,h=>by
  rcases h with h|h
  ·cases h
  ·exact h
 |(y,k)::r,n,acc,h=>by
  unfold Gq
  split
  ·rename_i hk
   refine BU r _ _ ?_
   rcases h with h|h
   ·rcases Ay.mp h with h|h
    ·obtain⟨rfl,rfl⟩:=Bh h;right;simp
    ·exact .inl h
   ·right
    rw[A7]
    split
    ·rfl
    ·exact h
  ·rename_i hk
   refine BU r _ _ ?_
   rcases h with h|h
   ·rcases Ay.mp h with h|h
    ·obtain⟨rfl,rfl⟩:=Bh h;exact absurd rfl hk
    ·exact .inl h
   ·exact .inr h
theorem II{kindOf:Str->Option Dd}:∀{xs:List Str} {vs:List Value} (m cm:Str->Option Value),xV xs=true->(∀(j:Nat) (x:Str) (v:Value),xs[j]?=some x->vs[j]?=some v->
  (kindOf x=some .local->bindL kindOf (xs.zip vs) m x=some v)/\(kindOf x≠some .local->bindC kindOf (xs.zip vs) cm x=some v))/\
  (∀y,y∉xs->bindL kindOf (xs.zip vs) m y=m y/\bindC kindOf (xs.zip vs) cm y=cm y)
 |[],vs,m,cm,_=>⟨fun j x v h=>(by exact nn h),fun y _=>by simp[bindL,bindC]⟩
 |x::xs,[],m,cm,_=>⟨fun j y v _ h=>(by exact nn h),fun y _=>by simp[bindL,bindC]⟩
 |x::xs,v::vs,m,cm,hd=>by
  simp only[xV,Az,Dm,Bz,decide_eq_false_iff_not]at hd
  refine aq (@II kindOf xs vs (if kindOf x=some .local then fun y=>if y=x then some v else m y else m) (if kindOf x=some .local then cm else fun y=>if y=x then some v else cm y) hd.2) fun h1 h2=>?_
  refine af G1 ?_
  unfold bindL bindC
  refine bZ (fun j y u e1 e2=>?_) (fun y hy=>?_)
  ·cases j with
   |zero=>
    obtain rfl:=Aa e1;obtain rfl:=Aa e2
    refine aq (h2 x hd.1) fun h3 h4=>?_
    refine bZ (fun hk=>?_) (fun hk=>?_)
    ·(refine af h3 ?_;refine af (if_pos hk) ?_);simp
    ·(refine af h4 ?_;refine af (if_neg hk) ?_);simp
   |succ j=>exact h1 j y u (by exact e1) (by exact e2)
  ·refine aq (h2 y fun h=>hy (Ai _ h)) fun h3 h4=>?_
   have cY:y≠x:=fun q=>hy (q▸Aj ..)
   refine af h3 ?_
   refine af h4 ?_
   constructor
   ·split
    ·simp[cY]
    ·rfl
   ·split
    ·rfl
    ·simp[cY]
theorem ao.split{h:Ap}{ps:List PV}{vs:List Value}{ns:List Addr}(x:ao h ps vs ns):∃L:List (List Addr),(∀(i:Nat) (p:PV),ps[i]?=some p->∃v,vs[i]?=some v/\VR h p v (L.getD i []))/\∀(i:Nat),∀a∈L.getD i [],a∈ns:=by
 refine ao.ind (M:=fun ps vs ns=>∃L:List (List Addr),(∀(i:Nat) (p:PV),ps[i]?=some p->∃v,vs[i]?=some v/\VR h p v (L.getD i []))/\∀(i:Nat),∀a∈L.getD i [],a∈ns) ⟨[],fun i p e=>nn e,fun i a h=>(Aq h).elim⟩ (fun {p v n ps vs ns} hv _ g=>?_) x
 refine aB g fun L h1 h2=>?_
 refine i12 (n::L) (fun i p e=>?_) (fun i a h=>?_)
 ·cases i with
  |zero=>obtain rfl:=Aa e;exact⟨_,rfl,hv⟩
  |succ i=>exact h1 i p e
 ·cases i with
  |zero=>exact Ax _ h
  |succ i=>exact Ar _ (h2 i a h)
noncomputable def eI(C:Cx)(ps:List PV)(β:Option (Value×aj)):Sg:=⟨ps.map some++A0 (C.n-ps.length) none,β⟩
theorem wO.deeper{D:Nat}{A:Am}(h:wO (D+1) A)(env:Dy):wO D (A.deeper env):=
 ⟨h.hh,by have:=h.depth;refine(?_:A.depth+1+D<_);exact xA,by have:=h.units;refine(?_:A.units+3+8*D+60<cLine);lia⟩
section
variable{X:Ctx}{tv dv:List Nat}
theorem Xn{name:Str}{params:Arguments}{body:List Stmt}{scope:Scope}{xs:List Str}{a:Addr}{A:Am}{s:Ab}{ps:List PV}{vs:List Value}{ns:List Addr}{f:Den}{R:D6->Ab->Prop}{K:Addr->Option Obj}{F:List Addr}{β:Option (Value×aj)}{g':Sg}{r:PV}
  (hC:X.C=xY scope xs) (bj:ji scope xs=true) (dI:lE s.heap a name params body scope) (cA:s.heap.NoLimit) (aP:wO (X.W.D+1) A)
  (hK:∀b o,K b=some o->s.heap.get? b=some o) (wd:∀h:Ap,(∀b o,K b=some o->h.get? b=some o)->X.W.Wd h)
  (dj:∀v b,β=some (v,b)->X.BK.is v b F s.heap) (hF:∀b∈F,K b=none/\(∃o,s.heap.get? b=some o)/\b∉ns)
  (br:∀pm cd doc,Fc (F0 name params body scope pm cd doc) ⟨vs,[]⟩=pure (xs.zip vs)) (hr:ao s.heap ps vs ns) (hlen:ps.length=xs.length)
  (rC:∀i,i∈tv\/i∈dv->xs.length<=i) (hb:zP X tv dv [] [] body f) (rD:f (eI X.C ps β)=some (g', .ret r))
  (hR:∀(v:Value) (ms:List Addr) (s':Ab) (N':Nat->List Addr) (F':List Addr),VR s'.heap r v ms->(∀b∈ms,K b=none)->(∀b o,K b=some o->s'.heap.get? b=some o)->yZ s s'->(∀u b,g'.β=some (u,b)->X.BK.is u b F' s'.heap)->(∀b∈F',K b=none/\(∃o,s'.heap.get? b=some o)/\∀j,b∉N' j)->R (.ok (.ret v)) s'):
  Ca (Af X.W.prog X.W.w) A (.call (.ref a) ⟨vs,[]⟩) R s:=by
 obtain⟨o,pm,cd,doc,ho,dP,gN⟩:=dI
 have fH:=bj
 unfold ji at fH
 simp only[Az,Ao,beq_iff_eq,Ej,Dm]at fH
 refine aq fH fun bJ iB=>?_
 refine aq bJ fun bJ oE=>?_
 obtain⟨⟨⟨hk,ja⟩,gO⟩,g9⟩:=bJ
 have vR:∀j x,xs[j]?=some x->(yQ scope xs)[j]?=some x:=fun j x e=>by
  unfold yQ
  rw[B6 (Bc.mp e).1];exact e
 have ma:xV xs=true:=by
  have:∀(l m:List Str),xV (l++m)=true->xV l=true:=by
   intro l
   induction l with
   |nil=>intro m _;rfl
   |cons y r ih=>
    intro m h
    simp only[B9,xV,Az,Dm,Bz,decide_eq_false_iff_not]at h⊢
    exact bZ (fun hm=>h.1 (Ax _ hm)) (ih m h.2)
  exact this xs _ g9
 have dS:∀x,scope.names.lookup x=some .cell->∀n,((Gq n scope.names []).lookup x).isSome=true:=fun x e n=>BU _ _ _ (.inl (zT e))
 have hsz:∀b o,s.heap.get? b=some o->b<s.heap.objs.size:=fun b o e=>Bm e
 have vS:xs.length<=(yQ scope xs).length:=by unfold yQ;simp
 have qe:X.C.kn=scope.names:=by refine af hC ?_;rfl
 have rE:X.C.Γ=lr 0 (yQ scope xs):=by refine af hC ?_;rfl
 have hn:X.C.n=(yQ scope xs).length:=by refine af hC ?_;rfl
 have qf:∀x∈xs,scope.names.lookup x=some .local\/scope.names.lookup x=some .cell:=fun x hx=>oE x (by exact Ax _ hx)
 refine call_cells_ret (by have:=aP.depth;exact zW) ho dP cA gN (br pm cd doc) (fun y hy=>?_) (fun ah tk Fm Xc=>?_) ja gO hk
 ·have hx:y.1∈xs:=(Ik hy).1
  rcases qf y.1 hx with e|e
  ·exact .inl e
  ·exact .inr ⟨e,dS _ e _⟩
 ·refine aB hr.split fun LL vT IJ=>?_
  have up:Sub s.heap ah:=Fm.keep
  have cx:∀c o,s.heap.get? c=some o->c<s.heap.objs.size:=fun c o e=>Bm e
  have Kn:∀c,s.heap.objs.size<=c->K c=none:=fun c hc=>by
   cases q:K c with
   |none=>rfl
   |some o=>exact absurd (cx c o (hK c o q)) (Ew.mpr hc)
  have above:∀x c,(Gq (s.heap.objs.size+1) scope.names []).lookup x=some c->s.heap.objs.size<c:=fun x c e=>Xc.above x c (D3 e)
  generalize bM:envOfC name scope s.heap.objs.size a cd=env at*
  have bQ:env.cells=Gq (s.heap.objs.size+1) scope.names []:=by refine cw bM ?_;rfl
  have bg:env.locals=s.heap.objs.size:=by refine cw bM ?_;rfl
  have eJ:env.scope=scope:=by refine cw bM ?_;rfl
  have T:ax X tv dv K env (A.deeper env) s (eI X.C ps β) (fun i=>if i<ps.length then LL.getD i []else []) F {s with heap:=ah,toks:=tk}:=
   {fV:=by refine af hC ?_;exact BS bj
    kind:=by refine af eJ ?_;exact hk
    names:=by(refine af eJ ?_;exact af qe rfl)
    gl:=by refine cw bM ?_;rfl
    bl:=by refine cw bM ?_;rfl
    room:=aP.deeper env
    eP:=fun x k e1 e2=>by
     rw[qe]at e1
     rcases e2 with rfl|rfl
     ·refine af bQ ?_;exact Fe.mp (dS x e1 _)
     ·have:=iB _ (zT e1);simp at this
    eF:=fun x y c e1 e2=>by
     rw[bQ]at e1 e2
     exact name_of_addr Xc.apart (D3 e1) (D3 e2)
    len:=by refine(?_:(ps.map some++A0 (X.C.n-ps.length) none).length=_);(refine af Ah ?_;refine af (An ..) ?_;refine af E3 ?_;refine af hn ?_);lia
    loc:=⟨_,by refine af bg ?_;exact Fm.ns⟩
    dB:=by refine af bg ?_;exact Kn _ (Bv _)
    cls:=fun x c e1 e2=>by
     rw[bQ]at e2
     exact bZ ⟨_,Xc.cell x c e2⟩ (Kn c (Cj (above x c e2)))
    rd:=fun x i p e1 e2=>by
     rw[rE]at e1
     refine aB (wF e1) fun j e3 e4=>?_
     have:i=j:=by refine af e3 ?_;exact Cp j
     subst this
     have e2:(ps.map some++A0 (X.C.n-ps.length) none)[i]?=some (some p):=e2
     have hi:i<ps.length:=by
      by_cases hi:i<ps.length
      ·exact hi
      ·rw[C3 (by simpa using hi)]at e2
       have:=C4 e2
       have:=Gv this
       exact sn this
     rw[B6 (by simpa using hi),Bj]at e2
     have e5:ps[i]?=some p:=by
      cases q:ps[i]? with
      |none=>rw[q]at e2;exact nn e2
      |some z=>rw[q]at e2;cases e2;rfl
     refine aB (vT i p e5) fun v e6 e7=>?_
     have e8:xs[i]?=some x:=by
      obtain⟨y,hy⟩:∃y,xs[i]?=some y:=⟨xs[i]'(by exact yV),by simp⟩
      have:=vR i y hy
      rw[e4]at this;obtain rfl:=Aa this;exact hy
     refine aq ((II (kindOf:=env.kindOf) (vs:=vs) (fun _=>none) (fun _=>none) ma).1 i x v e8 e6) fun b1 b2=>?_
     refine⟨v,?_,?_⟩
     ·have kk:∀k,scope.names.lookup x=some k->env.kindOf x=some k:=fun k e=>by unfold Be;refine af eJ ?_;exact e
      rcases qf x (C4 e8)with e|e
      ·exact .inl ⟨kk _ e,_,by refine af bg ?_;exact Fm.ns,b1 (kk _ e)⟩
      ·refine aH (Fe.mp (dS x e (s.heap.objs.size+1))) fun c hc=>?_
       have:=Xc.cell x c hc
       rw[b2 (by rw[kk _ e];simp)]at this
       exact .inr ⟨.inl (kk _ e),c,by refine af bQ ?_;exact hc,this⟩
     ·refine(?_:VR ah p v (if i<ps.length then LL.getD i []else []))
      refine af (if_pos hi) ?_;exact e7.sub up
    nd:=fun j b hb=>by
     split at hb
     ·rename_i hj
      refine aB (vT j ps[j] (by simp)) fun v e6 e7=>?_
      refine fT (e7.nodes b hb) fun items n e=>?_
      exact GH items n (up _ _ e)
     ·cases hb
    bL:=fun i hi b q e=>by
     have:=rC i (.inl hi)
     rw[if_neg (by lia)]at e;cases e
    deep:=fun i hi=>by
     have:=rC i (.inr hi)
     rw[if_neg (by lia)]
     exact bZ Eu (fun _ h=>nomatch h)
    kept:=fun b o e=>up b o (hK b o e)
    eG:=wd
    same:=⟨ah,tk,s.gens,rfl, .rfl' _⟩
    book:=fun v b e=>X.BK.frame (dj v b e) fun c _ o e=>up c o e
    foot:=fun b hb=>by
     refine dY (hF b hb) fun h1 gL h3=>?_
     refine aH gL fun o h2=>?_
     have aX:=cx b o h2
     refine u5 h1 ⟨o,up b o h2⟩ (fun j=>?_) ?_ (fun x c e=>?_)
     ·split
      ·exact fun hm=>h3 (IJ j b hm)
      ·exact fun h=>nomatch h
     ·refine af bg ?_;exact Br aX
     ·rw[bQ]at e
      exact Br (Nat.lt_trans aX (above x c e))}
  refine zE (hb K env _ _ s _ _ F _ g' (.ret r) T rD) fun fw s' h=>?_
  obtain⟨⟨v,ms,rfl,rv,fv⟩,N',F',T'⟩:=h
  exact hR v ms s' N' F' rv fv T'.kept T'.same T'.book fun b hb=>⟨(T'.foot b hb).1,(T'.foot b hb).2.1,(T'.foot b hb).2.2.1⟩
theorem ue{name:Str}{params:Arguments}{body:List Stmt}{scope:Scope}{xs:List Str}{a:Addr}{A:Am}{s:Ab}{ps:List PV}{vs:List Value}{ns:List Addr}{f:Den}{g':Sg}{r:PV}
  (hC:X.C=xY scope xs) (bj:ji scope xs=true) (dI:lE s.heap a name params body scope) (cA:s.heap.NoLimit) (aP:wO (X.W.D+1) A) (wd:X.W.Wd s.heap)
  (br:∀pm cd doc,Fc (F0 name params body scope pm cd doc) ⟨vs,[]⟩=pure (xs.zip vs)) (hr:ao s.heap ps vs ns) (hlen:ps.length=xs.length)
  (rC:∀i,i∈tv\/i∈dv->xs.length<=i) (hb:zP X tv dv [] [] body f) (rD:f (eI X.C ps none)=some (g', .ret r)):
  Ca (Af X.W.prog X.W.w) A (.call (.ref a) ⟨vs,[]⟩) (fun res s'=>∃v ms,res= .ok (.ret v)/\KG s s'/\VR s'.heap r v ms) s:=
 Xn (K:=fun b=>s.heap.get? b) (F:=[]) (β:=none) hC bj dI cA aP (fun _ _ e=>e) (fun h k=>X.W.mono wd k) (fun _ _ e=>by exact nn e) (fun _ h=>nomatch h) br hr hlen rC hb rD
  fun v ms s' N' F' rv _ kept same _ _=>by
   obtain⟨h,t,g,rfl,x⟩:=same
   exact tN v ms rfl ⟨h,t,g,rfl,kept,x⟩ rv
end
set_option genSizeOf false
set_option genInjectivity false
inductive GK where
 |int (i:Int)
 |fn (k:Nat)
 |bi (f:Nat)
 |ty (T:String)
noncomputable def Qo(W:bx)(x:Str):GK->Prop
 | .int i=>∃t,W.mg x=some (.int i t)
 | .fn k=>W.mg x=some (.ref (W.i6 k))
 | .bi f=>W.mg x=none/\W.mb x=some (.builtin (oh f))
 | .ty T=>W.mg x=none/\W.mb x=some (.type T)
noncomputable abbrev Tab:=List (Str×GK)
noncomputable def cQ(W:bx)(tab:Tab):Prop:=∀x k,tab.lookup x=some k->Qo W x k
noncomputable abbrev Qp(tab:Tab)(C:Cx)(e:Expr):={pe:PE//∀W,cQ W tab->av W C e pe}
noncomputable abbrev RE(tab:Tab)(C:Cx)(e:Expr):=Option (Qp tab C e)
noncomputable abbrev fJ(tab:Tab):=∀(C:Cx) (e:Expr),RE tab C e
noncomputable def yT(e:Expr):Bool:=e.ctorIdx !=22
theorem zF{x:Expr}(h:yT x=true)(es:List Expr)(env:Dy):B1 (x::es) env=(false,eval x env)::B1 es env:=by
 cases x<;>first|rfl|exact ft h
theorem IK:∀(es:List Expr),es.all yT=true->∀pos env,(J5 pos (B1 es env)).any (·.1)=false
 |[],_,_,_=>rfl
 |x::es,h,pos,env=>by
  simp only[Lj,Az]at h
  rw[zF h.1]
  have:=IK es h.2 pos env
  refine(?_:(false||(J5 pos (B1 es env)).any (·.1))=false)
  rw[this];rfl
noncomputable def vU(e:Expr):Bool:=e.ctorIdx !=7
theorem wW{e:Expr}(h:vU e=true)(env:Dy)(x:Value):Ef e env x=pure x:=by
 cases e<;>first|rfl|exact ft h
noncomputable def Qq(e:Expr):Bool:=e.ctorIdx !=16
theorem wJ{o:Expr}(h:Qq o=true)(m:Str)(env:Dy)(t:Ks Value):C6 o m env t=t:=by
 cases o<;>first|rfl|exact ft h
noncomputable def Qr(e:Expr):Bool:=!([0,3,5,15].contains e.ctorIdx)
theorem Qs{e:Expr}(h:Qr e=true)(env:Dy)(whole:Ks Value):Lp e env whole=(do let v<-whole;Lc e.pos;holding [v] (truthy v)):=by
 cases e<;>first|rfl|exact ft h
noncomputable def bad(x:Str):Bool:=x==("__debug__" :Str)||x==("__classdict__" :Str)
theorem wD{x:Str}(h:bad x=false):(x==("__debug__" :Str))=false:=by unfold bad at h;simp only[E7]at h;exact h.1
theorem wP{x:Str}(h:bad x=false):(x==("__classdict__" :Str))=false:=by unfold bad at h;simp only[E7]at h;exact h.2
theorem av.vV{W:bx}{C:Cx}{x:Str}{k:Nat}{pos:B0}:av W C (.Constant (.str x) k pos) (.lit (.str x.cps.toList)):=av.cStr (by cases x;simp[mkStr])
section
variable{α β:Type}
noncomputable def bG(c:Prop)[Decidable c](k:c->Option β):Option β:=if h:c then k h else none
noncomputable def hV(o:Option α)(k:∀a,o=some a->Option β):Option β:=match o,k with
 |some a,k=>k a rfl
 |none,_=>none
@[elab_as_elim] noncomputable def BV {M:α->Type} [DecidableEq α] (a b:α) (d:M a) (k:M b):M a:=if h:a=b then h▸k else d
@[elab_as_elim] noncomputable def qg {M:List α->Type} (l:List α) (d:M l) (k:M []):M l:=match l,d with
 |[],_=>k
 |_::_,d=>d
@[elab_as_elim] noncomputable def BW {M:List α->Type} (l:List α) (d:M l) (k:∀a r,M (a::r)->M (a::r)):M l:=match l,d with
 |a::r,d=>k a r d
 |[],d=>d
@[elab_as_elim] noncomputable def kG {M:List α->Type} (l:List α) (d:M l) (k:∀a,M [a]):M l:=BW l d fun a r d=>qg r d (k a)
@[elab_as_elim] noncomputable def qi {M:List α->Type} (l:List α) (d:M l) (k:∀a b,M [a,b]):M l:=BW l d fun a r d=>kG r d (k a)
noncomputable def alt(a b:Option α):Option α:=match a with
 |some x=>some x
 |none=>b
end
section
variable{M:Expr->Type}
@[elab_as_elim] noncomputable def sN (e:Expr) (d:M e) (k:∀x p,M (.Name x p)):M e:=if h:e.ctorIdx=23 then Expr.Name.elim e h k else d
@[elab_as_elim] noncomputable def sC (e:Expr) (d:M e) (k:∀f a p,M (.Call f a [] p)):M e:=if h:e.ctorIdx=16 then Expr.Call.elim (motive_1:=fun e=>M e->M e) e h (fun f a q p d=>qg q d (k f a p)) d else d
@[elab_as_elim] noncomputable def sA (e:Expr) (d:M e) (k:∀o m p,M (.Attribute o m p)):M e:=if h:e.ctorIdx=20 then Expr.Attribute.elim e h k else d
@[elab_as_elim] noncomputable def sS (e:Expr) (d:M e) (k:∀o i p,M (.Subscript o i p)):M e:=if h:e.ctorIdx=21 then Expr.Subscript.elim e h k else d
@[elab_as_elim] noncomputable def sB (e:Expr) (d:M e) (k:∀l o r p,M (.BinOp l o r p)):M e:=if h:e.ctorIdx=2 then Expr.BinOp.elim e h k else d
@[elab_as_elim] noncomputable def sT (e:Expr) (d:M e) (k:∀es q p,M (.Tuple es q p)):M e:=if h:e.ctorIdx=25 then Expr.Tuple.elim e h k else d
@[elab_as_elim] noncomputable def sU (o:UnaryOp) (e:Expr) (d:M e) (k:∀x p,M (.UnaryOp o x p)):M e:=if h:e.ctorIdx=3 then Expr.UnaryOp.elim (motive_1:=fun e=>M e->M e) e h (fun q x p d=>BV q o d (k x p)) d else d
@[elab_as_elim] noncomputable def sO (o:BoolOp) (e:Expr) (d:M e) (k:∀es p,M (.BoolOp o es p)):M e:=if h:e.ctorIdx=0 then Expr.BoolOp.elim (motive_1:=fun e=>M e->M e) e h (fun q x p d=>BV q o d (k x p)) d else d
@[elab_as_elim] noncomputable def sP (e:Expr) (d:M e) (k:∀l o r p,Jl o r=false->M (.Compare l [o] [r] p)):M e:=if h:e.ctorIdx=15 then Expr.Compare.elim (motive_1:=fun e=>M e->M e) e h (fun l os rs p d=>kG (M:=fun os=>M (.Compare l os rs p)->M (.Compare l os rs p)) os id (fun o d=>kG (M:=fun rs=>M (.Compare l [o] rs p)->M (.Compare l [o] rs p)) rs id (fun r d=>if h:_ then k l o r p h else d) d) d) d else d
@[elab_as_elim] noncomputable def sG (e:Expr) (d:M e) (k:∀elt t i ifs sc p,M (.ListComp elt [⟨t,i,ifs,0⟩] sc p)):M e:=if h:e.ctorIdx=8 then Expr.ListComp.elim (motive_1:=fun e=>M e->M e) e h (fun elt gs sc p d=>kG (M:=fun gs=>M (.ListComp elt gs sc p)->M (.ListComp elt gs sc p)) gs id (fun⟨t,i,ifs,z⟩ d=>BV z 0 d (k elt t i ifs sc p)) d) d else d
end
noncomputable def tyB(o:Option GK)(T:String):Bool:=match o with
 |some (.ty S)=>S==T
 |_=>false
section
variable{tab:Tab}
theorem cQ.ty{W:bx}(ok:cQ W tab){x:Str}{T:String}(h:tyB (tab.lookup x) T=true):W.mg x=none/\W.mb x=some (.type T):=by
 have o:=ok x
 revert o h
 cases tab.lookup x with
 |none=>exact fun h=>ft h
 |some k=>
  cases k with
  |ty S=>exact fun h o=>(eq_of_beq (show(S==T)=true from h))▸o _ rfl
  |_=>exact fun h=>ft h
noncomputable def cL(R:fJ tab)(C:Cx):∀es:List Expr,Option {ps:kc//∀W,cQ W tab->ll W C es ps}
 |[]=>some ⟨.nil,fun _ _=>ll.nil⟩
 |x::es=>bG (yT x=true) fun hs=>(R C x).bind fun a=>(cL R C es).bind fun r=>some ⟨.cons a.1 r.1,fun W ok=>ll.cons (a.2 W ok) (r.2 W ok) (fun env=>zF hs es env)⟩
noncomputable def cO(R:fJ tab)(C:Cx):∀e:Option Expr,Option {o:PO//∀W,cQ W tab->kj W C e o}
 |none=>some ⟨.no,fun _ _=>kj.no⟩
 |some x=>(R C x).bind fun a=>some ⟨.yes a.1,fun W ok=>kj.yes (a.2 W ok)⟩
noncomputable abbrev Xo(tab:Tab)(C:Cx)(e:Expr):={t:PT//∀W,cQ W tab->du W C e t}
noncomputable abbrev RT(tab:Tab)(C:Cx)(e:Expr):=Option (Xo tab C e)
noncomputable def Qt{C:Cx}(f:∀e,RT tab C e):∀es:List Expr,Option {ts:eC//∀W,cQ W tab->n8 W C es ts}
 |[]=>some ⟨.nil,fun _ _=>n8.nil⟩
 |x::es=>(f x).bind fun a=>(Qt f es).bind fun r=>some ⟨.cons a.1 r.1,fun W ok=>n8.cons (a.2 W ok) (r.2 W ok)⟩
noncomputable def Qu{C:Cx}(f:∀e,RT tab C e):∀es:List Expr,Option {ts:eC//∀W,cQ W tab->n9 W C es ts}
 |[]=>some ⟨.nil,fun _ _=>n9.nil⟩
 |x::es=>(f x).bind fun a=>(Qu f es).bind fun r=>some ⟨.cons a.1 r.1,fun W ok=>n9.cons (a.2 W ok) (r.2 W ok)⟩
noncomputable def cT(R:fJ tab)(C:Cx):Nat->∀e:Expr,RT tab C e
 |0,_=>none
 |n+1,e=>alt (sU .Not e none fun x _=>(cT R C n x).bind fun t=>some ⟨.not t.1,fun W ok=>du.not (t.2 W ok)⟩)
  (alt (sO .And e none fun es _=>(Qt (cT R C n) es).bind fun t=>some ⟨.and t.1,fun W ok=>du.and (t.2 W ok)⟩)
  (alt (sO .Or e none fun es _=>(Qu (cT R C n) es).bind fun t=>some ⟨.or t.1,fun W ok=>du.or (t.2 W ok)⟩)
  (alt (sP e none fun l op r _ hm=>(R C l).bind fun a=>(R C r).bind fun b=>some ⟨.cmp op a.1 b.1,fun W ok=>du.cmp (a.2 W ok) (b.2 W ok) hm⟩)
  (bG (Qr e=true) fun h=>(R C e).bind fun a=>some ⟨.eO a.1,fun W ok=>du.eO (a.2 W ok) fun env whole=>Qs h env whole⟩))))
noncomputable def cI(R:fJ tab)(C:Cx)(es:List Expr):Option {ts:eC//∀W,cQ W tab->iV W C es ts}:=alt
 (qg es none (some ⟨.nil,fun _ _=>iV.nil⟩))
 (kG es none fun c=>(cT R C 5 c).bind fun t=>some ⟨.cons t.1 .nil,fun W ok=>iV.one (t.2 W ok)⟩)
structure IL(tab:Tab)(C:Cx)(target iter:Expr) where
 xs:List Str
 src:nW
 ok:∀W,cQ W tab->jb W C target xs iter src
noncomputable def uf(C:Cx)(xr:Str)(T:String){β:Type}(k:xr=((T:String):Str)->C.kn.lookup xr=some .globalImplicit->(∀W,cQ W tab->W.mg (T:String)=none/\W.mb (T:String)=some (.type T))->Option β):Option β:=
 bG (xr=((T:String):Str)/\C.kn.lookup xr=some .globalImplicit/\tyB (tab.lookup xr) T=true) fun h=>k h.1 h.2.1 fun _ ok=>h.1▸ok.ty h.2.2
noncomputable def Xp(R:fJ tab)(C:Cx)(x:Str)(px:B0)(iter:Expr):Option (IL tab C (.Name x px) iter):=
 sC iter none fun f as pos=>sN f none fun xr pr=>kG as none fun a=>
  uf (tab:=tab) C xr "range" fun hx hk ht=>bG (yT a=true) fun hs=>(R C a).bind fun r=>some ⟨[x], .eD r.1,fun W ok=>jb.eD (r.2 W ok) hx hk (ht W ok).1 (ht W ok).2 fun env=>zF hs [] env⟩
noncomputable def Xq(R:fJ tab)(C:Cx)(x y:Str)(px py pt:B0)(k:Nat)(iter:Expr):Option (IL tab C (.Tuple [.Name x px, .Name y py] k pt) iter):=
 sC iter none fun f as pos=>sN f none fun xe pe=>alt
  (kG as none fun a=>
   uf (tab:=tab) C xe "enumerate" fun hx hk ht=>bG (yT a=true) fun hs=>(R C a).bind fun r=>some ⟨[x,y], .enum r.1,fun W ok=>jb.enum (r.2 W ok) hx hk (ht W ok).1 (ht W ok).2 fun env=>zF hs [] env⟩)
  (qi as none fun a b=>
   uf (tab:=tab) C xe "zip" fun hx hk ht=>bG (yT a=true/\yT b=true) fun hs=>(R C a).bind fun r=>(R C b).bind fun q=>some ⟨[x,y], .zip r.1 q.1,fun W ok=>jb.zip (r.2 W ok) (q.2 W ok) hx hk (ht W ok).1 (ht W ok).2 (fun env=>zF hs.1 [b] env) fun env=>zF hs.2 [] env⟩)
noncomputable def Qv(R:fJ tab)(C:Cx)(target iter:Expr):Option (IL tab C target iter):=alt
 (sN target none fun x px=>alt (Xp R C x px iter) ((R C iter).bind fun a=>some ⟨[x], .items a.1,fun W ok=>jb.items (a.2 W ok)⟩))
 (sT target none fun es k pt=>qi es none fun a b=>sN a none fun x px=>sN b none fun y py=>Xq R C x y px py pt k iter)
noncomputable def Xr(C:Cx)(x:Str)(pos:B0):RE tab C (.Name x pos):=
 bG (bad x=false) fun hb=>hV (C.kn.lookup x) fun k hk=>alt
  (bG (u9 k=true) fun hi=>hV (C.Γ.lookup x) fun i hg=>some ⟨.var i,fun W _=>av.var hk hi hg (wD hb) (wP hb)⟩)
  (bG (k= .globalImplicit) fun IM=>hV (tab.lookup x) fun q ht=>match q,ht with
   | .int i,ht=>some ⟨.lit (.int i),fun W ok=>(ok x _ ht).elim fun t h=>av.dt (IM▸hk) h (wD hb)⟩
   |_,_=>none)
noncomputable def Xs(R:fJ tab)(C:Cx)(x:Str)(p:B0)(args:List Expr)(pos:B0):RE tab C (.Call (.Name x p) args [] pos):=
 bG (bad x=false/\C.kn.lookup x=some .globalImplicit) fun⟨hb,hk⟩=>hV (tab.lookup x) fun q ht=>BW args none fun a r _=>bG (yT a=true) fun hs=>(cL R C (a::r)).bind fun es=>match q,ht with
  | .bi f,ht=>bG (r.all yT=true/\(if f=2/\r.length=1 then 3 else f)<5/\oh (if f=2/\r.length=1 then 3 else f)=oh f) fun⟨hr,hf⟩=>
   some ⟨.bi (if f=2/\r.length=1 then 3 else f) es.1,fun W ok=>av.bi hf.1 hk (ok x _ ht).1 (hf.2▸(ok x _ ht).2) (wD hb) (es.2 W ok) (fun env=>zF hs r env) fun env=>IK r hr pos env⟩
  | .fn k,ht=>some ⟨.uc k es.1,fun W ok=>av.uc hk (ok x _ ht) (wD hb) (es.2 W ok) fun env=>zF hs r env⟩
  |_,_=>none
noncomputable def Xt(R:fJ tab)(C:Cx)(xl:Str)(p1:B0)(pos:B0)(args:List Expr):RE tab C (.Call (.Name xl p1) args [] pos):=
 kG args none fun arg=>sC arg none fun f as p2=>sN f none fun xr p3=>
 BW as none fun a Xu _=>qi Xu none fun b c=>
 uf (tab:=tab) C xl "list" fun hx hk ht=>uf (tab:=tab) C xr "range" fun Xv HC hr=>bG (yT a=true/\[b,c].all yT=true) fun hs=>(cL R C [a,b,c]).bind fun es=>some ⟨.bi 5 es.1,fun W ok=>by
  cases hx
  cases Xv
  exact av.ku hk (ht W ok).1 (ht W ok).2 HC (hr W ok).1 (hr W ok).2 (es.2 W ok) (fun env=>zF hs.1 [b,c] env) fun env=>IK [b,c] hs.2 p2 env⟩
noncomputable def Xw(R:fJ tab)(C:Cx)(o:Expr)(m:Str)(ap:B0)(args:List Expr)(pos:B0):RE tab C (.Call (.Attribute o m ap) args [] pos):=
 bG (Qq o=true/\(ap.endLine==pos.line)=true) fun hb=>(R C o).bind fun a=>alt
  (qg args none (bG (m=("lower" :Str)) fun hm=>some ⟨.me 1 a.1 .nil,fun W ok=>hm▸av.lower (a.2 W ok) (fun env=>wJ hb.1 _ env _) hb.2⟩))
  (kG args none fun x=>bG (yT x=true) fun hs=>(R C x).bind fun b=>alt
   (bG (m=("join" :Str)) fun hm=>some ⟨.me 0 a.1 (.cons b.1 .nil),fun W ok=>hm▸av.join (a.2 W ok) (b.2 W ok) (fun env=>wJ hb.1 _ env _) (fun env=>zF hs [] env) hb.2⟩) (alt
   (bG (m=("count" :Str)) fun hm=>some ⟨.me 2 a.1 (.cons b.1 .nil),fun W ok=>hm▸av.count (a.2 W ok) (b.2 W ok) (fun env=>wJ hb.1 _ env _) (fun env=>zF hs [] env) hb.2⟩)
   (bG (m=("index" :Str)) fun hm=>some ⟨.me 3 a.1 (.cons b.1 .nil),fun W ok=>hm▸av.index (a.2 W ok) (b.2 W ok) (fun env=>wJ hb.1 _ env _) (fun env=>zF hs [] env) hb.2⟩)))
noncomputable def IP(e:Expr):Bool:=e.ctorIdx==26
theorem Qw{i:Expr}(h:IP i=false)(o v:Value):E8 i false o v=Jd [o,v] (Iw o v):=by
 cases i<;>first|rfl|exact ft h.symm
noncomputable def Xx(R:fJ tab)(C:Cx)(x i:Expr)(pos:B0):RE tab C (.Subscript x i pos):=(R C x).bind fun a=>alt
 (bG (i.ctorIdx=26) fun h=>Mp (motive_1:=fun i=>Option (Qp tab C (.Subscript x i pos))) i h fun lo hi st _=>(cO R C lo).bind fun b=>(cO R C hi).bind fun c=>(cO R C st).bind fun d=>some ⟨.bI a.1 b.1 c.1 d.1,fun W ok=>av.bI (a.2 W ok) (b.2 W ok) (c.2 W ok) (d.2 W ok)⟩)
 (bG (IP i=false) fun hs=>(R C i).bind fun b=>some ⟨.idx a.1 b.1,fun W ok=>av.idx (a.2 W ok) (b.2 W ok) fun o v=>Qw hs o v⟩)
noncomputable def cK{C:Cx}(k:Nat)(p:B0):∀c:Const,RE tab C (.Constant c k p)
 | .int i=>some ⟨.lit (.int i),fun _ _=>av.cInt⟩
 | .str x=>some ⟨.lit (.str x.cps.toList),fun _ _=>av.vV⟩
 | .bool b=>some ⟨.lit (.bool b),fun _ _=>av.cBool⟩
 | .none=>some ⟨.lit .none,fun _ _=>av.va⟩
 |_=>none
noncomputable def Xy(R:fJ tab):fJ tab:=fun C e=>
 alt (bG (e.ctorIdx=19) fun h=>Lz (motive_1:=fun e=>RE tab C e) e h fun c k p=>cK k p c)
 (alt (sN e none (Xr C))
 (alt (sB e none fun l op r _=>(R C l).bind fun a=>(R C r).bind fun b=>some ⟨.bin op a.1 b.1,fun W ok=>av.bin (a.2 W ok) (b.2 W ok)⟩)
 (alt (sU .USub e none fun x _=>(R C x).bind fun a=>some ⟨.neg a.1,fun W ok=>av.neg (a.2 W ok)⟩)
 (alt (sP e none fun l op r _ hm=>(R C l).bind fun a=>(R C r).bind fun b=>some ⟨.cmp op a.1 b.1,fun W ok=>av.cmp (a.2 W ok) (b.2 W ok) hm⟩)
 (alt (sO .And e none fun es p=>qi es none fun l r=>(R C l).bind fun a=>(R C r).bind fun b=>some ⟨.kb a.1 b.1,fun W ok=>av.kb (a.2 W ok) (b.2 W ok)⟩)
 (alt (sO .Or e none fun es p=>qi es none fun l r=>(R C l).bind fun a=>(R C r).bind fun b=>some ⟨.gH a.1 b.1,fun W ok=>av.gH (a.2 W ok) (b.2 W ok)⟩)
 (alt (bG (e.ctorIdx=5) fun h=>Expr.IfExp.elim (motive_1:=fun e=>RE tab C e) e h fun t x y _=>(cT R C 5 t).bind fun c=>(R C x).bind fun a=>(R C y).bind fun b=>some ⟨.ite c.1 a.1 b.1,fun W ok=>av.ite (c.2 W ok) (a.2 W ok) (b.2 W ok)⟩)
 (alt (sS e none (Xx R C))
 (alt (bG (e.ctorIdx=24) fun h=>Expr.List.elim (motive_1:=fun e=>RE tab C e) e h fun es _=>(cL R C es).bind fun l=>some ⟨.list l.1,fun W ok=>av.list (l.2 W ok)⟩)
 (alt (sG e none fun elt target iter ifs scope _=>(Qv R C target iter).bind fun S=>bG (oo C scope S.xs=true/\vU iter=true) fun hc=>(R (C.et scope S.xs) elt).bind fun a=>(cI R (C.et scope S.xs) ifs).bind fun t=>some ⟨.comp a.1 S.src t.1,fun W ok=>av.comp hc.1 (S.ok W ok) (a.2 W ok) (t.2 W ok) fun env x=>wW hc.2 env x⟩)
 (sC e none fun f args pos=>alt
  (sN f none fun x p=>alt (Xs R C x p args pos) (Xt R C x p pos args))
  (sA f none fun o m ap=>Xw R C o m ap args pos))))))))))))
noncomputable def cE:Nat->fJ tab
 |0=>fun _ _=>none
 |n+1=>Xy (cE n)
end
set_option genInjectivity true
theorem Xz{env:Dy}{x:Str}{px pos:B0}{elt:Expr}{gens:List Comprehension}{scope:Scope}{line:Nat}(hk:env.scope.kind= .function)(hl:env.kindOf x=some .local)(h1:(px.line==pos.line)=true)
  (h2:(scope.names.any fun y=>y.1==x&&(y.2== .local||y.2== .cell))=false):Hx (.ListComp elt gens scope pos) (some (.Name x px)) line env=pure true:=by
 unfold Hx
 have hb:env.blockKind= .function:=by unfold Env.blockKind;refine af hk ?_;rfl
 have vW:(scope.names.any fun(n,k)=>n==x&&(k== .local||k== .cell))=false:=h2
 refine(?_:(pure _:Ks Bool)=_)
 have e:(env.blockKind== .function&&env.kindOf x==some .local&&px.line==pos.line&&!(scope.names.any fun(n,k)=>n==x&&(k== .local||k== .cell)))=true:=by
  (refine af hb ?_;refine af hl ?_;refine af vW ?_;refine af (show(px.line==pos.line)=true from h1) ?_);rfl
 exact congrArg pure e
theorem Qx{env:Dy}{x:Str}{px pos:B0}{elt:Expr}{gens:List Comprehension}{scope:Scope}{line:Nat}(hl:env.kindOf x=some .cell):Hx (.ListComp elt gens scope pos) (some (.Name x px)) line env=pure false:=by
 unfold Hx
 dsimp only
 refine af hl ?_
 have:((some C7:Option Dd)==some .local)=false:=rfl
 rw[this,Bool.and_false,Gj,Gj]
noncomputable def IQ(e:Expr):Bool:=!([8,9,10].contains e.ctorIdx)
theorem IS{value:Expr}(h:IQ value=true)(target:Option Expr)(line:Nat)(env:Dy):Hx value target line env=pure false:=by
 cases value<;>first|rfl|exact ft h
section
variable{X:Ctx}{tv dv:List Nat}
theorem zN.kI{x:Str}{i:Nat}{px oF:B0}{target elt iter:Expr}{xs:List Str}{ifs:List Expr}{scope:Scope}{pos:B0}{pe:PE}{src:nW}{ts:eC}(hx:X.C.Γ.lookup x=some i)(pY:X.C.kn.lookup x=some .local)
  (h1:(px.line==pos.line)=true) (h2:(scope.names.any fun y=>y.1==x&&(y.2== .local||y.2== .cell))=false)
  (bj:oo X.C scope xs=true) (l5:jb X.W X.C target xs iter src) (bw:av X.W (X.C.et scope xs) elt pe) (de:iV X.W (X.C.et scope xs) ifs ts)
  (hs:∀env x,Ef iter env x=pure x) (iy:∀x,X.C.kn.lookup x≠some .free):zN X tv dv (.Assign [.Name x px] (.ListComp elt [⟨target,iter,ifs,0⟩] scope pos) oF) (yX i (fD X.W.U (.comp pe src ts))):=fun K env A E s₀ g N F s g' fl T e=>by
 obtain⟨⟨g₁,p⟩,e1,e2⟩:=wG e
 refine oB e1 fun q e3 e4=>?_
 refine oI e4 fun _ e4=>?_
 refine aq (Bh (Aa e4)) fun aG aM=>?_
 subst aG
 subst aM
 refine oB e3 fun its e5 e6=>?_
 refine oI e6 fun hsz e6=>?_
 obtain⟨ps,run,rfl⟩:=dk e6
 refine Internal.sp e2 ?_
 have P:=T.pre
 refine dY (HI bj) fun aV cP lu=>?_
 obtain⟨cl,fC,dh⟩:=BG (scope:=scope) (env:=env) fun y hy hf=>by
  rcases lu y hy hf with e|e
  ·exact P.eP _ _ e (.inl rfl)
  ·exact P.eP _ _ e (.inr rfl)
 have jc:env.kindOf x=some .local:=by unfold Be;refine af T.names ?_;exact pY
 unfold HU;refine af (exec_Assign_Name_used _ _ _ _ (Xz (line:=oF.line) T.kind jc h1 h2)) ?_
 refine Ac (Cm (Ac ?_))
 refine(?_:Al _ A (do let _<-comprehension (.ListComp elt [⟨target,iter,ifs,0⟩] scope pos) scope env _ (Ma []) false (eval iter env) (some (Kc (.Name x px) env))) _ _ s)
 refine Ac (Bu (Fd (use:=some (Kc (.Name x px) env)) (Q:=fun _ s'=>jf X tv dv K env A s₀ (g.set i (.list ps)) .next .next s') rfl (hs env) fC aV cP
  (zE (l5 env A E s g.σ its P e5 hsz) fun xv aa ah=>zE ah fun it s₂ ai=>?_)) (fun _ s' hq=>Ak (Ak hq)) fun _ _ e=>e)
 obtain⟨I,fp,wr,St,rfl,aI,eu,cV,Y,st,_⟩:=ai
 refine PD (RR:=fun acc L=>compPost (Af X.W.prog X.W.w) A E (some (Kc (.Name x px) env)) (fun _ s'=>jf X tv dv K env A s₀ (g.set i (.list ps)) .next .next s') acc L) bj P dh bw de aI eu cV Y st hsz run ?_
 intro D L s' ns m' hL k hn r hf rt
 have aR:=T.kg k
 refine(?_:Al _ A (Kc (.Name x px) env (.ref D)) _ _ _)
 have oG:∀a,(∃o,s.heap.get? a=some o)->a≠L:=fun a ⟨o,e⟩ q=>by rw[q,hL]at e;exact nn e
 have qj:env.locals≠L:=oG _ (by obtain⟨m,o,_,_,e,_⟩:=T.loc;exact⟨o,e⟩)
 have BX:∀y d,X.C.kn.lookup y=some .cell->env.cells.lookup y=some d->d≠L:=fun y d e1 e2=>oG d (by obtain⟨⟨_,o,e,_⟩,_⟩:=T.cls y d e1 e2;exact⟨o,e⟩)
 refine Dl (zE (aR.eH hx r (T.held hf) (own:=true) (.inl rfl)) fun _ aU aW=>?_)
 refine dY aW fun aw _ kp=>?_
 refine i12 m' (hn.at' fun o e=>kp L o (Hj qj) (fun y d e1 e2 q=>BX y d e1 e2 q.symm) e) (fun h' dq=>⟨rfl,_,_,aw.other (wr:=[L]) (tk:=aU.toks) (fun b o hb e=>dq.extBut b o (fun q=>hb (by refine af q ?_;exact Bg L)) e) ?_ ?_ ?_ ?_ ?_ ?_⟩)
 ·exact fun h=>qj (Ae.mp h)
 ·exact fun y d e1 e2 h=>BX y d e1 e2 (Ae.mp h)
 ·exact fun a ha h=>oG a (T.foot a ha).2.1 (Ae.mp h)
 ·intro j a ha h
  have BY:=Ae.mp h
  unfold fW at ha
  split at ha
  ·exact rt (BY▸ha)
  ·refine fT (T.nd j a ha) fun _ _ e=>?_
   exact oG a ⟨_,e⟩ BY
 ·intro b hb
  refine af (Ae.mp hb) ?_
  cases q:K L with
  |none=>rfl
  |some o=>have:=T.kept L o q;rw[hL]at this;exact nn this
 ·intro y c e1 e2 h
  exact absurd e1 (iy y)
end
inductive IT(h:Ap)(ps:List PV)(vs:List Value)(ns:List Addr)(u:Nat)(p:PV):Prop
 |mk (w:Value) (n:List Addr) (e:vs[u]?=some w) (r:VR h p w n) (m:∀x∈n,x∈ns) (k:∀(h':Ap) (p':PV),(∀x o,x∉n->h.get? x=some o->h'.get? x=some o)->VR h' p' w n->ao h' (ps.set u p') vs ns):IT h ps vs ns u p
theorem ao.IU{h:Ap}{ps:List PV}{vs:List Value}{ns:List Addr}(x:ao h ps vs ns):ns.Nodup->∀{u:Nat} {p:PV},ps[u]?=some p->IT h ps vs ns u p:=
 x.ind (M:=fun ps vs ns=>ns.Nodup->∀{u:Nat} {p:PV},ps[u]?=some p->IT h ps vs ns u p) (fun _ _ _ e=>nn e) fun hv hs ih hd u p e=>by
  have hd:=Hf.mp hd
  cases u with
  |zero=>exact Aa e▸⟨_,_,rfl,hv,fun x hx=>Ax _ hx,fun h' p' ext r=> .cons r (hs.on fun a ha o e=>ext a o (fun hm=>hd.2.2 a hm a ha rfl) e)⟩
  |succ u=>
   obtain⟨w,n',e1,e2,e3,e4⟩:=ih hd.2.1 (u:=u) e
   exact⟨w,n',e1,e2,fun x hx=>Ar _ (e3 x hx),fun h' p' ext r=> .cons (hv.on fun a ha o e=>ext a o (fun hm=>hd.2.2 a ha a (e3 a hm) rfl) e) (e4 h' p' ext r)⟩
section
variable{X:Ctx}{tv dv:List Nat}{K:Addr->Option Obj}{env:Dy}{A:Am}{s₀ s:Ab}{g:Sg}{N:Nat->List Addr}{F:List Addr}
theorem ax.IV{x:Str}{i:Nat}{l':List PV}{b:Addr}{v:Value}{h':Ap}{tk:Nat}(T:ax X tv dv K env A s₀ g N F s)(hx:X.C.Γ.lookup x=some i)(hi:i∈dv)(ht:i∉tv)(hb:b∈N i)(cq:Acc env s.heap x v)
  (hs:Cd b s.heap h') (hv:VR h' (.list l') v (N i)) (jM:i<g.σ.length):ax X tv dv K env A s₀ (g.set i (.list l')) N F {s with heap:=h',toks:=tk}:=by
 refine aq (T.deep i hi) fun g9 IW=>?_
 refine aq (IW b hb) fun XA dD=>?_
 refine fT (T.nd i b hb) fun its nn di=>?_
 have Qy:b∉F:=fun h=>(T.foot b h).2.2.1 i hb
 exact
  {fV:=T.fV,kind:=T.kind,names:=T.names,gl:=T.gl,bl:=T.bl,room:=T.room,eP:=T.eP,eF:=T.eF
   len:=by refine(?_:(g.σ.set i _).length=_);rw[Ct];exact T.len
   loc:=by obtain⟨m,hm⟩:=T.loc;exact⟨m,hm.at' fun o e=>hs _ o (fun q=>wH hm (q▸di)) e⟩
   dB:=T.dB
   cls:=fun y c e1 e2=>by
    refine aq (T.cls y c e1 e2) fun bJ h=>?_
    refine dZ bJ fun v o e3 e4=>?_
    exact bZ ⟨v,o,hs c o (fun q=>wX ⟨o,e3,e4⟩ (q▸di)) e3,e4⟩ h
   rd:=fun y j q e1 e2=>by
    by_cases hj:j=i
    ·have ot:y=x:=T.fV.inj y x i (hj▸e1) hx
     have e2:(g.σ.set i (some (.list l')))[i]?=some (some q):=hj▸e2
     rw[D0 jM]at e2
     exact⟨v,ot▸cq.ox di hs,hj▸Aa (Aa e2)▸hv⟩
    ·have e2:(g.σ.set i (some (.list l')))[j]?=some (some q):=e2
     rw[Bl (Hj hj)]at e2
     obtain⟨u,ac,rr⟩:=T.rd y j q e1 e2
     exact⟨u,ac.ox di hs,rr.on fun c hc o e=>hs c o (fun q=>dD j hj (q▸hc)) e⟩
   nd:=fun j c hc=>by
    by_cases hj:j=i
    ·exact hv.nodes c (hj▸hc)
    ·refine fT (T.nd j c hc) fun it n e=>?_
     exact GH it n (hs c _ (fun q=>dD j hj (q▸hc)) e)
   bL:=T.bL
   deep:=T.deep
   kept:=fun c o e=>hs c o (fun q=>by rw[q,XA]at e;cases e) (T.kept c o e)
   eG:=T.eG
   same:=T.same.heap h' tk
   book:=fun u c e=>X.BK.frame (T.book u c e) fun d hd o e=>hs d o (fun q=>Qy (q▸hd)) e
   foot:=fun c hc=>by
    refine dY (T.foot c hc) fun g1 gL g3=>?_
    refine aH gL fun o g2=>?_
    exact⟨g1,⟨o,hs c o (fun q=>Qy (q▸hc)) g2⟩,g3⟩}
end
section
variable{X:Ctx}{tv dv:List Nat}
inductive Qz(h:Ap)(m:List PV)(w:Value)(n:List Addr):Prop
 |mk (b:Addr) (us:List Value) (e:w= .ref b) (en:n=[b]) (pl:h.PlainList b (En us)) (vs:ao h m us []):Qz h m w n
theorem VR.row{h:Ap}{m:List PV}{w:Value}{n:List Addr}(r:VR h (.list m) w n)(hm:m.all PV.ba=true):Qz h m w n:=by
 refine i5 r.inv fun a vs ms h1 h2 l6 oq=>?_
 subst l6
 subst oq
 obtain rfl:=h2.aC hm
 exact⟨a,vs,rfl,rfl,h1,h2⟩
theorem IX{r:List Addr}(h:∀b∈r,b∈([]:List Addr)):r=[]:=Hz.mpr fun a ha=>Aq (h a ha)
theorem zN.oH{x:Str}{i:Nat}{px sp QA pos:B0}{ie je value:Expr}{pi pj pv:PE}(hx:X.C.Γ.lookup x=some i)(hi:dv.contains i=true)(ht:tv.contains i=false)(hn:(x==("__classdict__" :Str))=false) (kB:(x==("__debug__" :Str))=false)
  (hs:∀env,Hx value (some (.Subscript (.Subscript (.Name x px) ie sp) je QA)) pos.line env=pure false) (lF:∀o v,E8 ie false o v=Jd [o,v] (Iw o v))
  (h1:av X.W X.C ie pi) (h2:av X.W X.C je pj) (h3:av X.W X.C value pv):
  zN X tv dv (.Assign [.Subscript (.Subscript (.Name x px) ie sp) je QA] value pos) (Qe i X.W.U pi pj pv):=fun K env A E s₀ g N F s g' fl T e=>by
 have hi:=vH hi
 have ht:=ry ht
 refine oB e fun p e1 e=>?_
 refine oB e fun l e2 e=>?_
 refine oB e fun a e3 e=>?_
 refine oB e fun b e4 e=>?_
 have hl:=vD e2
 obtain⟨a,b,m,rfl,rfl,hm,hc,e7⟩:=Xh e
 refine aq (b2 hc) fun hc c8=>?_
 refine aq (b2 hc) fun hc c7=>?_
 refine aq (b2 hc) fun hc c6=>?_
 refine aq (b2 hc) fun hc c5=>?_
 refine aq (b2 hc) fun hc c4=>?_
 refine aq (b2 hc) fun hc c3=>?_
 refine aq (b2 hc) fun c1 c2=>?_
 have c5:=of_decide_eq_true c5
 have c6:=of_decide_eq_true c6
 refine Internal.sp (congrArg some e7) (wpAny_Assign_Subscript (zE (h3 env A E s g.σ p T.pre e1) fun w aa ah=>?_) (hs env))
 obtain⟨k₁,ns,az,_⟩:=ah
 have aR:=T.kg k₁
 obtain⟨v,cq,rv⟩:=aR.rd x i _ hx hl
 refine Ls (Bq (zS aR.kind cq ?_ hn) kB)
 refine zE (h1 env A E aa g.σ _ aR.pre e3) fun u s₂ ai=>?_
 obtain⟨k₂,ms,aY,_⟩:=ai
 refine aB aY.inv fun t aM _=>?_
 subst aM
 have aw:=aR.kg k₂
 have IY:=(aw.deep i hi).1
 refine i5 ((rv.sub (zV k₂)).inv) fun q vs l7 cj bf l6 hN=>?_
 subst l6
 rw[hN]at IY
 obtain⟨w',n,f1,f2,f3,f4⟩:=bf.IU (Cs.mp IY).2 hm
 refine t6 cj.isList.typeIs Io ?_ ⟨_,lF _ _⟩
 refine wpAny_getItem_list cj.isList (of_decide_eq_true c2) (Md (of_decide_eq_true c3) (Es (E6.mpr (of_decide_eq_true c4)) (by decide))) (by rw[Dn];exact f1) ?_
 obtain⟨b',us,rfl,rfl,g1,g2⟩:=f2.row c8
 have XB:b'∈N i:=hN▸Ai _ (f3 b' (Bg _))
 refine zE (h2 env A E s₂ g.σ _ aw.pre e4) fun u ak au=>?_
 obtain⟨bh,ms,jj,_⟩:=au
 refine aB jj.inv fun t' aM _=>?_
 subst aM
 refine aH (g1.at fun o e=>zV bh _ o e) fun nb ho=>?_
 refine ki_setAt ho c5 (Md c6 (Es (E6.mpr (of_decide_eq_true c7)) (by decide))) (by(refine af A3 ?_;refine af g2.length ?_);exact c6) ?_
 have gk:=Gp ho (fun xs=>xs.setIfInBounds b.toNat w)
 rw[I4]at gk
 have eY:Cd b' ak.heap (ak.heap.update b' (Ly fun xs=>xs.setIfInBounds b.toNat w)):=(El ..).extBut
 refine aB ((g2.on fun _ h=>(Aq h).elim:ao (ak.heap.update b' (Ly fun xs=>xs.setIfInBounds b.toNat w)) m us []).setAt b.toNat (az.bP c1)) fun r' d1 d2=>?_
 have d1:=IX d2▸d1
 refine⟨rfl,N,F,(aw.kg bh).IV (tk:=ak.toks) hx hi ht XB ((cq.sub (zV k₂)).sub (zV bh)) eY ?_ (by refine af T.len ?_;exact T.fV.lt x i hx)⟩
 refine af hN ?_
 exact .list (cj.at fun o e=>eY _ o (fun z=>(Cs.mp IY).1 (z▸f3 b' (Bg _))) (zV bh _ o e)) (f4 _ _ (fun x o hx e=>eY x o (fun z=>hx (z▸Bg _)) (zV bh x o e)) (.list ⟨_,gk⟩ d1))
end
set_option genSizeOf false
set_option genInjectivity false
theorem XD{env:Dy}{x y a1 a2:Str}{px py tp q1 q2 p2:B0}{k k2:Nat}(hk:env.scope.kind= .function)(hx:env.kindOf x=some .local)(hy:env.kindOf y=some .local)(hl:(py.line==px.line)=true)(cY:(y==x)=false)(hb:bad a1=false):
  swappedStores [.Tuple [.Name x px, .Name y py] k tp] (.Tuple [.Name a1 q1, .Name a2 q2] k2 p2) env=pure (some [x,y]):=by
 have dj:env.blockKind= .function:=by unfold Env.blockKind;rw[hk];rfl
 have ug:=wD hb
 have gI:py.line=px.line:=by exact eq_of_beq hl
 have vX:y≠x:=by simpa using cY
 unfold swappedStores
 have f1:foldedForSure 8 (.Name a1 q1)=false:=rfl
 have c1:constantsAlone 8 (.Name a1 q1)=false:=ug
 have ep:∀x p,(Expr.Name x p).pos=p:=fun _ _=>rfl
 dsimp only[List.any,List.filterMap,B3,List.head?]
 simp[dj,hx,hy,gI,ep,f1,c1,List.eraseDups_cons,vX,Hj vX]
section
variable{X:Ctx}{tv dv:List Nat}
theorem zN.swap{x y a1 a2:Str}{i j:Nat}{px py tp q1 q2 p2 oF:B0}{k k2:Nat}{pa pb:PE}(hx:X.C.Γ.lookup x=some i)(hy:X.C.Γ.lookup y=some j)(jc:X.C.kn.lookup x=some .local)(IZ:X.C.kn.lookup y=some .local)
  (hl:(py.line==px.line)=true) (cY:(y==x)=false) (hb:bad a1=false) (h1:av X.W X.C (.Name a1 q1) pa) (h2:av X.W X.C (.Name a2 q2) pb):
  zN X tv dv (.Assign [.Tuple [.Name x px, .Name y py] k tp] (.Tuple [.Name a1 q1, .Name a2 q2] k2 p2) oF) (PM i j X.W.U pa pb):=fun K env A E s₀ g N F s g' fl T e=>by
 refine oB e fun p e1 e=>?_
 refine oB e fun q e2 e=>?_
 refine oI e fun kA e=>?_
 refine aq (b2 kA) fun ip iq=>?_
 have kk:∀z,X.C.kn.lookup z=some .local->env.kindOf z=some .local:=fun z e=>by unfold Be;rw[T.names];exact e
 refine Internal.sp e (Assign_Tuple_swapped (names:=[x,y]) ?_ rfl (XD T.kind (kk x jc) (kk y IZ) hl cY hb))
 refine wpAny_Tuple ?_
 refine A8 (zE (h1 env A E s g.σ p T.pre e1) fun v aa ah=>?_)
 obtain⟨k₁,ns,az,_⟩:=ah
 refine A8 (zE (h2 env A E aa g.σ q (T.kg k₁).pre e2) fun u s₂ ai=>?_)
 obtain⟨k₂,ms,aY,_⟩:=ai
 refine B4 ⟨by rw[Bo];refine(?_:2<=16777216);decide,?_⟩
 have aw:=((T.kg k₁).kg k₂).kg (pT s₂ {cls:= .type "tuple",data:= .seq [v,u].toArray} s₂.toks)
 refine unpackItems_tuple (items:=[v,u].toArray) T.room.hh ⟨_,Av _ rfl,rfl,_,rfl⟩ fun h' he=>?_
 have aN:=aw.kg (jH _ h' s₂.toks fun b o e=>he b o (Br (Bm e)) e)
 refine Ey (wpAny_bindName (zE (aN.store hy (aY.bP iq) (ew.nil (own:=true)) (.inl rfl)) fun _ cN dE=>?_))
 refine Ey (wpAny_bindName (zE (dE.store hx (az.bP ip) (ew.nil (own:=true)) (.inl rfl)) fun _ s₆ dU=>?_))
 exact Je ⟨rfl,_,_,dU⟩
end
mutual
inductive PS where
 |assign (i:Nat) (e:PE)
 |df (i j:Nat) (e:PE)
 |swap (i j:Nat) (a b:PE)
 |aug (op:Ia) (i:Nat) (e:PE)
 |append (i:Nat) (e:PE)
 |dF (i j:Nat) (e:PE)
 |iC (i j:Nat)
 |set (i:Nat) (a b:PE)
 |oH (i:Nat) (a b c:PE)
 |ifs (c:PT) (a b:ey)
 |oJ (c:PT) (b:ey)
 |forR (i:Nat) (e:PE) (b:ey)
 |rF (i:Nat) (e:PE) (b:ey)
 |rG (i j:Nat) (b:ey)
 |ret (e:PE)
 |brk
 |cont
 |pass
inductive ey where
 |nil
 |cons (s:PS) (r:ey)
end
noncomputable def JA(U:Uc)(pe:PE):dC:=fun g=>(ev U pe g.σ).bind fun p=>if p.ba then some (g,p)else none
mutual
noncomputable def den(U:Uc):PS->Den
 | .assign i e=>yX i (fD U e)
 | .df i j e=>PL i j (JA U e)
 | .swap i j a b=>PM i j U a b
 | .aug op i e=>ou U op i e
 | .append i e=>Qa i U e
 | .dF i j e=>Qb i j U e
 | .iC i j=>yX i (vE j)
 | .set i a b=>Qc i U a b
 | .oH i a b c=>Qe i U a b c
 | .ifs c a b=>BP U c (zU U a) (zU U b)
 | .oJ c b=>nB U c (zU U b) 64
 | .forR i e b=>ub (fun g=>kh U (.eD e) g.σ) [i] (zU U b)
 | .rF i e b=>ub (fun g=>(ev U e g.σ).bind fun p=>if fresh e p then pV p else none) [i] (zU U b)
 | .rG i j b=>ub (fun g=>((g.σ[j]?).bind id).bind pV) [i] (zU U b)
 | .ret e=>vB (fD U e)
 | .brk=>fun g=>some (g, .brk)
 | .cont=>fun g=>some (g, .cont)
 | .pass=>aA
noncomputable def zU(U:Uc):ey->Den
 | .nil=>aA
 | .cons s r=>zZ (den U s) (zU U r)
end
section
variable{tab:Tab}
noncomputable abbrev XE(tab:Tab)(C:Cx)(tv dv:List Nat)(st:Stmt):={p:PS//∀X:Ctx,X.C=C->cQ X.W tab->zN X tv dv st (den X.W.U p)}
noncomputable abbrev RS(tab:Tab)(C:Cx)(tv dv:List Nat)(st:Stmt):=Option (XE tab C tv dv st)
noncomputable abbrev RB(tab:Tab)(C:Cx)(tv dv:List Nat)(b:List Stmt):=Option {p:ey//∀X:Ctx,X.C=C->cQ X.W tab->zP X tv dv tv dv b (zU X.W.U p)}
theorem BZ{C:Cx}(h:C.kn.all (fun y=>y.2 != .free)=true)(x:Str):C.kn.lookup x≠some .free:=fun e=>by
 have:=Ao.mp h _ (zT e)
 simp at this
theorem oK{i:Nat}{l:List Nat}(h:l.contains i=false):i∉l:=by simpa using h
theorem xR(l:List Nat):jg l l=true:=by unfold jg;simp
noncomputable def JB{C:Cx}{tv dv:List Nat}(f:∀st,RS tab C tv dv st):∀b:List Stmt,RB tab C tv dv b
 |[]=>some ⟨.nil,fun _ _ _=>zP.nil (xR _) (xR _)⟩
 |st::r=>(f st).bind fun a=>(JB f r).bind fun q=>some ⟨.cons a.1 q.1,fun X hX ok=>zP.cons (a.2 X hX ok) (q.2 X hX ok) (xR _) (xR _) (xR _) (xR _)⟩
noncomputable def XG(R:fJ tab)(C:Cx)(tv dv:List Nat)(x:Str)(px:B0)(value:Expr)(pos:B0):RS tab C tv dv (.Assign [.Name x px] value pos):=
 hV (C.Γ.lookup x) fun i hx=>alt
  (bG (IQ value=true) fun hc=>(R C value).bind fun a=>some ⟨.assign i a.1,fun X hX ok=>by subst hX;exact zN.assign hx (.inl rfl) (dm.pure (a.2 X.W ok)) fun env _=>IS hc _ _ env⟩)
  (sG value none fun elt target iter ifs scope cp=>alt
   (bG (C.kn.lookup x=some .cell) fun hk=>(R C (.ListComp elt [⟨target,iter,ifs,0⟩] scope cp)).bind fun a=>some ⟨.assign i a.1,fun X hX ok=>by subst hX;exact zN.assign hx (.inl rfl) (dm.pure (a.2 X.W ok)) fun env hn=>Qx (by unfold Be;rw[hn];exact hk)⟩)
   (bG (C.kn.lookup x=some .local/\C.kn.all (fun y=>y.2 != .free)=true) fun pY=>(Qv R C target iter).bind fun S=>bG (oo C scope S.xs=true/\vU iter=true/\(px.line==cp.line)=true/\(scope.names.any fun y=>y.1==x&&(y.2== .local||y.2== .cell))=false) fun hc=>(R (C.et scope S.xs) elt).bind fun a=>(cI R (C.et scope S.xs) ifs).bind fun t=>some ⟨.assign i (.comp a.1 S.src t.1),fun X hX ok=>by
    subst hX
    exact zN.kI hx pY.1 hc.2.2.1 hc.2.2.2 hc.1 (S.ok X.W ok) (a.2 X.W ok) (t.2 X.W ok) (fun env x=>wW hc.2.1 env x) (BZ pY.2)⟩))
noncomputable def XH(C:Cx)(tv dv:List Nat)(x y m:Str)(px py ap cp pos:B0):RS tab C tv dv (.Assign [.Name x px] (.Call (.Attribute (.Name y py) m ap) [] [] cp) pos):=
 bG (m=("pop" :Str)) fun hm=>hV (C.Γ.lookup x) fun i hx=>hV (C.Γ.lookup y) fun j hy=>bG (tv.contains i=false/\dv.contains i=false/\tv.contains j=true/\dv.contains j=false/\bad y=false/\(ap.endLine==cp.line)=true) fun hc=>
   some ⟨.iC i j,fun X hX ok=>by
    subst hX hm
    exact zN.assign hx (.inr ⟨oK hc.1,oK hc.2.1⟩) (dm.pop hy (Hq.mp hc.2.2.1) (oK hc.2.2.2.1) (wP hc.2.2.2.2.1) (wD hc.2.2.2.2.1) hc.2.2.2.2.2 fun env=>wJ rfl _ env _) fun env _=>rfl⟩
theorem JC{C:Cx}{tv dv:List Nat}{x:Str}{px:B0}{i:Nat}{iter:Expr}{body:List Stmt}{pos:B0}{X:Ctx}{f:Sg->Option (List (List PV))}{b:Den}(hC:X.C=C)(hx:C.Γ.lookup x=some i)(hi:tv.contains i=false/\dv.contains i=false)(hn:C.kn.all (fun y=>y.2 != .free)=true)
  (h:lC X tv dv (.Name x px) [x] iter f) (hb:zP X tv dv tv dv body b) (hf:vU iter=true):zN X tv dv (.For (.Name x px) iter body [] pos) (ub f [i] b):=by
 subst hC
 exact zN.vQ h (.cons hx .nil) (fun k hk=>by rw[Ae.mp hk];exact⟨oK hi.1,oK hi.2⟩) hb (fun env x=>wW hf env x) (BZ hn)
noncomputable def XI(R:fJ tab)(C:Cx)(tv dv:List Nat)(x:Str)(px:B0)(i:Nat)(body:List Stmt)(pos:B0)(hx:C.Γ.lookup x=some i)(hi:tv.contains i=false/\dv.contains i=false)(hn:C.kn.all (fun y=>y.2 != .free)=true)
  (b:{p:ey//∀X:Ctx,X.C=C->cQ X.W tab->zP X tv dv tv dv body (zU X.W.U p)}) (iter:Expr):RS tab C tv dv (.For (.Name x px) iter body [] pos):=alt
 (sC iter none fun f as cp=>sN f none fun xr pr=>kG as none fun a=>
  uf (tab:=tab) C xr "range" fun hr hk ht=>bG (yT a=true) fun hs=>(R C a).bind fun e=>some ⟨.forR i e.1 b.1,fun X hX ok=>JC hX hx hi hn (lC.eD (by subst hX;exact e.2 X.W ok) hr (by subst hX;exact hk) (ht X.W ok).1 (ht X.W ok).2 fun env=>zF hs [] env) (b.2 X hX ok) rfl⟩) (alt
 (sN iter none fun y py=>hV (C.Γ.lookup y) fun j hy=>bG (tv.contains j=false/\dv.contains j=false/\bad y=false) fun hc=>
  some ⟨.rG i j b.1,fun X hX ok=>JC hX hx hi hn (lC.name (hX▸hy) hc.1 hc.2.1 (wP hc.2.2) (wD hc.2.2)) (b.2 X hX ok) rfl⟩)
 (bG (vU iter=true) fun hf=>(R C iter).bind fun e=>some ⟨.rF i e.1 b.1,fun X hX ok=>JC hX hx hi hn (lC.items (by subst hX;exact e.2 X.W ok)) (b.2 X hX ok) hf⟩))
end
set_option genInjectivity true
section
variable{tab:Tab}
noncomputable def XJ(R:fJ tab)(C:Cx)(tv dv:List Nat)(x m:Str)(px ap:B0)(pos jh:B0)(arg:Expr):RS tab C tv dv (.Expr (.Call (.Attribute (.Name x px) m ap) [arg] [] pos) jh):=
 bG (m=("append" :Str)) fun hm=>hV (C.Γ.lookup x) fun i hx=>bG (tv.contains i=true/\dv.contains i=false/\bad x=false/\(ap.endLine==pos.line)=true) fun hc=>alt
  (sB arg none fun l op e2 bp=>BV op .Add none<|
   sC l none fun f as kE=>qg as none<|
   sA f none fun o m2 dX=>sN o none fun y py=>
   bG (m2=("pop" :Str)) fun XK=>hV (C.Γ.lookup y) fun j hy=>bG ((tv.contains j=true/\dv.contains j=false/\bad y=false/\(dX.endLine==kE.line)=true)/\(i==j)=false) fun hd=>(R C e2).bind fun a=>some ⟨.dF i j a.1,fun X hX ok=>by
    subst hX hm XK
    exact zN.dF hx hc.1 hc.2.1 hy hd.1.1 hd.1.2.1 hd.2 (wP hc.2.2.1) (wD hc.2.2.1) (wP hd.1.2.2.1) (wD hd.1.2.2.1) hc.2.2.2 (fun env=>wJ rfl _ env _) hd.1.2.2.2 (fun env=>wJ rfl _ env _) (fun env=>zF rfl [] env) (a.2 X.W ok)⟩)
  (bG (yT arg=true) fun hs=>(R C arg).bind fun a=>some ⟨.append i a.1,fun X hX ok=>by
   subst hX hm
   exact zN.append hx hc.1 hc.2.1 (wP hc.2.2.1) (wD hc.2.2.1) hc.2.2.2 (fun env=>wJ rfl _ env _) (fun env=>zF hs [] env) (a.2 X.W ok)⟩)
noncomputable def XM(R:fJ tab)(C:Cx)(tv dv:List Nat)(x:Str)(px:B0)(value:Expr)(pos:B0):RS tab C tv dv (.Assign [.Name x px] value pos):=alt
 (XG R C tv dv x px value pos)
 (sC value none fun f as cp=>qg as none<|sA f none fun o m ap=>sN o none fun y py=>
  XH (tab:=tab) C tv dv x y m px py ap cp pos)
noncomputable def XN(R:fJ tab)(C:Cx)(tv dv:List Nat)(t1 t2 value:Expr)(pos:B0):RS tab C tv dv (.Assign [t1,t2] value pos):=
 sN t1 none fun x px=>sN t2 none fun y py=>
  hV (C.Γ.lookup x) fun i hx=>hV (C.Γ.lookup y) fun j hy=>(R C value).bind fun a=>bG (tv.contains i=false/\dv.contains i=false/\tv.contains j=false/\dv.contains j=false) fun hc=>some ⟨.df i j a.1,fun X hX ok=>by
   subst hX
   exact zN.df hx hy ⟨oK hc.1,oK hc.2.1⟩ ⟨oK hc.2.2.1,oK hc.2.2.2⟩ (a.2 X.W ok)⟩
noncomputable def XO(R:fJ tab)(C:Cx)(tv dv:List Nat)(es:List Expr)(k:Nat)(tp:B0)(value:Expr)(pos:B0):RS tab C tv dv (.Assign [.Tuple es k tp] value pos):=
 qi es none fun t1 t2=>sN t1 none fun x px=>sN t2 none fun y py=>
 sT value none fun vs k2 p2=>qi vs none fun v1 v2=>
 sN v1 none fun a1 q1=>sN v2 none fun a2 q2=>
  hV (C.Γ.lookup x) fun i hx=>hV (C.Γ.lookup y) fun j hy=>(R C (.Name a1 q1)).bind fun a=>(R C (.Name a2 q2)).bind fun b=>bG (C.kn.lookup x=some .local/\C.kn.lookup y=some .local/\(py.line==px.line)=true/\(y==x)=false/\bad a1=false) fun hc=>some ⟨.swap i j a.1 b.1,fun X hX ok=>by
   subst hX
   exact zN.swap hx hy hc.1 hc.2.1 hc.2.2.1 hc.2.2.2.1 hc.2.2.2.2 (a.2 X.W ok) (b.2 X.W ok)⟩
noncomputable def XP(R:fJ tab)(C:Cx)(tv dv:List Nat)(t ie:Expr)(sp:B0)(value:Expr)(pos:B0):RS tab C tv dv (.Assign [.Subscript t ie sp] value pos):=bG (IQ value=true) fun hv=>alt
 (sN t none fun x px=>hV (C.Γ.lookup x) fun i hx=>bG (tv.contains i=true/\dv.contains i=false/\bad x=false) fun hc=>(R C ie).bind fun a=>(R C value).bind fun b=>some ⟨.set i a.1 b.1,fun X hX ok=>by
  subst hX
  exact zN.setItem hx hc.1 hc.2.1 (wP hc.2.2) (wD hc.2.2) (fun env=>IS hv _ _ env) (a.2 X.W ok) (b.2 X.W ok)⟩)
 (sS t none fun o i1 sp1=>sN o none fun x px=>hV (C.Γ.lookup x) fun i hx=>bG (dv.contains i=true/\tv.contains i=false/\bad x=false/\IP i1=false) fun hc=>(R C i1).bind fun a=>(R C ie).bind fun b=>(R C value).bind fun c=>some ⟨.oH i a.1 b.1 c.1,fun X hX ok=>by
  subst hX
  exact zN.oH hx hc.1 hc.2.1 (wP hc.2.2.1) (wD hc.2.2.1) (fun env=>IS hv _ _ env) (fun o v=>Qw hc.2.2.2 o v) (a.2 X.W ok) (b.2 X.W ok) (c.2 X.W ok)⟩)
noncomputable def XQ(R:fJ tab)(C:Cx)(tv dv:List Nat)(CA:∀b,RB tab C tv dv b)(st:Stmt):RS tab C tv dv st:=
 alt (bG (st.ctorIdx=5) fun h=>Ml (motive_2:=RS tab C tv dv) st h fun ts value pos=>alt
  (kG ts none fun t=>alt
   (sN t none fun x px=>XM R C tv dv x px value pos) (alt
   (sT t none fun es k tp=>XO R C tv dv es k tp value pos)
   (sS t none fun t ie sp=>XP R C tv dv t ie sp value pos)))
  (qi ts none fun t1 t2=>XN R C tv dv t1 t2 value pos))
 (alt (bG (st.ctorIdx=7) fun h=>Stmt.AugAssign.elim (motive_2:=RS tab C tv dv) st h fun t op value pos=>sN t none fun x px=>hV (C.Γ.lookup x) fun i hx=>bG (bad x=false) fun hb=>(R C value).bind fun a=>some ⟨.aug op i a.1,fun X hX ok=>by subst hX;exact zN.aug hx (a.2 X.W ok) (wP hb)⟩)
 (alt (bG (st.ctorIdx=24) fun h=>Stmt.Expr.elim (motive_2:=RS tab C tv dv) st h fun e jh=>sC e none fun f as pos=>kG as none fun arg=>sA f none fun o m ap=>sN o none fun x px=>XJ R C tv dv x m px ap pos jh arg)
 (alt (bG (st.ctorIdx=12) fun h=>Stmt.If.elim (motive_2:=RS tab C tv dv) st h fun test body orelse pos=>(cT R C 5 test).bind fun t=>(CA body).bind fun a=>(CA orelse).bind fun b=>some ⟨.ifs t.1 a.1 b.1,fun X hX ok=>zN.PR (hX▸t.2 X.W ok) (a.2 X hX ok) (b.2 X hX ok)⟩)
 (alt (bG (st.ctorIdx=11) fun h=>Stmt.While.elim (motive_2:=RS tab C tv dv) st h fun test body JD pos=>qg JD none ((cT R C 5 test).bind fun t=>(CA body).bind fun a=>some ⟨.oJ t.1 a.1,fun X hX ok=>zN.l9 64 (hX▸t.2 X.W ok) (a.2 X hX ok)⟩))
 (alt (bG (st.ctorIdx=9) fun h=>Stmt.For.elim (motive_2:=RS tab C tv dv) st h fun t iter body JD pos=>qg JD none (sN t none fun x px=>hV (C.Γ.lookup x) fun i hx=>(CA body).bind fun b=>bG ((tv.contains i=false/\dv.contains i=false)/\C.kn.all (fun y=>y.2 != .free)=true) fun hc=>XI R C tv dv x px i body pos hx hc.1 hc.2 b iter))
 (alt (bG (st.ctorIdx=3) fun h=>Stmt.Return.elim (motive_2:=RS tab C tv dv) st h fun o pos=>match o with
  |some e=>(R C e).bind fun a=>some ⟨.ret a.1,fun X hX ok=>by subst hX;exact zN.ret (dm.pure (a.2 X.W ok))⟩
  |none=>none)
 (alt (bG (st.ctorIdx=26) fun h=>Stmt.Break.elim (motive_2:=RS tab C tv dv) st h fun pos=>some ⟨.brk,fun X _ _=>zN.brk⟩)
 (alt (bG (st.ctorIdx=27) fun h=>Stmt.Continue.elim (motive_2:=RS tab C tv dv) st h fun pos=>some ⟨.cont,fun X _ _=>zN.cont⟩)
 (bG (st.ctorIdx=25) fun h=>Stmt.Pass.elim (motive_2:=RS tab C tv dv) st h fun pos=>some ⟨.pass,fun X _ _=>zN.pass⟩)))))))))
noncomputable def cS(R:fJ tab)(C:Cx)(tv dv:List Nat):Nat->∀st:Stmt,RS tab C tv dv st
 |0=>fun _=>none
 |n+1=>XQ R C tv dv (JB (cS R C tv dv n))
noncomputable def cB(C:Cx)(tv dv:List Nat)(b:List Stmt):RB tab C tv dv b:=JB (cS (cE 24) C tv dv 12) b
noncomputable def QB(C:Cx)(dv tv':List Nat):∀(b:List Stmt) (l:List (List Nat)) (tv:List Nat),Option {p:ey//∀X:Ctx,X.C=C->cQ X.W tab->zP X tv dv tv' dv b (zU X.W.U p)}
 |[],_,tv=>bG (jg tv' tv=true) fun h=>some ⟨.nil,fun _ _ _=>zP.nil h (xR _)⟩
 |st::r,l,tv=>(cS (cE 24) C tv dv 12 st).bind fun a=>(QB C dv tv' r l.tail (l.headD [])).bind fun q=>bG (jg (l.headD []) tv=true/\jg tv' tv=true) fun h=>some ⟨.cons a.1 q.1,fun X hX ok=>zP.cons (a.2 X hX ok) (q.2 X hX ok) h.1 (xR _) h.2 (xR _)⟩
theorem vY{α:Type}{P:α->Prop}{d q:α}{r:Option {p//P p}}(h:r.isSome=true)(e:r.elim d (·.1)=q):P q:=by
 cases r with
 |none=>exact ft h
 |some x=>exact e▸x.2
theorem zP.weak{X:Ctx}{tv dv tv' dv':List Nat}{b:List Stmt}{f:Den}(h:zP X tv dv tv dv b f)(m1:jg tv' tv=true)(m2:jg dv' dv=true):zP X tv dv tv' dv' b f:=fun K env A E s₀ g N F s g' fl T e=>
 zE (h K env A E s₀ g N F s g' fl T e) fun fw s' ⟨h1,N',F',T'⟩=>⟨h1,N',F',T'.mono (qc m1) (qc m2)⟩
end
noncomputable def vZ(p:Program)(i:Nat):Option Stmt:=p.main.body[i]?
noncomputable def qn{α:Type}(o:Option Stmt)(d:α)(k:Str->Arguments->List Stmt->Scope->α):α:=(o.bind fun st=>bG (st.ctorIdx=0) fun h=>Stmt.FunctionDef.elim (motive_2:=fun _=>Option α) st h fun n a b _ _ _ s _ _ _=>some (k n a b s)).getD d
noncomputable def yN(p:Program)(i:Nat):List Stmt:=qn (vZ p i) [] fun _ _ b _=>b
noncomputable def lG(p:Program)(i:Nat):Scope:=qn (vZ p i) default fun _ _ _ s=>s
noncomputable def v5(p:Program)(i:Nat):Arguments:=qn (vZ p i) ⟨[],[],none,[],[],none,[]⟩ fun _ a _ _=>a
noncomputable def v7(p:Program)(i:Nat):Str:=qn (vZ p i) "" fun n _ _ _=>n
noncomputable def QC(p:Program)(i:Nat):List Str:=(v5 p i).args.map (·.arg)
noncomputable def QD(env:Dy)(K:Mb->Ks Fin)(H:Value->Ks Fin)(gd:Bool->Bool)(lv:List Value->List Value):D6->Ks Fin:=fun r=>((match r with| .ok f=>(.pure f:Ks Mb)| .error e=> .raise e).onRaise fun(x:Value)=>do
    if(<-field x 1)==H0 then unsupported "frame.own-activation:exception-without-traceback"
    setFlight x env.frame).wrap K H gd lv
section
variable{M:Mo}{A:Am}{R:GenEnd}{Y:Protocol}{n:Nat}{s₀:Ab}{c:Code}{fs:List Frame}{s:Ab}{env:Dy}{K:Mb->Ks Fin}{H:Value->Ks Fin}{gd:Bool->Bool}{lv:List Value->List Value}
theorem XR{target iter:Expr}{body:List Stmt}{pos:B0}(hf:∀x,Ef iter env x=pure x)
  (h:Al M (A.over c fs) (eval iter env) (fun x aa=>Al M (A.over c fs) (Hu x) (fun it s₂=>∀p,Mj M A R Y n s₀ (.forLoop target it body [] env) (M.den (.forLoop target it body [] env))
   (.ret (QD env K H gd lv) none (gd false) (lv []) c p []::fs) s₂) (fun x s'=>Mj M A R Y n s₀ c (H x) fs s') aa) (fun x s'=>Mj M A R Y n s₀ c (H x) fs s') s):
  Mj M A R Y n s₀ c ((exec (.For target iter body [] pos) env).wrap K H gd lv) fs s:=by
 rw[exec_For]
 refine Dv (Cm ?_)
 refine Dv (Bu h (fun x aa ah=>?_) fun _ _ e=>e)
 refine Dv (B5 (hf x) ?_)
 refine Dv (Cm ?_)
 refine Dv (Ea (Bu ah (fun it s₂ ai=>?_) fun _ _ e=>e))
 exact seg_call ai
theorem JE{test:Expr}{body orelse:List Stmt}{pos:B0}
  (h:Al M (A.over c fs) (Lp test env (eval test env)) (fun b s'=>if b=true then Mj M A R Y n s₀ c ((Gi body env).wrap K H gd lv) fs s' else Mj M A R Y n s₀ c ((Gi orelse env).wrap K H gd lv) fs s') (fun x s'=>Mj M A R Y n s₀ c (H x) fs s') s):
  Mj M A R Y n s₀ c ((exec (.If test body orelse pos) env).wrap K H gd lv) fs s:=by
 rw[exec_If]
 refine Dv (Cm ?_)
 refine Dv (Bu h (fun b aa ah=>?_) fun _ _ e=>e)
 cases b with
 |true=>exact ah
 |false=>exact ah
end
section
variable{prog:Program}{w:Co}{A:Am}{R:GenEnd}{Y:Protocol}{n:Nat}{s₀:Ab}{fs:List Frame}{s:Ab}{env:Dy}
noncomputable def QE(c:Code):Mb->Ks Fin
 | .next=> .pure (.again c)
 | .cont=> .pure (.again c)
 | .brk=> .pure (.done .next)
 | .ret v=> .pure (.done (.ret v))
noncomputable def CB(env:Dy):Value->Ks Fin:=fun e=>(do Hv e env;E5 e:Ks Unit).bind fun _=> .raise e
theorem QF{target:Expr}{I:Addr}{body:List Stmt}
  (h:Al (Af prog w) (A.over (.forLoop target (.ref I) body [] env) fs) (G0 (.ref I)) (fun r aa=>
    (r=none/\Mj (Af prog w) A R Y n s₀ (.block [] env) ((Af prog w).den (.block [] env)) fs aa)\/
    rj prog w (A.over (.forLoop target (.ref I) body [] env) fs) target I env (fun x s'=>Mj (Af prog w) A R Y n s₀ (.forLoop target (.ref I) body [] env) (CB env x) fs s') (fun s₂=>
     Mj (Af prog w) A R Y n s₀ (.forLoop target (.ref I) body [] env) ((Gi body env).wrap (QE (.forLoop target (.ref I) body [] env)) (CB env) id id) fs s₂) r aa)
   (fun x s'=>Mj (Af prog w) A R Y n s₀ (.forLoop target (.ref I) body [] env) (CB env x) fs s') s):
  Mj (Af prog w) A R Y n s₀ (.forLoop target (.ref I) body [] env) ((Af prog w).den (.forLoop target (.ref I) body [] env)) fs s:=by
 refine(?_:Mj _ A R Y n s₀ _ ((forTurn target (.ref I) body [] env).onRaise (fun x=>do Hv x env;E5 x)) fs s)
 refine af (Sem.onRaise_eq_wrap ..) ?_
 refine Dv (Cm ?_)
 refine Dv (Lm (Bu h (fun r aa ah=>?_) fun _ _ e=>Cm e))
 rcases ah with⟨rfl,ah⟩|⟨v,rfl,ah⟩
 ·exact seg_again rfl ah
 ·refine Dv (Bu ah (fun _ pZ fu=>?_) fun _ _ h'=>h')
  refine Dv (Bu fu (fun _ s₂ ai=>?_) fun _ _ h'=>h')
  refine af (Sem.bind_eq_wrap' ..) ?_
  refine af (Sem.wrap_wrap ..) ?_
  rw[Sem.wrap_congr (Gi body env) _ _ (K':=QE (.forLoop target (.ref I) body [] env)) (H':=CB env) (fun f=>by cases f<;>rfl) (fun e=>by rfl)]
  exact ai
theorem XS(h:Mj (Af prog w) A R Y n s₀ (.block [] env) (.pure (.done .next)) fs s):Mj (Af prog w) A R Y n s₀ (.block [] env) ((Af prog w).den (.block [] env)) fs s:=by
 refine(?_:Mj _ A R Y n s₀ _ (do return Fin.done (<-(Gi [] env).onRaise (fun x=>do Hv x env;E5 x))) fs s)
 exact h
end
section
variable{X:Ctx}{tv dv:List Nat}
theorem JF{A:Am}{R:GenEnd}{Y:Protocol}{n:Nat}{eR:Ab}{c:Code}{fs:List Frame}{s s₀:Ab}{env:Dy}{K:Mb->Ks Fin}{H:Value->Ks Fin}{gd:Bool->Bool}{lv:List Value->List Value}{st:Stmt}{rest:List Stmt}{f:Den}{KK:Addr->Option Obj}{g g':Sg}{N:Nat->List Addr}{F:List Addr}
  (hs:zN X tv dv st f) (T:ax X tv dv KK env (A.over c fs) s₀ g N F s) (hd:f g=some (g', .next))
  (h:∀N' F' s',ax X tv dv KK env (A.over c fs) s₀ g' N' F' s'->Mj (Af X.W.prog X.W.w) A R Y n eR c ((Gi rest env).wrap K H gd lv) fs s'):
  Mj (Af X.W.prog X.W.w) A R Y n eR c ((Gi (st::rest) env).wrap K H gd lv) fs s:=by
 refine E0 (seg_wrap (Bu (hs KK env (A.over c fs) (fun _ _=>False) s₀ g N F s g' .next T hd) (fun fw s' h'=>?_) fun _ _ e=>e.elim))
 obtain⟨rfl,N',F',T'⟩:=h'
 exact h N' F' s' T'
theorem QG{A:Am}{R:GenEnd}{Y:Protocol}{n:Nat}{eR:Ab}{c:Code}{fs:List Frame}{s s₀:Ab}{env:Dy}{K:Mb->Ks Fin}{H:Value->Ks Fin}{gd:Bool->Bool}{lv:List Value->List Value}{st:Stmt}{rest:List Stmt}{f:Den}{KK:Addr->Option Obj}{g g':Sg}{N:Nat->List Addr}{F fp:List Addr}
  (hs:zN X tv dv st f) (T:ax X tv dv KK env (A.over c fs) s₀ g N F s) (I:oz X tv dv env N F fp) (cV:∀b∈fp,∃o,s.heap.get? b=some o) (hd:f g=some (g', .next))
  (h:∀N' F' s',ax X tv dv KK env (A.over c fs) s₀ g' N' F' s'->(∀b∈fp,∀o,s.heap.get? b=some o->s'.heap.get? b=some o)->Mj (Af X.W.prog X.W.w) A R Y n eR c ((Gi rest env).wrap K H gd lv) fs s'):
  Mj (Af X.W.prog X.W.w) A R Y n eR c ((Gi (st::rest) env).wrap K H gd lv) fs s:=by
 refine JF hs (T.freeze I) hd fun N' F' s' T'=>h N' F' s' (T'.eQ (fun b o e=>?_) T.eG) fun b hb o e=>T'.kept b o (by rw[lD hb];exact e)
 by_cases hm:b∈fp
 ·rw[lD hm];exact T.kept b o e
 ·rw[wS hm];exact e
end
section
variable{prog:Program}{w:Co}{A:Am}{E:Value->Ab->Prop}{s:Ab}
theorem QH{a:Addr}{g n:Nat}{gs:Hb}{P:Nat->Ab->Ab->Prop}{Y:Protocol}{Q:Option Value->Ab->Prop}(hh:A.handled=none)
  (hl:s.heap.NoLimit) (aP:A.depth<recursionLimit)
  (hg:s.heap.IsGen a g) (rH:s.gens[g]?=some gs)
  (rI:gs.Goes (Af prog w) A.in1 (fun n s₀ r aa=>r= .ok (.ret .none)/\P n s₀ aa) Y n (.send .none) (s.setGen g .running))
  (hY:∀v aa oN,oN.bare=true->Y (n-1) (s.setGen g .running) v aa (fun r' bN=>match n with
    |0=>False
    |m+1=>oN.Goes (Af prog w) A.in1 (fun n s₀ r aa=>r= .ok (.ret .none)/\P n s₀ aa) Y m r' bN)->Q (some v) (aa.setGen g oN))
  (hP:∀aa,P n (s.setGen g .running) aa->∀h',(∀b o,aa.heap.get? b=some o->h'.get? b=some o)->Q none {aa.setGen g .finished with heap:=h'}):
  Al (Af prog w) A (G0 (.ref a)) Q E s:=by
 refine Ac (Jq (G7 (name:=Str.ofString "__next__") hg.typeIs slot_gen_next
  (Fj slot_gen_next hg.typeIs entry_gen_next ?_ (args_gen_next _))))
 refine(?_:Al _ A.in1 (Builtin.Generator.genWake (.ref a) (.send .none)) _ _ s)
 refine Ac (Ea (wpAny_genNumber hg (Ac (wpAny_genState rH ?_))))
 cases gs with
 |running=>exact rI.elim
 |finished=>exact rI.elim
 |_=>
  refine Ac (wpAny_roomToWake hl aP ?_)
  refine(?_:Al _ A.in1 (.resume g (.send .none) [] _) _ _ s)
  refine wpAny_resumeQ rH rI (fun x aa hx=>?_) (fun v aa oN hb hv=>?_)
  ·refine aq hx fun aG hp=>?_
   clear hx
   subst aG
   refine(?_:Al _ A.in1 (newExc (.type "StopIteration") []>>=_) _ _ _)
   refine Ac ?_
   simp only[newExc,newTuple]
   refine Ac (Cb ?_ (by size_fits))
   refine Ac (m:=I5 _ _) (B5 (a:=H0) (by first|rfl|(simp only[I5];rfl)) ?_)
   refine Cb ?_ (by size_fits)
   simp only[raiseNew]
   refine Ac (Ac (wpAny_handled ?_))
   first|refine af (show A.in1.handled=none from hh) ?_|rw[hh]
   refine wpAny_throw ?_
   refine Ac (wpAny_isInstance (T:= "StopIteration") (b:=true) ⟨_,Av _ rfl,rfl⟩ isSubtype_stop ?_)
   exact Ak (hP aa hp _ fun b o hb=>Ag _ (Ag _ hb))
  ·exact Ak ⟨v,rfl,Ak (hY v aa oN hb hv)⟩
end
noncomputable def dJ:Nat->Bool->List Nat->Int->List (Int×List Nat)
 |_,e,[],p=>if e then [(p,[92])]else []
 |i,e,c::r,_=>if e then((i:Int),[92,c])::dJ (i+1) false r i else if c==92 then dJ (i+1) true r i else((i:Int),[c])::dJ (i+1) false r i
noncomputable def xW(o:Obj):Bool:=match o.data with
 | .fields _=>true
 |_=>false
noncomputable def gQ(L:Addr)(Ka:Addr->Option Obj)(h:Ap):Addr->Option Obj:=fun b=>if b=L then none else match Ka b with
 |some o=>some o
 |none=>match h.get? b with
  |some o=>if xW o then none else some o
  |none=>none
structure Sn(L:Addr)(Ka:Addr->Option Obj)(s₀ s:Ab):Prop where
 same:yZ s₀ s
 old:∀b o,b≠L->xW o=false->s₀.heap.get? b=some o->s.heap.get? b=some o
 ka:∀b o,Ka b=some o->s.heap.get? b=some o
noncomputable def md(L:Addr)(Ka:Addr->Option Obj)(dc:List (Int×List Nat)):Protocol:=fun m s₀ v s QI=>∃(x:Int×List Nat) (T:Addr) (t1 t2:Js) (fp:List Addr),dc.reverse[m]?=some x/\v= .ref T/\IsTup s.heap T #[.int x.1 t1, .str ⟨x.2.toArray⟩ t2]/\Sn L Ka s₀ s/\T∉fp/\(L∈fp/\∃mL,s.heap.Ns L mL)/\
 (∀b∈fp,Ka b=none/\∃o,s.heap.get? b=some o/\(b=L\/xW o=true))/\
 ∀bN:Ab,(∀b∈fp,∀o,s.heap.get? b=some o->bN.heap.get? b=some o)->(∀b o,Ka b=some o->bN.heap.get? b=some o)->QI (.send .none) bN
noncomputable def oO(L:Addr)(Ka:Addr->Option Obj):GenEnd:=fun n s₀ r aa=>r= .ok (.ret .none)/\(n=0/\Sn L Ka s₀ aa)
theorem QJ{α:Type}(pre:List α)(x:α)(t:List α):(pre++x::t).reverse[t.length]?=some x:=by
 rw[List.reverse_append,List.reverse_cons,Bf,C3 (by simp)]
 simp
section
variable{X:Ctx}{L:Addr}{Ka:Addr->Option Obj}{env:Dy}{A:Am}{s₀ s:Ab}{g:Sg}{N:Nat->List Addr}{F:List Addr}
theorem ax.around{tv dv:List Nat}{K:Addr->Option Obj}{A':Am}(T:ax X tv dv K env A s₀ g N F s)(h:wO X.W.D A'):ax X tv dv K env A' s₀ g N F s:={T with room:=h}
theorem ax.sn(T:ax X [] [] (gQ L Ka s₀.heap) env A s₀ g N F s)(hL:Ka L=none)(h0:∀b o,Ka b=some o->s₀.heap.get? b=some o):Sn L Ka s₀ s where
 same:=T.same
 old:=fun b o hb hf e=>by
  cases q:Ka b with
  |some o'=>
   have h1:=T.kept b o' (by(refine eV hb ?_;exact af q rfl))
   rw[h0 b o' q]at e;obtain rfl:=Aa e;exact h1
  |none=>exact T.kept b o (by(refine eV hb ?_;(refine af q ?_;refine af e ?_));simp[hf])
 ka:=fun b o e=>T.kept b o (by(refine eV (fun q=>by rw[q,hL]at e;exact nn e) ?_;exact af e rfl))
theorem CC{h h':Ap}{p:PV}{v:Value}{ns:List Addr}(r:VR h p v ns)(hp:p.ba=true):VR h' p v []:=by
 cases r<;>first|constructor|exact ft hp
theorem ax.again{K K':Addr->Option Obj}{bN:Ab}{A':Am}(T:ax X [] [] K env A s₀ g N F s)(bW:g.β=none)(kA:∀(i:Nat) (p:PV),g.σ[i]?=some (some p)->p.ba=true)(iW:∀x,X.C.kn.lookup x≠some .cell)
  (hk:∀o,s.heap.get? env.locals=some o->bN.heap.get? env.locals=some o) (hL:K' env.locals=none) (hK:∀b o,K' b=some o->bN.heap.get? b=some o)
  (wd:∀h:Ap,(∀b o,K' b=some o->h.get? b=some o)->X.W.Wd h) (hr:wO X.W.D A'):ax X [] [] K' env A' bN g (fun _=> []) [] bN where
 fV:=T.fV
 kind:=T.kind
 names:=T.names
 gl:=T.gl
 bl:=T.bl
 room:=hr
 eP:=T.eP
 eF:=T.eF
 len:=T.len
 loc:=by obtain⟨m,h⟩:=T.loc;exact⟨m,h.at' hk⟩
 dB:=hL
 cls:=fun x c e _=>absurd e (iW x)
 rd:=fun x i p e1 e2=>by
  obtain⟨v,a,r⟩:=T.rd x i p e1 e2
  refine⟨v,?_,CC r (kA i p e2)⟩
  have oE:=(T.fV.kd x i e1).resolve_right (iW x)
  have jc:env.kindOf x=some .local:=by unfold Be;rw[T.names];exact oE
  rcases a with⟨hl,m,hn,hm⟩|⟨hl,_⟩
  ·exact .inl ⟨hl,m,hn.at' hk,hm⟩
  ·rw[jc]at hl;rcases hl with hl|hl<;>cases hl
 nd:=fun j a h=>nomatch h
 bL:=fun i h=>nomatch h
 deep:=fun i h=>nomatch h
 kept:=hK
 eG:=wd
 same:= .refl _
 book:=fun v b e=>by rw[bW]at e;exact nn e
 foot:=fun a h=>nomatch h
end
section
variable{X:Ctx}{L:Addr}{Ka:Addr->Option Obj}{env:Dy}{A:Am}{s₀ s:Ab}{g:Sg}{N:Nat->List Addr}{F:List Addr}
theorem XT{prog:Program}{w:Co}{x y:Str}{px py pt:B0}{kk:Nat}{l:List Nat}{t:Js}{e it:Addr}(cY:e≠it)(A:Am)(hh:A.handled=none):
  dH prog w A (.Tuple [.Name x px, .Name y py] kk pt) [x,y] e [e,it] [e,it] (wM 0 (l.map fun c=>PV.str [c])) (fun i h=>((∃old,IsEnum h e it i old)/\h.IsStrIter it (Gh ⟨l.toArray⟩) ⟨l.toArray⟩ t i)/\True):=by
 have hlen:(wM 0 (l.map fun c=>PV.str [c])).length=(⟨l.toArray⟩:Str).cps.size:=by simp[BN]
 have D:Draws prog w A.in1 it [it] (wM 0 (l.map fun c=>PV.str [c])).length (SignAt ⟨l.toArray⟩) (fun i h=>h.IsStrIter it (Gh ⟨l.toArray⟩) ⟨l.toArray⟩ t i):=by
  refine af hlen ?_
  unfold Gh
  split
  ·exact Draws.strAscii (A:=A.in1) hh it ⟨l.toArray⟩ t
  ·exact Draws.strWide (A:=A.in1) hh it ⟨l.toArray⟩ t
 have Wk:=WalksT.enumerateD D e cY (by simpa using cY) (by exact Bg _)
 refine dH.i9 hh Wk (fun b hb=>hb) (fun _=>True) (fun _ _ _ _=>trivial) (fun i h st _ b hb=>?_) (fun i h st b hb items n e'=>?_) (fun i it us h h' e1 e2 _ _=>⟨trivial,?_⟩)
 ·obtain⟨⟨old,h1⟩,o,h2,_⟩:=st
  rcases Ay.mp hb with rfl|hb
  ·exact cu _ h1
  ·refine af (Ae.mp hb) ?_;exact⟨o,h2⟩
 ·obtain⟨⟨old,h1⟩,o,h2,h3,h4⟩:=st
  rcases Ay.mp hb with rfl|hb
  ·rw[h1]at e';simp at e'
  ·rw[Ae.mp hb,h2]at e'
   obtain rfl:=Aa e';simp at h4
 ·refine aB (HO e1) fun p e3 cz=>?_
  subst cz
  refine dZ e2 fun tk v jL gJ=>?_
  clear e2
  refine dZ jL fun c u e4 gJ=>?_
  clear jL
  subst gJ
  subst gJ
  rw[Bj]at e3
  refine aB (Bp.mp e3) fun c' e5 cz=>?_
  subst cz
  have:c=c':=by
   have e4:l.toArray[i]?=some c:=e4
   rw[Dn,e5]at e4;obtain rfl:=Aa e4;rfl
  subst this
  refine af (Cp ..) ?_
  exact Vz _ _ ([]) rfl (.cons (n:=[]) (.int ..) (ao.one (.str [c] u))) (fun _ h=>nomatch h)
theorem JG{c:Code}{fs:List Frame}{K:Mb->Ks Fin}{H:Value->Ks Fin}{gd:Bool->Bool}{lv:List Value->List Value}{p v:Expr}{pp pv:PE}{k:Nat}{q yq ep:B0}{z:Int}{l:List Nat}{pre t dc:List (Int×List Nat)}{fp:List Addr}
  (hp:av X.W X.C p pp) (hv:av X.W X.C v pv) (rJ:yT p=true) (XU:yT v=true) (T:ax X [] [] (gQ L Ka s₀.heap) env (A.over c fs) s₀ g N F s) (hL:Ka L=none) (h0:∀b o,Ka b=some o->s₀.heap.get? b=some o)
  (e1:ev X.W.U pp g.σ=some (.int z)) (e2:ev X.W.U pv g.σ=some (.str l)) (dW:dc=pre++(z,l)::t) (rK:splitAtGen fs=none) (JH:gd false=false) (CD:fs.any Frame.guarded=false) (ja:env.scope.isCoroutine=false)
  (bg:env.locals=L) (JI:L∈fp) (cV:∀b∈fp,Ka b=none/\∃o,s.heap.get? b=some o/\(b=L\/xW o=true))
  (hn:∀s' bN:Ab,KG s s'->(∀b∈fp,∀o,s'.heap.get? b=some o->bN.heap.get? b=some o)->(∀b o,Ka b=some o->bN.heap.get? b=some o)->Mj (Af X.W.prog X.W.w) A (oO L Ka) (md L Ka dc) t.length bN c (K .next) fs bN):
  Mj (Af X.W.prog X.W.w) A (oO L Ka) (md L Ka dc) (t.length+1) s₀ c ((exec (.Expr (.Yield (some (.Tuple [p,v] k q)) yq) ep) env).wrap K H gd lv) fs s:=by
 refine seg_Expr_Yield rK JH CD ?_ ja (by unfold interactive;refine af T.kind ?_;rfl)
 refine wpAny_Tuple ?_
 refine af (zF rJ ..) ?_
 refine af (zF XU ..) ?_
 refine A8 (zE (hp env _ _ s g.σ _ T.pre e1) fun u aa ah=>?_)
 obtain⟨k₁,ns,az,_⟩:=ah
 refine A8 (zE (hv env _ _ aa g.σ _ (T.kg k₁).pre e2) fun u' s₂ ai=>?_)
 obtain⟨k₂,ms,aY,_⟩:=ai
 refine B4 ⟨by refine af Bo ?_;refine(?_:2<=16777216);decide,fun QI JJ=>?_⟩
 obtain⟨t1,rfl⟩:∃t,u= .int z t:=by cases az;exact⟨_,rfl⟩
 obtain⟨t2,rfl⟩:∃t,u'= .str ⟨l.toArray⟩ t:=by cases aY;exact⟨_,rfl⟩
 have bh:=zI (zI k₁ k₂) (pT s₂ {cls:= .type "tuple",data:= .seq #[.int z t1, .str ⟨l.toArray⟩ t2]} s₂.toks)
 have aN:=T.kg bh
 refine⟨(z,l),s₂.heap.objs.size,t1,t2,fp,by refine af dW ?_;exact QJ pre _ t,rfl,⟨_,Av _ rfl,rfl,_,rfl⟩,aN.sn hL h0,fun hm=>?_,⟨JI,by obtain⟨m,hm⟩:=aN.loc;rw[bg]at hm;exact⟨m,hm⟩⟩,fun b hb=>?_,fun bN hk iD=>?_⟩
 ·obtain⟨_,o,e,_⟩:=cV _ hm
  have:=zV (zI k₁ k₂) _ o e
  exact absurd (Bm this) (Jk _)
 ·obtain⟨h1,o,e,h2⟩:=cV b hb
  exact⟨h1,o,zV bh b o e,h2⟩
 ·exact JJ .none bN (hn _ bN bh hk iD)
end
theorem ax.rL{X:Ctx}{tv dv:List Nat}{K:Addr->Option Obj}{env:Dy}{A:Am}{s₀ s:Ab}{g:Sg}{N:Nat->List Addr}{F:List Addr}(T:ax X tv dv K env A s₀ g N F s)(h:g.β=none):ax X tv dv K env A s₀ g N [] s:=
 {T with
  book:=fun v b e=>by rw[h]at e;exact nn e
  foot:=fun a ha=>nomatch ha}
noncomputable def kJ(al:List Nat)(p:Int)(e:Bool)(o:Option PV):Sg:=⟨[some (.str al),some (.int p),some (.bool e),o],none⟩
section
variable{X:Ctx}{L eA dp:Addr}{Ka:Addr->Option Obj}{env:Dy}{A:Am}{al:List Nat}{tA:Js}{dc:List (Int×List Nat)}
set_option genSizeOf false in
set_option genInjectivity false in
structure EP where
 xp:Str
 xc:Str
 xa:Str
 QK:B0
 CE:B0
 pt:B0
 kt:Nat
 e1:Expr
 e2:Expr
 e3:Expr
 p1:Expr
 v1:Expr
 p2:Expr
 v2:Expr
 p3:Expr
 v3:Expr
 a1:Stmt
 a2:Stmt
 a0:Stmt
 b0:Stmt
 k1:Nat
 k2:Nat
 k3:Nat
 q1:B0
 XW:B0
 XX:B0
 q2:B0
 XY:B0
 XZ:B0
 q3:B0
 JK:B0
 JL:B0
 X1:B0
 X2:B0
 JM:B0
 X3:B0
 X4:B0
 X5:B0
 fp:B0
noncomputable abbrev JN(P:EP):Expr:= .Tuple [.Name P.xp P.QK, .Name P.xc P.CE] P.kt P.pt
noncomputable abbrev CF(P:EP):List Stmt:=
 [.If P.e1 [.Expr (.Yield (some (.Tuple [P.p1,P.v1] P.k1 P.q1)) P.XW) P.XX,P.a1] [.If P.e2 [P.a2] [.Expr (.Yield (some (.Tuple [P.p2,P.v2] P.k2 P.q2)) P.XY) P.XZ] P.X2] P.X1]
structure EscOk(X:Ctx)(L:Addr)(Ka:Addr->Option Obj)(env:Dy)(P:EP):Prop where
 gR:X.C.Γ.lookup P.xp=some 1
 bI:X.C.Γ.lookup P.xc=some 3
 nc:∀x,X.C.kn.lookup x≠some .cell
 nf:∀x,X.C.kn.lookup x≠some .free
 loc:env.locals=L
 co:env.scope.isCoroutine=false
 qo:Ka L=none
 wa:∀h:Ap,(∀b o,Ka b=some o->h.get? b=some o)->X.W.Wd h
 t1:du X.W X.C P.e1 (.eO (.var 2))
 t2:du X.W X.C P.e2 (.cmp .Eq (.var 3) (.lit (.str [92])))
 nz:av X.W X.C P.p1 (.var 1)
 tY:av X.W X.C P.v1 (.bin .Add (.lit (.str [92])) (.var 3))
 nA:av X.W X.C P.p2 (.var 1)
 tZ:av X.W X.C P.v2 (.var 3)
 s1:yT P.p1=true/\yT P.v1=true/\yT P.p2=true/\yT P.v2=true
 QL:zN X [] [] P.a1 (den X.W.U (.assign 2 (.lit (.bool false))))
 QM:zN X [] [] P.a2 (den X.W.U (.assign 2 (.lit (.bool true))))
variable{P:EP}
theorem X6{al:List Nat}{p:Int}{e:Bool}{o:Option PV}(ho:∀q,o=some q->q.ba=true):∀(i:Nat) (q:PV),(kJ al p e o).σ[i]?=some (some q)->q.ba=true:=by
 intro i q h
 unfold kJ at h
 match i,h with
 |0,h=>cases h;rfl
 |1,h=>cases h;rfl
 |2,h=>cases h;rfl
 |3,h=>exact ho q (by simpa using h)
 |_+4,h=>simp at h
theorem X7{h:Ap}{e it:Addr}{i:Int}{old:Value}(x:IsEnum h e it i old):∃o,h.get? e=some o/\xW o=true:=⟨_,x,rfl⟩
theorem X8{h:Ap}{it:Addr}{T:String}{x:Str}{t:Js}{i:Nat}(y:h.IsStrIter it T x t i):∃o,h.get? it=some o/\xW o=true:=by
 refine lh y fun o h1 h2 h3=>?_
 refine i12 o h1 ?_
 unfold xW
 first|rw[h3]|rw[h2]
theorem X9{s:Ap}{b:Addr}(h1:Ka b=none)(h2:s.get? b=none\/∃o,s.get? b=some o/\xW o=true):gQ L Ka s b=none:=by
 unfold gQ
 split
 ·rfl
 ·rw[h1]
  rcases h2 with h2|⟨o,h2,h3⟩
  ·rw[h2]
  ·rw[h2];simp[h3]
theorem QN{s:Ap}(h0:∀b o,Ka b=some o->s.get? b=some o):∀b o,gQ L Ka s b=some o->s.get? b=some o:=by
 intro b o h
 unfold gQ at h
 split at h
 ·exact nn h
 ·split at h
  ·rename_i o' e;obtain rfl:=Aa h;exact h0 b _ e
  ·split at h
   ·rename_i o' e
    split at h
    ·exact nn h
    ·obtain rfl:=Aa h;exact e
   ·exact nn h
theorem QO{s:Ap}(hL:Ka L=none)(h:∀h:Ap,(∀b o,Ka b=some o->h.get? b=some o)->X.W.Wd h):∀h:Ap,(∀b o,gQ L Ka s b=some o->h.get? b=some o)->X.W.Wd h:=fun h' k=>h h' fun b o e=>k b o (by
 (refine eV (fun q=>by rw[q,hL]at e;exact nn e) ?_;rw[e]))
inductive iE(h:Ap)(al:List Nat)(tA:Js)(eA dp:Addr)(i:Nat):Prop
 |mk (old:Value) (e:IsEnum h eA dp i old) (s:h.IsStrIter dp (Gh ⟨al.toArray⟩) ⟨al.toArray⟩ tA i):iE h al tA eA dp i
theorem iE.up{h h':Ap}{i:Nat}(x:iE h al tA eA dp i)(k:∀b∈[eA,dp],∀o,h.get? b=some o->h'.get? b=some o):iE h' al tA eA dp i:=by
 obtain⟨old,e,o,g1,g2⟩:=x
 exact⟨old,k _ (.head _) _ e,o,k _ (.tail _ (.head _)) _ g1,g2⟩
theorem iE.fld{h:Ap}{i:Nat}(x:iE h al tA eA dp i):∀b∈[eA,dp],∃o,h.get? b=some o/\xW o=true:=by
 obtain⟨old,e,s⟩:=x
 exact fa (X7 e) (fa (X8 s) dO)
noncomputable abbrev wb(h:Ap)(l:List Addr):Prop:=∀b∈l,h.get? b=none\/∃o,h.get? b=some o/\xW o=true
theorem iE.loose{h:Ap}{i:Nat}(x:iE h al tA eA dp i):wb h [eA,dp]:=fun b hb=> .inr (x.fld b hb)
theorem Ya{o:Obj}{items:Array Value}{n:Nat}(hf:xW o=true)(e:o={cls:= .type "list",data:= .seq items n}):False:=by
 rw[e]at hf;exact ft hf
theorem iE.off{A':Am}{K':Addr->Option Obj}{s₀ s:Ab}{g:Sg}{N:Nat->List Addr}{F:List Addr}{i:Nat}(x:iE s.heap al tA eA dp i)(T:ax X [] [] K' env A' s₀ g N F s):env.locals∉ [eA,dp]/\∀j,∀a∈N j,a∉ [eA,dp]:=by
 refine bZ (fun hm=>?_) (fun j a ha hm=>?_)
 ·refine aB (x.fld _ hm) fun o e hf=>?_
  refine qY T.loc fun m o' es ep e' hd _=>?_
  rw[<-Aa (e'.symm.trans e),xW,hd]at hf;exact ft hf
 ·refine aB (x.fld _ hm) fun o e hf=>?_
  refine fT (T.nd j a ha) fun items n e'=>?_
  exact Ya hf (Aa (e.symm.trans e'))
theorem QP{A':Am}{s₀ s:Ab}{g:Sg}{N:Nat->List Addr}{h':Ap}{tk i:Nat}(nc:∀x,X.C.kn.lookup x≠some .cell)(nf:∀x,X.C.kn.lookup x≠some .free)(hK:∀b∈[eA,dp],Ka b=none)(T:ax X [] [] (gQ L Ka s₀.heap) env A' s₀ g N [] s)(fl:wb s₀.heap [eA,dp])(x:iE s.heap al tA eA dp i)
  (hk:∀b o,b∉ [eA,dp]->s.heap.get? b=some o->h'.get? b=some o):ax X [] [] (gQ L Ka s₀.heap) env A' s₀ g N [] {s with heap:=h',toks:=tk}:=
 T.other hk (x.off T).1 (fun x c e=>absurd e (nc x)) (fun _ h=>(Aq h).elim) (x.off T).2 (fun b hb=>X9 (hK b hb) (fl b hb)) (fun x c e=>absurd e (nf x))
theorem QQ{A':Am}{K':Addr->Option Obj}{s₀ s:Ab}{g:Sg}{N:Nat->List Addr}{i:Nat}(nc:∀x,X.C.kn.lookup x≠some .cell)(x:iE s.heap al tA eA dp i)(T:ax X [] [] K' env A' s₀ g N [] s):oz X [] [] env N [] [eA,dp]:=
 ⟨(x.off T).1,fun x c e _=>absurd e (nc x),fun _ h=>(Aq h).elim,fun _ h=>(Aq h).elim,fun _ h=>(Aq h).elim⟩
theorem QR{h:Ap}{l:List Addr}(x:∀b∈l,∃o,h.get? b=some o/\xW o=true):∀b∈l,∃o,h.get? b=some o:=fun b hb=>(x b hb).elim fun o e=>⟨o,e.1⟩
theorem Yb{i:Int}{e:Bool}{c:Nat}:∀(j:Nat) (q:PV),(kJ al i e (some (.str [c]))).σ[j]?=some (some q)->q.ba=true:=X6 fun q h=>by rw[<-Aa h];rfl
theorem Yc(H:EscOk X L Ka env P)(hK:∀b∈[eA,dp],Ka b=none){cd:Code}{fs:List Frame}{K':Mb->Ks Fin}{Hh:Value->Ks Fin}(rK:splitAtGen fs=none)(CD:fs.any Frame.guarded=false){c:Nat}{r:List Nat}{i:Nat}{p:Int}{e:Bool}{pre:List (Int×List Nat)}{s₀ ak:Ab}{N:Nat->List Addr}
  (dW:dc=pre++dJ i e (c::r) p) (aN:ax X [] [] (gQ L Ka s₀.heap) env (A.over cd fs) s₀ (kJ al i e (some (.str [c]))) N [] ak) (h0:∀b o,Ka b=some o->s₀.heap.get? b=some o) (fl:wb s₀.heap [eA,dp]) (x:iE ak.heap al tA eA dp (i+1))
  (back:∀(e':Bool) (eh:List (Int×List Nat)) (aa s':Ab) (N':Nat->List Addr) (F':List Addr),dc=eh++dJ (i+1) e' r i->ax X [] [] (gQ L Ka aa.heap) env (A.over cd fs) aa (kJ al i e' (some (.str [c]))) N' F' s'->(∀b o,Ka b=some o->aa.heap.get? b=some o)->wb aa.heap [eA,dp]->iE s'.heap al tA eA dp (i+1)->
   Mj (Af X.W.prog X.W.w) A (oO L Ka) (md L Ka dc) (dJ (i+1) e' r i).length aa cd (K' .next) fs s'):
  Mj (Af X.W.prog X.W.w) A (oO L Ka) (md L Ka dc) (dJ i e (c::r) p).length s₀ cd ((Gi (CF P) env).wrap K' Hh id id) fs ak:=by
 have bg:∃o,ak.heap.get? L=some o:=by
  refine tL aN.loc fun m o' _ _ e' _=>?_
  exact cu o' (H.loc▸e')
 have cV:∀{s':Ab},KG ak s'->∀b∈[L,eA,dp],Ka b=none/\∃o,s'.heap.get? b=some o/\(b=L\/xW o=true):=fun k=>fa (bg.elim fun o e=>⟨H.qo,o,zV k _ _ e, .inl rfl⟩) fun b hb=>(x.fld b hb).elim fun o e=>⟨hK b hb,o,zV k _ _ e.1, .inr e.2⟩
 have again:∀{e':Bool} {s' bN:Ab},ax X [] [] (gQ L Ka s₀.heap) env (A.over cd fs) s₀ (kJ al i e' (some (.str [c]))) N [] ak->KG ak s'->(∀b∈[L,eA,dp],∀o,s'.heap.get? b=some o->bN.heap.get? b=some o)->(∀b o,Ka b=some o->bN.heap.get? b=some o)->
   ax X [] [] (gQ L Ka bN.heap) env (A.over cd fs) bN (kJ al i e' (some (.str [c]))) (fun _=> []) [] bN/\iE bN.heap al tA eA dp (i+1):=fun {e' s' bN} T' k hk iD=>by
  refine bZ (ax.again T' rfl Yb H.nc (fun o e=>hk _ (by rw[H.loc];exact Aj ..) o (zV k _ o e)) ?_ (QN iD) (QO H.qo H.wa) T'.room) (x.up fun b hb o e=>hk b (.tail _ hb) o (zV k _ _ e))
  rw[H.loc];exact xT rfl rfl
 refine E0 (JE ?_)
 refine zE (H.t1 env _ _ ak _ e aN.pre rfl) fun b aU aW=>?_
 refine aq aW fun aG cn=>?_
 clear aW
 subst aG
 have bS:=aN.kg cn
 cases b with
 |true=>
  rw[if_pos rfl]
  have he:dJ i true (c::r) p=((i:Int),[92,c])::dJ (i+1) false r i:=rfl
  rw[he]at dW⊢
  refine E0 (JG (pre:=pre) (t:=dJ (i+1) false r i) (fp:=[L,eA,dp]) H.nz H.tY H.s1.1 H.s1.2.1 bS H.qo h0 (z:=i) (l:=[92,c]) rfl ?_ dW rK rfl CD H.co H.loc (.head _) (cV cn) fun s' bN k hk iD=>?_)
  ·refine(?_:(if [92].length+[c].length<=ag then some (PV.str ([92]++[c]))else none)=_)
   refine xT (by refine(?_:2<=16777216);decide) ?_;rfl
  ·refine aq (again aN (zI cn k) hk iD) fun dE iF=>?_
   refine QG (fp:=[eA,dp]) H.QL dE (QQ H.nc iF dE) (QR iF.fld) (g':=kJ al i false (some (.str [c]))) rfl fun JO JP s₆ dU kf=>?_
   exact Dq (Dq (back false (pre++[((i:Int),[92,c])]) _ _ _ _ (by rw[dW,Bf];rfl) dU iD iF.loose (iF.up kf)))
 |false=>
  rw[if_neg Bt]
  refine E0 (JE ?_)
  refine zE (H.t2 env _ _ aU _ (c==92) bS.pre (by refine(?_:some ([c]==[92])=_);simp)) fun b cN dQ=>?_
  refine aq dQ fun aG eX=>?_
  clear dQ
  subst aG
  have CG:=zI cn eX
  have dE:=aN.kg CG
  have iF:=x.up fun b _ o e=>zV CG b o e
  have he:dJ i false (c::r) p=if c==92 then dJ (i+1) true r i else((i:Int),[c])::dJ (i+1) false r i:=rfl
  rw[he]at dW⊢
  cases hc:(c==92)with
  |true=>
   rw[if_pos rfl]
   rw[hc,if_pos rfl]at dW
   rw[if_pos rfl]
   refine QG (fp:=[eA,dp]) H.QM dE (QQ H.nc iF dE) (QR iF.fld) (g':=kJ al i true (some (.str [c]))) rfl fun JO JP s₆ dU kf=>?_
   exact Dq (Dq (Dq (back true pre _ _ _ _ dW dU h0 fl (iF.up kf))))
  |false=>
   rw[if_neg Bt]
   rw[hc,if_neg Bt]at dW
   rw[if_neg Bt]
   refine E0 (JG (pre:=pre) (t:=dJ (i+1) false r i) (fp:=[L,eA,dp]) H.nA H.tZ H.s1.2.2.1 H.s1.2.2.2 dE H.qo h0 (z:=i) (l:=[c]) rfl rfl dW rK rfl CD H.co H.loc (.head _) (cV CG) fun s' bN k hk iD=>?_)
   refine aq (again aN (zI CG k) hk iD) fun dU wc=>?_
   exact Dq (Dq (Dq (back false (pre++[((i:Int),[c])]) _ _ _ _ (by rw[dW,Bf];rfl) dU iD wc.loose wc)))
theorem Yd{l:List PV}{k i:Nat}{q:PV}(h:l[i]?=some q):(wM k l)[i]?=some [.int ((k+i:Nat):Int),q]:=by
 induction l generalizing k i with
 |nil=>exact nn h
 |cons a l ih=>
  cases i with
  |zero=>rw[<-Aa h];rfl
  |succ i=>
   have:=ih (k:=k+1) (i:=i) h
   rw[C5,Em 1]at this
   exact this
theorem Ye(H:EscOk X L Ka env P)(cY:eA≠dp)(hK:∀b∈[eA,dp],Ka b=none){k:D6->Ks Fin}{l0:List Value}{cF cL:Code}{pF:B0}(hh:A.handled=none)
  (BX:cL= .forLoop (JN P) (.ref eA) (CF P) [] env) (aP:wO X.W.D (A.over cL [.ret k none false l0 cF pF []]))
  (JQ:∀(p:Int) (e:Bool) (o:Option PV) (pre:List (Int×List Nat)) (s₀ s:Ab) (N:Nat->List Addr),(∀q,o=some q->q.ba=true)->dc=pre++(if e then [(p,[92])]else [])->
   (∀A',wO X.W.D A'->ax X [] [] (gQ L Ka s₀.heap) env A' s₀ (kJ al p e o) N [] s)->(∀b o,Ka b=some o->s₀.heap.get? b=some o)->
   Mj (Af X.W.prog X.W.w) A (oO L Ka) (md L Ka dc) (if e then [(p,[92])]else([]:List (Int×List Nat))).length s₀ cF (k (.ok .next)) [] s):
  ∀(r:List Nat) (i:Nat) (p:Int) (e:Bool) (o:Option PV) (pre:List (Int×List Nat)) (s₀ s:Ab) (N:Nat->List Addr) (F:List Addr),al.drop i=r->i<=al.length->(∀q,o=some q->q.ba=true)->dc=pre++dJ i e r p->
   ax X [] [] (gQ L Ka s₀.heap) env (A.over cL [.ret k none false l0 cF pF []]) s₀ (kJ al p e o) N F s->(∀b o,Ka b=some o->s₀.heap.get? b=some o)->wb s₀.heap [eA,dp]->iE s.heap al tA eA dp i->
   Mj (Af X.W.prog X.W.w) A (oO L Ka) (md L Ka dc) (dJ i e r p).length s₀ cL ((Af X.W.prog X.W.w).den cL) [.ret k none false l0 cF pF []] s:=by
 subst BX
 intro r
 have Y:=XT (prog:=X.W.prog) (w:=X.W.w) (x:=P.xp) (y:=P.xc) (px:=P.QK) (py:=P.CE) (pt:=P.pt) (kk:=P.kt) (l:=al) (t:=tA) cY _ aP.hh
 induction r with
 |nil=>
  intro i p e o pre s₀ s N F dN hi ho dW T h0 fl x
  have T:=T.rL rfl
  have nE:(wM 0 (al.map fun c=>PV.str [c])).length=i:=by
   rw[BN,An];exact Ij (Ed.mp dN) hi
  refine QF (Y.done s _ _ (by rw[nE];exact x.casesOn fun _ hE hS=>⟨⟨⟨_,hE⟩,hS⟩,trivial⟩) fun h' tk hk=> .inl ⟨rfl,?_⟩)
  exact XS (seg_leaf (.ok .next) (JQ p e o pre s₀ _ N ho dW (fun A' hr=>(QP H.nc H.nf hK T fl x hk).around hr) h0))
 |cons c r ih=>
  intro i p e o pre s₀ s N F dN hi ho dW T h0 fl x
  have T:=T.rL rfl
  have QS:al[i]?=some c:=by rw[<-List.head?_drop,dN];rfl
  have rM:al.drop (i+1)=r:=by rw[<-I6,dN];rfl
  have hit:=Yd (k:=0) (l:=al.map fun c=>PV.str [c]) (i:=i) (q:= .str [c]) (by rw[Bj,QS];rfl)
  rw[Cp]at hit
  refine QF (zE (Y.item i _ s env _ _ hit (x.casesOn fun _ hE hS=>⟨⟨⟨_,hE⟩,hS⟩,trivial⟩) fun us ms ai bU gb fv hlen cD aD=>?_) fun r aa h=> .inr h)
  have aw:=QP (tk:=bU) H.nc H.nf hK T fl x aD
  obtain rfl:=gb.aC rfl
  have oP:iE ai al tA eA dp (i+1):=cD.1.1.elim fun _ e=>⟨_,e,cD.1.2⟩
  refine Ql (is:=[1,3]) (.cons H.gR (.cons H.bI .nil)) aw gb hlen (fun _ _=>⟨fun h=>(Aq h).elim,fun h=>(Aq h).elim⟩) ew.nil fun fF ak aN _ kp=>?_
  have aN:ax X [] [] (gQ L Ka s₀.heap) env _ s₀ (kJ al i e (some (.str [c]))) fF [] ak:=aN.rL rfl
  exact Yc H hK rfl rfl dW aN h0 fl (oP.up fun b hb o e=>kp b o (fun q=>(oP.off aw).1 (q▸hb)) (fun y d e1 _=>absurd e1 (H.nc y)) e) fun e' eh aa s' N' F' hl T' CH Yf x'=>
   seg_again rfl (ih (i+1) i e' (some (.str [c])) eh aa s' N' F' rM (Bc.mp QS).1 (fun q h=>by rw[<-Aa h];rfl) hl T' CH Yf x')
end
theorem Sn.we{L:Addr}{Ka:Addr->Option Obj}{s:Ab}(h:∀b o,Ka b=some o->s.heap.get? b=some o):Sn L Ka s s:=⟨.refl _,fun _ _ _ _ e=>e,h⟩
section
variable{X:Ctx}{L:Addr}{Ka:Addr->Option Obj}{env:Dy}{A:Am}{al:List Nat}
variable{P:EP}
noncomputable abbrev oQ(P:EP):List Stmt:=
 [P.a0,P.b0, .For (JN P) (.Call (.Name ("enumerate" :Str) P.X3) [.Name P.xa P.X4] [] P.X5) (CF P) [] P.fp,
  .If P.e3 [.Expr (.Yield (some (.Tuple [P.p3,P.v3] P.k3 P.q3)) P.JK) P.JL] [] P.JM]
structure QT(X:Ctx)(L:Addr)(Ka:Addr->Option Obj)(env:Dy)(P:EP):Prop extends EscOk X L Ka env P where
 hx:X.C.Γ.lookup P.xa=some 0
 bad:bad P.xa=false
 ke:X.C.kn.lookup ("enumerate" :Str)=some .globalImplicit
 ge:X.W.mg "enumerate" =none
 be:X.W.mb "enumerate" =some (.type "enumerate")
 t3:du X.W X.C P.e3 (.eO (.var 2))
 QU:av X.W X.C P.p3 (.var 1)
 QV:av X.W X.C P.v3 (.lit (.str [92]))
 s3:yT P.p3=true/\yT P.v3=true
 QW:zN X [] [] P.a0 (den X.W.U (.assign 1 (.lit (.int 0))))
 CI:zN X [] [] P.b0 (den X.W.U (.assign 2 (.lit (.bool false))))
theorem Yg{h:Ap}{a:Addr}(cY:a≠L)(h1:gQ L Ka h a=none):Ka a=none/\(h.get? a=none\/∃o,h.get? a=some o/\xW o=true):=by
 unfold gQ at h1
 rw[if_neg cY]at h1
 cases q:Ka a with
 |some o=>rw[q]at h1;exact sn h1
 |none=>
  rw[q]at h1
  refine bZ rfl ?_
  cases q2:h.get? a with
  |none=>exact .inl rfl
  |some o=>
   rw[q2]at h1
   by_cases hf:xW o=true
   ·exact .inr ⟨o,rfl,hf⟩
   ·exact sn ((if_neg hf).symm.trans h1)
theorem Yh(H:QT X L Ka env P)(hh:A.handled=none){s₀ s:Ab}{N:Nat->List Addr}{F:List Addr}
  (rN:wO X.W.D (A.over (.func (oQ P) env) []))
  (rO:∀eA k p,wO X.W.D (A.over (.forLoop (JN P) (.ref eA) (CF P) [] env) [.ret k none false [] (.func (oQ P) env) p []]))
  (T:ax X [] [] (gQ L Ka s₀.heap) env (A.over (.func (oQ P) env) []) s₀ ⟨[some (.str al),none,none,none],none⟩ N F s)
  (h0:∀b o,Ka b=some o->s₀.heap.get? b=some o):
  Mj (Af X.W.prog X.W.w) A (oO L Ka) (md L Ka (dJ 0 false al 0)) (dJ 0 false al 0).length s₀ (.func (oQ P) env)
   ((Af X.W.prog X.W.w).den (.func (oQ P) env)) [] s:=by
 refine seg_func ?_
 generalize HT:Code.func (oQ P) env=cF at*
 refine JF H.QW T (g':=⟨[some (.str al),some (.int 0),none,none],none⟩) rfl fun wg rP aa aR=>?_
 refine JF H.CI aR (g':=kJ al 0 false none) rfl fun rQ oR s₂ aw=>?_
 have aw:=aw.rL rfl
 refine E0 (XR (fun x=>wW rfl env x) ?_)
 obtain⟨v,cq,rv⟩:=aw.rd P.xa 0 (.str al) H.hx rfl
 have Yi:VR s₂.heap (.str al) v []:=CC rv rfl
 obtain⟨tA,rfl⟩:∃t,v= .str ⟨al.toArray⟩ t:=Yi.inv.elim fun t e=>⟨t,e.1⟩
 refine Er rfl ?_
 refine A6 aw.kind (by unfold Be;rw[aw.names];exact H.ke) (C1 (mg:=X.W.mg) (mb:=X.W.mb) ?_ H.ge ?_ H.be ?_) (by decide)
 ·rw[aw.gl];exact X.W.g aw.pre.wd
 ·rw[aw.bl];exact X.W.b aw.pre.wd
 refine Cn ?_ (zF rfl [] env) rfl
 rw[zF rfl [] env]
 refine A8 (Bq (zS aw.kind cq ?_ (wP H.bad)) (wD H.bad))
 refine B4 ?_
 refine call_enumerate_str fun h' hE hS hsz up=>?_
 refine wpAny_pyIter_enum hE fun p=>?_
 have aN:=aw.kg (jH _ h' s₂.toks up)
 have kN:∀j,Ka (s₂.heap.objs.size+j)=none/\(s₀.heap.get? (s₂.heap.objs.size+j)=none\/∃o,s₀.heap.get? (s₂.heap.objs.size+j)=some o/\xW o=true):=fun j=>Yg (fun q=>by
   refine tL aw.loc fun m o _ _ e _=>?_
   rw[H.loc,<-q,yP]at e;exact nn e) (rB aw.kept (yP j))
 have k0:=kN 0
 rw[Nat.add_zero]at k0
 have QX:=rO (s₂.heap.objs.size+1) (QD env (fun f=>match f with
   | .next=>(Gi [.If P.e3 [.Expr (.Yield (some (.Tuple [P.p3,P.v3] P.k3 P.q3)) P.JK) P.JL] [] P.JM] env).wrap (fun f=> .pure (.done (.ret (match f with| .ret v=>v|_=> .none)))) (fun e=>(leaving env e).wrap (fun _=> .raise e) .raise id id) id id
   |f=> .pure (.done (.ret (match f with| .ret v=>v|_=> .none)))) (fun e=>(leaving env e).wrap (fun _=> .raise e) .raise id id) id id) p
 refine Ye (tA:=tA) H.toEscOk (Nat.succ_ne_self _) (fa (kN 1).1 (fa k0.1 dO)) (al:=al) hh rfl QX ?_ al 0 0 false none [] s₀ _ _ _ (Dz) (C2 _) (fun q h=>nn h) rfl (aN.around QX) h0 (fa (kN 1).2 (fa k0.2 dO)) ⟨_,hE,hS⟩
 intro p' e o pre eR s' N' ho hL hT CH
 refine(?_:Mj _ _ _ _ _ _ _ ((Gi [.If P.e3 [.Expr (.Yield (some (.Tuple [P.p3,P.v3] P.k3 P.q3)) P.JK) P.JL] [] P.JM] env).wrap _ _ id id) [] s')
 have T':=hT _ rN
 refine E0 (JE ?_)
 refine zE (H.t3 env _ _ s' _ e T'.pre rfl) fun b aU aW=>?_
 refine aq aW fun aG cn=>?_
 clear aW
 subst aG
 have bS:=T'.kg cn
 cases b with
 |true=>
  rw[if_pos rfl]
  have BY:dJ 0 false al 0=pre++(p',[92])::[]:=hL
  refine E0 (JG (pre:=pre) (t:=[]) (fp:=[L]) H.QU H.QV H.s3.1 H.s3.2 bS H.qo CH (z:=p') (l:=[92]) rfl rfl BY rfl rfl rfl H.co H.loc (by exact Bg _) (fun b hb=>?_) fun s5 s6 k hk iD=>?_)
  ·rw[Ae.mp hb]
   refine tL bS.loc fun m o' _ _ e' _=>?_
   rw[H.loc]at e'
   exact⟨H.qo,o',e', .inl rfl⟩
  ·refine Dq (Dq ?_)
   exact seg_end (.ok (.ret .none)) ⟨rfl,rfl,Sn.we iD⟩
 |false=>
  rw[if_neg Bt]
  refine Dq (Dq ?_)
  exact seg_end (.ok (.ret .none)) ⟨rfl,rfl,bS.sn H.qo CH⟩
end
structure GS(prog:Program)(w:Co)(A':Am)(L a:Addr)(g:Nat)(Ka:Addr->Option Obj)(dc rem:List (Int×List Nat))(fp:List Addr)(s:Ab):Prop where
 gy:s.heap.IsGen a g
 wh:∃o,Ka a=some o
 pre:∃pre,dc=pre++rem
 uh:L∈fp/\∃mL,s.heap.Ns L mL
 rR:∀b∈fp,Ka b=none/\∃o,s.heap.get? b=some o/\(b=L\/xW o=true)
 ka:∀b o,Ka b=some o->s.heap.get? b=some o
 CJ:∃gs,s.gens[g]?=some gs/\gs.bare=true/\∀bN:Ab,(∀b∈fp,∀o,s.heap.get? b=some o->bN.heap.get? b=some o)->(∀b o,Ka b=some o->bN.heap.get? b=some o)->
  gs.Goes (Af prog w) A' (oO L Ka) (md L Ka dc) rem.length (.send .none) bN
theorem QY{s:Ab}{g:Nat}{x:Hb}(h:∃y,s.gens[g]?=some y):(s.setGen g x).gens[g]?=some x:=by
 refine aH h fun y h=>?_
 have aX:=(Gk.mp h).1
 refine(?_:(s.gens.setIfInBounds g x)[g]?=some x)
 simp[aX]
theorem QZ{s:Ab}{g i:Nat}{x:Hb}(h:i≠g):(s.setGen g x).gens[i]?=s.gens[i]?:=by
 refine(?_:(s.gens.setIfInBounds g x)[i]?=_)
 rw[Array.getElem?_setIfInBounds_ne (Hj h)]
theorem Q0{s:Ab}{g:Nat}{x:Hb}(h:L5 s.gens)(hx:x.bare=true):L5 (s.setGen g x).gens:=fun y hy=>by
 change y∈s.gens.setIfInBounds g x at hy
 rcases Array.mem_or_eq_of_mem_setIfInBounds hy with h1|h1
 ·exact h y h1
 ·exact h1▸hx
structure Tn(L:Addr)(g:Nat)(Ka:Addr->Option Obj)(s aa:Ab):Prop where
 eq:∃h t gs,aa={s with heap:=h,toks:=t,gens:=gs}
 old:∀b o,b≠L->xW o=false->s.heap.get? b=some o->aa.heap.get? b=some o
 ka:∀b o,Ka b=some o->aa.heap.get? b=some o
 gens:∀(i:Nat) x,i≠g->s.gens[i]?=some x->aa.gens[i]?=some x
 bare:L5 s.gens->L5 aa.gens
theorem Tn.of{L:Addr}{g:Nat}{Ka:Addr->Option Obj}{s aa:Ab}{x:Hb}(hx:x.bare=true)(h:Sn L Ka (s.setGen g .running) aa):Tn L g Ka s (aa.setGen g x):=by
 obtain⟨⟨h',t,gs,rfl,e⟩,h2,h3⟩:=h
 refine⟨⟨h',t,_,rfl⟩,h2,h3,fun i y hi hy=>?_,fun hb=>?_⟩
 ·rw[QZ hi]
  exact e.get i y (by rw[QZ hi];exact hy)
 ·exact Q0 (e.bare (Q0 hb rfl)) hx
theorem Yj{prog:Program}{w:Co}{A:Am}{L a:Addr}{g:Nat}{Ka:Addr->Option Obj}{dc rem:List (Int×List Nat)}{x:Int×List Nat}{fp:List Addr}{s:Ab}{E:Value->Ab->Prop}(G:GS prog w A.in1 L a g Ka dc (x::rem) fp s)(hh:A.handled=none)(hl:s.heap.NoLimit)(hd:A.depth<recursionLimit):
  Al (Af prog w) A (G0 (.ref a)) (fun r aa=>∃T t1 t2 fp',r=some (.ref T)/\IsTup aa.heap T #[.int x.1 t1, .str ⟨x.2.toArray⟩ t2]/\GS prog w A.in1 L a g Ka dc rem fp' aa/\Tn L g Ka s aa) E s:=by
 refine aH G.pre fun pre oS=>?_
 refine lh G.CJ fun gs rH hb rI=>?_
 refine QH hh hl hd G.gy rH (rI (s.setGen g .running) (fun _ _ _ e=>e) G.ka) (fun v aa oN kr hY=>?_) (fun aa hP=>?_)
 ·have hY:md L Ka dc rem.length (s.setGen g .running) v aa (fun r' bN=>oN.Goes (Af prog w) A.in1 (oO L Ka) (md L Ka dc) rem.length r' bN):=hY
  obtain⟨x',T,t1,t2,fp',h1,rfl,h3,h4,h5,h6,h7,h8⟩:=hY
  have hx:x'=x:=by
   rw[oS,QJ]at h1;obtain rfl:=Aa h1;rfl
  subst hx
  have vy:∃y,aa.gens[g]?=some y:=by
   obtain⟨_,_,_,rfl,e⟩:=h4.same
   exact cu _ (e.get g .running (QY ⟨gs,rH⟩))
  refine VB T t1 t2 fp' rfl h3 ⟨?_,G.wh,⟨pre++[x'],by rw[oS,Bf];rfl⟩,h6,h7,h4.ka,oN,QY vy,kr,fun bN k1 k2=>h8 bN k1 k2⟩ (Tn.of kr h4)
  refine qX G.gy fun o i vs e1 e2=>?_
  refine aH G.wh fun o' e3=>?_
  have e4:=G.ka a o' e3
  rw[e1]at e4;obtain rfl:=Aa e4
  exact OS o i vs (h4.ka a o e3) e2
 ·refine aq hP fun h1 _=>?_
  cases h1
theorem Yk{prog:Program}{w:Co}{A:Am}{L a:Addr}{g:Nat}{Ka:Addr->Option Obj}{dc:List (Int×List Nat)}{fp:List Addr}{s:Ab}{E:Value->Ab->Prop}(G:GS prog w A.in1 L a g Ka dc [] fp s)(hh:A.handled=none)(hl:s.heap.NoLimit)(hd:A.depth<recursionLimit):
  Al (Af prog w) A (G0 (.ref a)) (fun r aa=>r=none/\Tn L g Ka s aa) E s:=by
 refine lh G.CJ fun gs rH hb rI=>?_
 refine QH hh hl hd G.gy rH (rI (s.setGen g .running) (fun _ _ _ e=>e) G.ka) (fun v aa oN kr hY=>?_) (fun aa hP h' hk=>?_)
 ·have hY:md L Ka dc 0 (s.setGen g .running) v aa (fun r' bN=>False):=hY
  obtain⟨x',T,t1,t2,fp',h1,rfl,h3,h4,h5,h6,h7,h8⟩:=hY
  exact(h8 aa (fun _ _ _ e=>e) h4.ka).elim
 ·refine aq hP fun _ h2=>?_
  have t:=Tn.of (x:= .finished) rfl h2
  refine bZ rfl ?_
  obtain⟨⟨hh',tt,gg,e⟩,t2,t3,t4,t5⟩:=t
  refine⟨⟨h',aa.toks,(aa.setGen g .finished).gens,?_⟩,fun b o h1 h2 e=>hk b o (t2 b o h1 h2 e),fun b o e=>hk b o (t3 b o e),t4,t5⟩
  refine af e ?_
  have:aa.toks=tt:=congrArg Shared.toks e
  exact af this rfl
theorem Yl{prog:Program}{w:Co}{A:Am}{E:Value->Ab->Prop}{s:Ab}{elts:List Expr}{x1:Nat}{pos:B0}{I T:Addr}{g:Nat}{Q:Unit->Ab->Prop}(hit:s.heap.IsGen I g)(hQ:Q () s):
  Al (Af prog w) A (E4 (.Tuple elts x1 pos) (.ref I) (.ref T)) Q E s:=by
 refine nT hit fun o nm q ho hc hd=>?_
 refine Ac (L0 ho ?_)
 refine af hc ?_
 refine af hd.1 ?_
 refine(?_:Al _ A (if(["enumerate", "zip", "dict_itemiterator", "dict_reverseitemiterator", "odict_iterator", "itertools.zip_longest", "itertools.pairwise"].contains "generator" &&_)=true then _ else _) Q E s)
 rw[if_neg (by
  intro h
  rw[show(["enumerate", "zip", "dict_itemiterator", "dict_reverseitemiterator", "odict_iterator", "itertools.zip_longest", "itertools.pairwise"].contains "generator")=false from by decide,Gj]at h
  exact ft h)]
 exact Ak hQ
theorem yZ.trans{a b c:Ab}(x:yZ a b)(y:yZ b c):yZ a c:=by
 obtain⟨h,t,g,rfl,e⟩:=x
 obtain⟨h',t',g',rfl,e'⟩:=y
 exact⟨h',t',g',rfl,e.trans e'⟩
section
variable{X:Ctx}{tv dv:List Nat}{K Ka:Addr->Option Obj}{env:Dy}{A:Am}{s₀ s aa:Ab}{g:Sg}{N:Nat->List Addr}{L a:Addr}{gi:Nat}
theorem ax.rebase{F:List Addr}(T:ax X tv dv K env A s₀ g N F s):ax X tv dv K env A s g N F s:={T with same:= .refl s}
theorem ax.rS{F:List Addr}(T:ax X tv dv K env A aa g N F s)(x:yZ s₀ aa):ax X tv dv K env A s₀ g N F s:={T with same:=x.trans T.same}
theorem ax.tn(T:ax X tv dv K env A s₀ g N [] s)(t:Tn L gi Ka s aa)(hK:∀b o,K b=some o->Ka b=some o)(hL:env.locals≠L)(hc:∀x c,X.C.kn.lookup x=some .cell->env.cells.lookup x=some c->c≠L)(iy:∀x,X.C.kn.lookup x≠some .free)
  (hg:s₀.gens[gi]?=none) (JR:∀items n,s.heap.get? L≠some {cls:= .type "list",data:= .seq items n}) (bW:g.β=none):ax X tv dv K env A s₀ g N [] aa:=by
 have lst:∀b items n,s.heap.get? b=some {cls:= .type "list",data:= .seq items n}->aa.heap.get? b=some {cls:= .type "list",data:= .seq items n}:=fun b items n e=>t.old b _ (fun q=>JR items n (q▸e)) rfl e
 exact
  {T with
   loc:=by obtain⟨m,h⟩:=T.loc;exact⟨m,h.at' fun o e=>t.old _ o hL (by obtain⟨o',_,_,e',hd,_⟩:=h;rw[e]at e';obtain rfl:=Aa e';unfold xW;exact af hd rfl) e⟩
   cls:=fun x c e1 e2=>by
    refine aq (T.cls x c e1 e2) fun bJ h=>?_
    refine dZ bJ fun v o e3 e4=>?_
    exact bZ ⟨v,o,t.old c o (hc x c e1 e2) (by unfold xW;exact af e4 rfl) e3,e4⟩ h
   rd:=fun x i p e1 e2=>by
    obtain⟨v,ac,r⟩:=T.rd x i p e1 e2
    refine⟨v,?_,r.on fun b hb o e=>by obtain⟨items,n,e'⟩:=T.nd i b hb;rw[e']at e;obtain rfl:=Aa e;exact lst b items n e'⟩
    rcases ac with⟨hl,m,hn,hm⟩|⟨hl,c,lq,o,e3,e4⟩
    ·exact .inl ⟨hl,m,hn.at' fun o e=>t.old _ o hL (by obtain⟨o',_,_,e',hd,_⟩:=hn;rw[e]at e';obtain rfl:=Aa e';unfold xW;exact af hd rfl) e,hm⟩
    ·refine .inr ⟨hl,c,lq,o,t.old c o ?_ (by unfold xW;exact af e4 rfl) e3,e4⟩
     rcases hl with hl|hl
     ·exact hc x c (by unfold Be at hl;rw[T.names]at hl;exact hl) lq
     ·exact absurd (by unfold Be at hl;rw[T.names]at hl;exact hl) (iy x)
   nd:=fun j b hb=>by obtain⟨items,n,e⟩:=T.nd j b hb;exact⟨items,n,lst b items n e⟩
   kept:=fun b o e=>t.ka b o (hK b o e)
   same:=by
    refine AP t.eq fun h tk gs e=>?_
    obtain⟨h0,t0,g0,e0,x0⟩:=T.same
    refine⟨h,tk,gs,by(refine af e ?_;exact af e0 rfl),⟨fun i x hx=>?_,fun hb=>?_⟩⟩
    ·have h1:=x0.get i x hx
     have h2:s.gens[i]?=some x:=by refine af e0 ?_;exact h1
     have h3:=t.gens i x (fun q=>by rw[q,hg]at hx;exact nn hx) h2
     rw[e]at h3;exact h3
    ·have h1:=t.bare (by refine af e0 ?_;exact x0.bare hb)
     rw[e]at h1;exact h1
   book:=fun v b e=>by rw[bW]at e;exact nn e
   foot:=fun a ha=>nomatch ha}
theorem GS.frame{prog:Program}{w:Co}{A':Am}{dc rem:List (Int×List Nat)}{fp:List Addr}(G:GS prog w A' L a gi Ka dc rem fp s)(h1:∀b∈fp,∀o,s.heap.get? b=some o->aa.heap.get? b=some o)(h2:∀b o,Ka b=some o->aa.heap.get? b=some o)(h3:∀(i:Nat) x,s.gens[i]?=some x->aa.gens[i]?=some x):
  GS prog w A' L a gi Ka dc rem fp aa where
 gy:=by
  refine qX G.gy fun o nm q e1 e2=>?_
  refine aH G.wh fun o' e3=>?_
  have e4:=G.ka a o' e3
  rw[e1]at e4;obtain rfl:=Aa e4
  exact OS o nm q (h2 a o e3) e2
 wh:=G.wh
 pre:=G.pre
 uh:=⟨G.uh.1,by obtain⟨m,hm⟩:=G.uh.2;exact⟨m,hm.at' fun o e=>h1 L G.uh.1 o e⟩⟩
 rR:=fun b hb=>by obtain⟨g1,o,g2,g3⟩:=G.rR b hb;exact⟨g1,o,h1 b hb o g2,g3⟩
 ka:=h2
 CJ:=by
  refine lh G.CJ fun gs g1 g2 g3=>?_
  exact GD gs (h3 _ _ g1) g2 (fun bN k1 k2=>g3 bN (fun b hb o e=>k1 b hb o (h1 b hb o e)) k2)
end
inductive Q1(prog:Program)(w:Co)(Wd:Ap->Prop)(D:Nat)(al:List Nat)(s:Ab)(res:D6)(s':Ab):Prop
 |mk (a L:Addr) (g:Nat) (e:res= .ok (.ret (.ref a))) (k:KG s s') (ha:s.heap.get? a=none) (hL:s.heap.get? L=none) (Q2:a≠L) (hg:s.gens[g]?=none) (ho:∃o,s'.heap.get? a=some o/\xW o=true) (hi:s'.heap.IsGen a g)
  (G:∀(A2:Am) (Ka:Addr->Option Obj),wO D A2->(∀b o,Ka b=some o->s'.heap.get? b=some o)->Ka L=none->(∃o,Ka a=some o)->(∀h:Ap,(∀b o,Ka b=some o->h.get? b=some o)->Wd h)->GS prog w A2.in1 L a g Ka (dJ 0 false al 0) (dJ 0 false al 0) [L] s'):Q1 prog w Wd D al s res s'
noncomputable def wi(prog:Program)(w:Co)(Wd:Ap->Prop)(D:Nat)(fa:Addr):Prop:=∀(A:Am) (s:Ab) (u:Value) (al:List Nat),wO D A->Wd s.heap->VR s.heap (.str al) u []->
 Ca (Af prog w) A (.call (.ref fa) ⟨[u],[]⟩) (Q1 prog w Wd D al s) s
noncomputable def kK(x:Int×List Nat):List PV:=[.int x.1, .str x.2]
noncomputable def rT(U:Uc)(pa:PE)(is:List Nat)(f:Den):Den:=fun g=>((ev U pa g.σ).bind PV.dr).bind fun al=>wE is f ((dJ 0 false al 0).map kK) g
structure qp(X:Ctx)(env:Dy)(K Kg:Addr->Option Obj)(s₀:Ab)(L a:Addr)(gi:Nat)(oa:Obj):Prop where
 up:∀b o,K b=some o->Kg b=some o
 out:∀b o,b≠a->Kg b=some o->K b=some o
 ka:Kg a=some oa
 fa:xW oa=true
 loc:env.locals≠L
 cls:∀x c,X.C.kn.lookup x=some .cell->env.cells.lookup x=some c->c≠L
 g0:s₀.gens[gi]?=none
section
variable{X:Ctx}{tv dv:List Nat}{K K' Kg:Addr->Option Obj}{env:Dy}{A A':Am}{s₀ s aa s' eR:Ab}{g g₁:Sg}{N N':Nat->List Addr}{L a:Addr}{gi:Nat}{oa:Obj}{dc rem:List (Int×List Nat)}{fp:List Addr}{prog:Program}{w:Co}
theorem Ym{o:Obj}{items:Array Value}{n:Nat}{P:Prop}(e:some o=some {cls:= .type "list",data:= .seq items n}) (h:xW o=true):P:=by
 rw[Aa e]at h;exact ft h
theorem qp.inv(B:qp X env K Kg s₀ L a gi oa)(T':ax X tv dv K' env A eR g₁ N' [] s')(G:GS prog w A' L a gi Kg dc rem fp s'):oz X tv dv env N' [] (a::fp)/\(∀b∈a::fp,∃o,s'.heap.get? b=some o):=by
 have kind:∀b∈a::fp,∃o,s'.heap.get? b=some o/\(b=L\/xW o=true):=Internal.fa ⟨oa,G.ka a oa B.ka, .inr B.fa⟩ fun b hb=>(G.rR b hb).2
 refine aH G.uh.2 fun mL JS=>?_
 have off:∀j,∀b∈N' j,b∉a::fp:=fun j b hb hm=>by
  refine fT (T'.nd j b hb) fun items n e=>?_
  refine aB (kind b hm) fun o e' h=>?_
  exact h.elim (fun h=>wH JS (h▸e)) fun h=>Ym (e'.symm.trans e) h
 refine bZ ⟨fun hm=>?_,fun z c e1 e2 hm=>?_,fun _ h=>(Aq h).elim,fun j hj b q e=>off j b (e▸Aj ..),fun j hj b kr=>off j b kr⟩ (fun b hb=>(kind b hb).elim fun o e=>⟨o,e.1⟩)
 ·refine aB (kind _ hm) fun o e' h=>?_
  refine qY T'.loc fun m o' _ _ HB hd _=>?_
  refine h.elim B.loc fun h=>?_
  rw[<-Aa (HB.symm.trans e'),xW,hd]at h;exact ft h
 ·refine aB (kind _ hm) fun o e' h=>?_
  refine aq (T'.cls z c e1 e2) fun bJ _=>?_
  refine dZ bJ fun v o' e3 e4=>?_
  refine h.elim (B.cls z c e1 e2) fun h=>?_
  rw[<-Aa (e3.symm.trans e'),xW,e4]at h;exact ft h
theorem qp.wj(B:qp X env K Kg s₀ L a gi oa){h h':Ap}(e:h.get? a=some oa)(k1:∀b o,K b=some o->h'.get? b=some o)(k2:∀o,h.get? a=some o->h'.get? a=some o)(b:Addr)(o:Obj)(q:Kg b=some o):h'.get? b=some o:=by
 by_cases hm:b=a
 ·rw[hm,B.ka]at q
  exact hm▸Aa q▸k2 _ e
 ·exact k1 b o (B.out b o hm q)
theorem JT(x:yZ s s'):∀(i:Nat) x,s.gens[i]?=some x->s'.gens[i]?=some x:=by
 obtain⟨_,_,_,rfl,e⟩:=x;exact e.get
theorem qp.tn(B:qp X env K Kg s₀ L a gi oa)(T':ax X tv dv K env A s₀ g₁ N' [] s')(G:GS prog w A' L a gi Kg dc rem fp s')(t:Tn L gi Kg s' aa)(iy:∀x,X.C.kn.lookup x≠some .free)(bW:g₁.β=none):ax X tv dv K env A s₀ g₁ N' [] aa:=
 T'.tn t B.up B.loc B.cls iy B.g0 (fun items n e=>by obtain⟨mL,JS⟩:=G.uh.2;exact wH JS e) bW
end
inductive wk(X:Ctx)(tv dv:List Nat)(K Kg:Addr->Option Obj)(env:Dy)(A:Am)(s₀:Ab)(L a:Addr)(gi:Nat)(dc:List (Int×List Nat))(is:List Nat)(fb:Den)(r:Sg×Fl)(n:Nat)(s':Ab):Prop
 |mk (g₁:Sg) (N':Nat->List Addr) (rem:List (Int×List Nat)) (fp:List Addr) (hn:n=rem.length+1) (T:ax X tv dv K env A s₀ g₁ N' [] s') (G:GS X.W.prog X.W.w A.in1 L a gi Kg dc rem fp s') (e:wE is fb (rem.map kK) g₁=some r):wk X tv dv K Kg env A s₀ L a gi dc is fb r n s'
section
variable{X:Ctx}{tv dv:List Nat}
theorem CK{K':Addr->Option Obj}{env:Dy}{A':Am}{s0 s':Ab}{g₁:Sg}{N':Nat->List Addr}{F':List Addr}(dj:∀v b F h,¬X.BK.is v b F h)(T':ax X tv dv K' env A' s0 g₁ N' F' s'):g₁.β=none:=by
 cases q:g₁.β with
 |none=>rfl
 |some p=>exact(dj _ _ _ _ (T'.book p.1 p.2 q)).elim
theorem Yn{x y:Str}{i j:Nat}{px py pt:B0}{kt:Nat}{body:List Stmt}{fb:Den}{K Kg:Addr->Option Obj}{env:Dy}{A:Am}{s₀ s':Ab}{L a:Addr}{gi n:Nat}{oa:Obj}{dc:List (Int×List Nat)}{g':Sg}{fl:Fl}{E:Value->Ab->Prop}
  (dj:∀v b F h,¬X.BK.is v b F h) (hx:X.C.Γ.lookup x=some i) (hy:X.C.Γ.lookup y=some j) (hb:zP X tv dv tv dv body fb) (iy:∀x,X.C.kn.lookup x≠some .free) (cA:∀h,X.W.Wd h->h.NoLimit)
  (B:qp X env K Kg s₀ L a gi oa) (eG:∀h:Ap,(∀b o,K b=some o->h.get? b=some o)->X.W.Wd h) (I:wk X tv dv K Kg env A s₀ L a gi dc [i,j] fb (g',fl) n s'):
  Al (Af X.W.prog X.W.w) A (G0 (.ref a)) (fun r aa=>(r=none/\jf X tv dv K env A s₀ g' fl .next aa)\/rj X.W.prog X.W.w A (.Tuple [.Name x px, .Name y py] kt pt) a env E (fun s₂=>
    Al (Af X.W.prog X.W.w) A (Gi body env) (fun f ak=>match f with
     | .next| .cont=>∃m,m<n/\wk X tv dv K Kg env A s₀ L a gi dc [i,j] fb (g',fl) m ak
     | .brk=>jf X tv dv K env A s₀ g' fl .next ak
     | .ret v=>jf X tv dv K env A s₀ g' fl (.ret v) ak) E s₂) r aa) E s':=by
 obtain⟨g₁,N',rem,fp,rfl,T',G,e'⟩:=I
 have oT:A.depth<recursionLimit:=Ds (C8 ..) T'.room.depth
 cases rem with
 |nil=>
  refine zE (Yk G T'.room.hh (cA _ T'.pre.wd) oT) fun r ak au=> .inl ?_
  exact bZ au.1 (Internal.sp e' ⟨rfl,N',[],B.tn T' G au.2 iy (CK dj T')⟩)
 |cons z rem=>
  obtain⟨⟨ct,cf⟩,e3,e4⟩:=wG e'
  refine zE (Yj G T'.room.hh (cA _ T'.pre.wd) oT) fun r ak au=> .inr ?_
  refine tM au fun Tp t1 t2 fp' iv JU rU t=>?_
  clear au
  subst iv
  have aN:=B.tn T' G t iy (CK dj T')
  refine i12 (.ref Tp) rfl (Yl rU.gy ?_)
  refine assign_Tuple_tuple T'.room.hh JU rfl rfl fun aW he=>?_
  have up:Sub ak.heap aW:=fun b o e=>he b o (Br (Bm e)) e
  have bS:=aN.kg (jH _ aW ak.toks up)
  have oU:GS X.W.prog X.W.w A.in1 L a gi Kg dc rem fp' {ak with heap:=aW}:=rU.frame (fun b _ o e=>up b o e) (fun b o e=>up b o (rU.ka b o e)) (fun _ _ e=>e)
  refine Ey (Dl (zE (bS.rebase.eH hx (.int z.1 t1) (ew.nil (own:=true)) (.inl rfl)) fun _ cN dQ=>?_))
  refine dY dQ fun dE _ wm=>?_
  refine Ey (Dl (zE (dE.eH hy (.str z.2 t2) (ew.nil (own:=true)) (.inl rfl)) fun _ s₆ eE=>?_))
  refine dY eE fun dU _ wo=>?_
  refine Je ?_
  have oV:=(B.inv bS oU).1
  have kp:∀b∈a::fp',∀o,aW.get? b=some o->s₆.heap.get? b=some o:=fun b hb o e=>
   wo b o (fun q=>oV.loc (q▸hb)) (fun y d e1 e2 q=>oV.cls y d e1 e2 (q▸hb)) (wm b o (fun q=>oV.loc (q▸hb)) (fun y d e1 e2 q=>oV.cls y d e1 e2 (q▸hb)) e)
  have ga:aW.get? a=some oa:=oU.ka a oa B.ka
  have JV:GS X.W.prog X.W.w A.in1 L a gi Kg dc rem fp' s₆:=oU.frame (fun b hb o e=>kp b (Ai _ hb) o e) (B.wj ga dU.kept fun o e=>kp a (Aj ..) o e) (JT dU.same)
  refine zE (hb _ env A _ _ _ _ [] s₆ ct cf (dU.freeze (B.inv dU JV).1) e3) fun fw wq JW=>?_
  obtain⟨iz,rV,Yo,rW⟩:=JW
  have Q3:=Qm (fp:=a::fp') dU.kept
  have fz:∀b∈a::fp',∀o,s₆.heap.get? b=some o->wq.heap.get? b=some o:=fun b hb o e=>rW.kept b o (by rw[lD hb];exact e)
  have rX:=(rW.rL (CK dj rW)).eQ Q3 eG
  have rY:=rX.rS bS.same
  have go:wE [i,j] fb (rem.map kK) ct=some (g',fl)->∃m,m<rem.length+1+1/\wk X tv dv K Kg env A s₀ L a gi dc [i,j] fb (g',fl) m wq:=fun e=>
   ⟨rem.length+1,Bk _,ct,rV,rem,fp',rfl,rY,oU.frame (fun b hb o e=>fz b (Ai _ hb) o (kp b (Ai _ hb) o e)) (B.wj ga rX.kept fun o e=>fz a (Aj ..) o (kp a (Aj ..) o e)) (JT rX.same),e⟩
  cases cf with
  |next=>exact Fz iz▸go e4
  |cont=>exact Fz iz▸go e4
  |brk=>exact Fz iz▸Internal.sp e4 ⟨rfl,rV,[],rY⟩
  |ret p=>
   refine da iz fun v BA cz r hn=>?_
   clear iz
   subst cz
   exact Internal.sp e4 ⟨⟨v,BA,rfl,r,fun b kr=>rB Q3 (hn b kr)⟩,rV,[],rY⟩
theorem zN.mf{x y f:Str}{i j:Nat}{px py pt pf pc pos:B0}{kt:Nat}{arg:Expr}{body:List Stmt}{pa:PE}{fb:Den}{fa:Addr}(dj:∀v b F h,¬X.BK.is v b F h)(mh:wi X.W.prog X.W.w X.W.Wd X.W.D fa)
  (hk:X.C.kn.lookup f=some .globalImplicit) (Yp:X.W.mg f=some (.ref fa)) (CL:bad f=false) (Yq:∀h,X.W.Wd h->∃o fd,h.get? fa=some o/\o.data= .func fd) (JX:av X.W X.C arg pa) (cb:yT arg=true)
  (hx:X.C.Γ.lookup x=some i) (hy:X.C.Γ.lookup y=some j) (hi:(i∉tv/\i∉dv)/\(j∉tv/\j∉dv)) (hb:zP X tv dv tv dv body fb) (iy:∀x,X.C.kn.lookup x≠some .free) (cA:∀h,X.W.Wd h->h.NoLimit):
  zN X tv dv (.For (.Tuple [.Name x px, .Name y py] kt pt) (.Call (.Name f pf) [arg] [] pc) body [] pos) (rT X.W.U pa [i,j] fb):=fun K env A E s₀ g N F s g' fl T e=>by
 have T:=T.rL (CK dj T)
 refine oB e fun al e1 e2=>?_
 refine oB e1 fun p e1 ep=>?_
 obtain rfl:=PV.bO ep
 refine wpAny_For ?_ (fun x=>wW rfl env x)
 refine Er rfl ?_
 refine A6 T.kind (by unfold Be;refine af T.names ?_;exact hk) (Dk (mg:=X.W.mg) (T.gl▸X.W.g T.pre.wd) Yp ?_) (wD CL)
 refine dZ (Yq _ T.pre.wd) fun o fd ho gu=>?_
 refine J9 gu ?_ (zF cb [] env)
 refine af (zF cb [] env) ?_
 refine A8 (zE (JX env A E s g.σ _ T.pre e1) fun u aa ah=>B4 ?_)
 obtain⟨k₁,ns,az,_⟩:=ah
 have aR:=T.kg k₁
 refine bZ (zV k₁ _ _ ho) (Gd (E9 (mh A aa u al aR.room aR.pre.wd (az.bP rfl)) fun res s₂ ai=>?_))
 obtain⟨a,L,gi,rfl,k₂,ha,hL,Q2,IM,⟨oa,nF,dI⟩,JY,Yr⟩:=ai
 refine wpAny_pyIter_gen JY ?_
 have aw:=aR.kg k₂
 have rx:K a=none:=rB aR.kept ha
 have B:qp X env K (oA K [a] s₂.heap) s₀ L a gi oa:=
  {up:=fun b o e=>by rw[wS fun hm=>nn (rx.symm.trans (Ae.mp hm▸e))];exact e
   out:=fun b o hb e=>by rw[wS fun hm=>hb (Ae.mp hm)]at e;exact e
   ka:=by refine af (lD (Bg a)) ?_;exact nF
   fa:=dI
   loc:=fun q=>by obtain⟨m,o,_,_,e,_⟩:=aR.loc;exact nn (hL.symm.trans (q▸e))
   cls:=fun x c h1 h2 q=>by obtain⟨⟨v,o,e,_⟩,_⟩:=aR.cls x c h1 h2;exact nn (hL.symm.trans (q▸e))
   g0:=by
    cases q:s₀.gens[gi]? with
    |none=>rfl
    |some z=>exact nn (IM.symm.trans (JT aR.same gi z q))}
 refine ID (wk X tv dv K (oA K [a] s₂.heap) env A s₀ L a gi (dJ 0 false al 0) [i,j] fb (g',fl)) (fun n s' I=>Yn dj hx hy hb iy cA B T.eG I) ((dJ 0 false al 0).length+1)
  ⟨g,N,_,[L],rfl,aw,Yr A _ aR.room (fun b o e=>?_) ?_ ⟨oa,B.ka⟩ (fun h hk=>T.eG h fun b o e=>hk b o (B.up b o e)),e2⟩
 ·by_cases hm:b=a
  ·rw[hm,B.ka]at e;exact hm▸e▸nF
  ·exact aw.kept b o (B.out b o hm e)
 ·rw[wS fun hm=>Q2 (Ae.mp hm).symm];exact rB aR.kept hL
end
theorem Q4{D:Nat}{A:Am}{body:List Stmt}{env:Dy}(h:wO (D+1) A):wO D (A.in1.over (.func body env) []):=
 ⟨h.hh,by have:=h.depth;refine(?_:A.depth+L4 []+1+D<_);simp[L4];exact xA,by
  have:=h.units
  refine(?_:A.units+1+0+3+8*D+60<cLine)
  lia⟩
theorem Ys{D:Nat}{A:Am}{body lb:List Stmt}{env:Dy}{t:Expr}{I:Value}{k:D6->Ks Fin}{p:B0}(h:wO (D+1) A):wO D (A.in1.over (.forLoop t I lb [] env) [.ret k none false [] (.func body env) p []]):=
 ⟨h.hh,by have:=h.depth;refine(?_:A.depth+L4 [(.func body env,p)]+0+D<_);have e:L4 [(Code.func body env,p)]=1:=rfl;rw[e];lia,by
  have:=h.units
  refine(?_:A.units+1+3+0+8*D+60<cLine)
  lia⟩
theorem Yt{X:Ctx}{name:Str}{params:Arguments}{scope:Scope}{fa:Addr}{P:EP}
  (hC:X.C.kn=scope.names) (fV:HP X.C) (Yu:X.C.n=4) (aV:scope.kind= .function) (ja:scope.isCoroutine=false) (gO:scope.isGenerator=true) (iW:∀y∈scope.names,y.2≠ .cell) (iy:∀y∈scope.names,y.2≠ .free)
  (Q5:scope.names.lookup P.xa=some .local)
  (dI:∀h,X.W.Wd h->lE h fa name params (oQ P) scope)
  (cA:∀h,X.W.Wd h->h.NoLimit)
  (br:∀pm cd doc u,Fc (F0 name params (oQ P) scope pm cd doc) ⟨[u],[]⟩=pure [(P.xa,u)])
  (hE:∀(L:Addr) (Ka:Addr->Option Obj) (env:Dy),env.locals=L->env.scope=scope->Ka L=none->(∀h:Ap,(∀b o,Ka b=some o->h.get? b=some o)->X.W.Wd h)->QT X L Ka env P):
  wi X.W.prog X.W.w X.W.Wd (X.W.D+1) fa:=by
 intro A s u al aP eS hu
 obtain⟨o,pm,cd,doc,ho,dP,gN⟩:=dI _ eS
 refine codeAny_call_generator (by have:=aP.depth;exact zW) ho dP ja gO rfl gN ?_
 rw[br pm cd doc u]
 refine Ak (Fb (binds:=[(P.xa,u)]) iW (fun y hy=>by rw[Ae.mp hy];exact Q5) (fun ah cb iG=>?_) aV)
 have up:Sub s.heap ah:=fun b o e=>iG.extBut b o (Br (Bm e)) (Ag _ e)
 refine bZ ((cA _ eS).keeps up) ?_
 generalize hL:s.heap.objs.size=L at*
 have rt:s.heap.get? L=none:=hL▸yP 0
 have bg:(envOf name scope L fa cd).locals=L:=rfl
 have eJ:(envOf name scope L fa cd).scope=scope:=rfl
 have rf:(envOf name scope L fa cd).globals=mainGlobals:=rfl
 have lZ:(envOf name scope L fa cd).builtins=builtinsNs:=rfl
 have JZ:L<ah.objs.size:=cb.lt
 have n0:s.heap.get? ah.objs.size=none:=by
  cases e:s.heap.get? ah.objs.size with
  |none=>rfl
  |some o=>exact absurd (Bm (up _ _ e)) (Jk _)
 have KA:∀(o':Obj),o'.isFreed=false->(ah.push o').get? ah.objs.size=some o':=fun o' h=>Av _ h
 refine⟨ah.objs.size,L,s.gens.size,rfl,?_,n0,rt,(Br JZ).symm,by simp,?_,?_,?_⟩
 ·refine⟨_,_,_,rfl,fun b o e=>Ag _ (up b o e),fun i x hx=>?_,fun hb=>AllBare.push hb rfl⟩
  have hi:=(Gk.mp hx).1
  rw[Array.getElem?_push_lt hi]
  exact(Gk.mp hx).2▸rfl
 ·exact i12 _ (KA _ rfl) rfl
 ·exact OT _ _ _ (KA _ rfl) rfl rfl rfl
 ·intro A2 Ka CM iD rZ KC wt
  refine⟨?_,KC,⟨[],rfl⟩,⟨Bg L,?_⟩,fun b hb=>?_,iD,⟨.fresh (.func (oQ P) (envOf name scope L fa cd)),?_,rfl,fun bN k1 k2=>⟨rfl,?_⟩⟩⟩
  ·exact OT _ _ _ (KA _ rfl) rfl rfl rfl
  ·exact cu _ (cb.keeps fun b o e=>Ag _ e)
  ·rw[Ae.mp hb]
   refine qX cb fun o' _ _ e' _=>?_
   exact⟨rZ,o',Ag _ e', .inl rfl⟩
  ·refine(?_:(s.gens.push _)[s.gens.size]?=_)
   simp
   rfl
  ·have H:=hE L Ka (envOf name scope L fa cd) bg eJ rZ wt
   refine Yh (A:=A2.in1) (Ka:=Ka) (s₀:=bN) (s:=bN) (N:=fun _=> []) (F:=[]) H CM.hh (Q4 CM) (fun eA k p=>Ys CM) ?_ k2
   have qq:bN.heap.Ns L _:=(cb.keeps fun b o e=>Ag _ e).at' fun o e=>k1 L (Bg L) o e
   exact
    {fV:=fV
     kind:=by rw[eJ];exact aV
     names:=by rw[eJ];exact hC.symm
     gl:=rf
     bl:=lZ
     room:=Q4 CM
     eP:=fun x k e1 e2=>by
      rw[hC]at e1
      rcases e2 with rfl|rfl
      ·exact absurd rfl (iW _ (zT e1))
      ·exact absurd rfl (iy _ (zT e1))
     eF:=fun x y c e1 _=>by
      exfalso
      exact nn e1
     len:=by rw[Yu];rfl
     loc:=⟨_,by rw[bg];exact qq⟩
     dB:=by rw[bg];exact xT rfl rfl
     cls:=fun x c e1 _=>by
      rw[hC]at e1
      exact absurd rfl (iW _ (zT e1))
     rd:=fun x i p e1 e2=>by
      have hi:i=0/\p= .str al:=by
       match i,e2 with
       |0,e2=>cases e2;exact⟨rfl,rfl⟩
       |1,e2=>simp at e2
       |2,e2=>simp at e2
       |3,e2=>simp at e2
       |_+4,e2=>simp at e2
      refine aq hi fun aG aM=>?_
      clear hi
      subst aG
      subst aM
      have hx:x=P.xa:=fV.inj x P.xa 0 e1 H.hx
      subst hx
      refine⟨u, .inl ⟨by unfold Be;rw[eJ];exact Q5,_,by rw[bg];exact qq,by simp⟩,CC hu rfl⟩
     nd:=fun j a h=>nomatch h
     bL:=fun i h=>nomatch h
     deep:=fun i h=>nomatch h
     kept:=QN k2
     eG:=QO rZ wt
     same:= .refl _
     book:=fun v b e=>by exact nn e
     foot:=fun a h=>nomatch h}
end Internal
namespace Internal
open PySem PySem.W PySem.Calls PyProof.Rows Builtin Builtin.ObjectAttr
theorem Q6:Slot "function" "__setattr__" "object.__setattr__" := .of (owner:= "object") (n:= "__setattr__") (by rw[Bi,A1];kernel_rfl) (by decide+kernel) (by decide+kernel) (by decide+kernel)
  (by first|exact .inl (by decide+kernel)|exact .inr (by decide+kernel)) (by rw[Fn];kernel_rfl)
theorem Yv(a b c:Value):Mm "object.__setattr__" ⟨[a,b,c],[]⟩:=by kernel_rfl
theorem Yw:typeHasDict (.type "function")=true:=by decide+kernel
theorem Yx:finalisedInACycleAlone "function" =false:=by decide+kernel
section
variable{prog:Program}{w:Co}{A:Am}{E:Value->Ab->Prop}{s:Ab}{name:Str}{v:Value}
set_option maxHeartbeats 1000000 in
theorem Yy{f:Addr}{fd:FuncData}{o:Obj}{Q:Unit->Ab->Prop}(ho:s.heap.get? f=some o)(hc:o.cls= .type "function") (CN:o.dict=none) (mi:o.data= .func fd) (hB:Cq (.type "function") name=pure none)
  (hq:∀h' tk,(∀b ob,b≠f->s.heap.get? b=some ob->h'.get? b=some ob)->h'.get? f=some {o with dict:=some s.heap.objs.size}->h'.Ns1 s.heap.objs.size (fun y=>if y=name then some v else none)->Q () {s with heap:=h',toks:=tk}):
  Al (Af prog w) A (setAttr (.ref f) name v) Q E s:=by
 obtain⟨h,g,d,t,os⟩:=s
 have hT:(⟨h,g,d,t+1,os⟩:Ab).TypeIs (.ref f) "function" :=⟨o,ho,hc⟩
 refine Ac (wpAny_mkText ?_)
 refine Ac (G7 hT Q6 (Fj Q6 hT F.entry_object_sa ?_ (Yv _ _ _)))
 have hd0:∀T:String,T= "function" ->Cq (.type T) name=pure none:=fun T h=>h▸hB
 unfold Builtin.«object.__setattr__»
 repeat (first|rewrite [refuse_eq]|wp_step)
 have mj:h.get? f=some o:=ho
 have rK:f≠h.objs.size:=Br (Bm mj)
 have qr:(h.push {cls:= .type "dict",data:= .dict #[]}).get? f=some o:=Ag _ mj
 rw[hc]
 rw[CN]
 (refine iU (by rw[Yw];decide) ?_;rw[mi])
 refine Ac (wpAny_alloc' ?_)
 refine Ac (wpAny_update' qr ?_)
 unfold dictMade
 refine iU (by rw[Yx];decide) ?_
 refine Ac (Ak (Ak ?_))
 have JH:((h.push {cls:= .type "dict",data:= .dict #[]}).update f fun o=>{cls:=o.cls,dict:=some h.objs.size,data:=o.data,slots:=o.slots}).get? h.objs.size
   =some {cls:= .type "dict",data:= .dict #[]}:=(Lg _ _ _ _ rK.symm).trans (Heap.get?_push_at rfl rfl)
 have g9:((h.push {cls:= .type "dict",data:= .dict #[]}).update f fun o=>{cls:=o.cls,dict:=some h.objs.size,data:=o.data,slots:=o.slots}).Ns h.objs.size (fun _=>none):=
  ⟨_, #[],_,JH,rfl,fun e he=>absurd he (by simp),fun _=>rfl⟩
 refine(?_:Al _ _ (storeInDict h.objs.size (.str name t) name v) _ _ _)
 unfold storeInDict newKeyGuard
 refine Ac (Ak (Ac (wpAny_nsSet1 (Heap.Ns1.of_empty g9) fun h' qa hs=>?_)))
 refine nT (qa.count (G8 name v Within.nil)) fun oD esD epD Yz YA YB=>?_
 refine Ac (wpAny_lookBehind Yz (by rw[YA];exact pastItsLine_dict (Ad YB (by rw[Cg,F4,Bo];exact Ei _ _))) ?_)
 wp_walk
 have YC:h'.get? f=some {cls:=o.cls,dict:=some h.objs.size,data:=o.data,slots:=o.slots}:=by
  refine(hs.2 f rK).trans (Km _ qr ?_)
  have lu:=(Heap.get?_some_iff.mp mj).2
  obtain⟨oc,od,CO,osl⟩:=o
  cases CO<;>first|rfl|exact lu
 exact i12 .none rfl (Ak (hq h' _ (fun b ob hb e=>(hs.2 b (Br (Bm e))).trans ((Lg _ _ _ _ hb).trans (Ag _ e))) YC qa))
end
theorem CP:Slot "function" "__getattribute__" "object.__getattribute__" := .of (owner:= "object") (n:= "__getattribute__") (by rw[Bi,A1];kernel_rfl) (by decide+kernel) (by decide+kernel) (by decide+kernel)
  (by first|exact .inl (by decide+kernel)|exact .inr (by decide+kernel)) (by rw[Fn];kernel_rfl)
theorem Q7:Cq (.type "function") "__getattr__" =pure none:=by rw[Bi,A1];kernel_rfl
theorem YD:J0 table "object.__getattribute__" =some Builtin.«object.__getattribute__» :=Fp (by kernel_rfl)
theorem YE(a b:Value):Mm "object.__getattribute__" ⟨[a,b],[]⟩:=by kernel_rfl
section
variable{prog:Program}{w:Co}{A:Am}{E:Value->Ab->Prop}{s:Ab}{name:Str}{v:Value}
theorem YF{f d:Addr}{fd:FuncData}{o:Obj}{m:Str->Option Value}{pl:Ks Bool}{Q:Value×List Value->Ab->Prop}(ho:s.heap.get? f=some o)(hc:o.cls= .type "function") (CN:o.dict=some d) (mi:o.data= .func fd) (hB:Cq (.type "function") name=pure none)
  (cb:s.heap.Ns d m) (hv:m name=some v) (hh:handedOut v=pure v) (hq:Q (v,[]) {s with toks:=s.toks+1}):
  Al (Af prog w) A (getMethod (.ref f) name pl) Q E s:=by
 obtain⟨h,g,d',t,os⟩:=s
 have hT:∀t',(⟨h,g,d',t',os⟩:Ab).TypeIs (.ref f) "function" :=fun t'=>⟨o,ho,hc⟩
 have f1:=hT t
 have f2:=hT (t+1)
 have f3:=CP.lookup
 have f4:=Q7
 have KD:=F.canon_object_ga
 refine Ac (D4 f1 CP.lookup ?_)
 refine iU (by refine af KD ?_;decide) ?_
 refine Ac (D4 f1 Q7 ?_)
 refine iU (by decide) ?_
 refine Ac (D4 f1 hB ?_)
 refine Ac (m:=Kd (.ref f) name) ?_
 refine Ac (wpAny_mkText ?_)
 refine Ea (Ac (wpAny_typeOf f2 (Ac (B5 f3 ?_))))
 refine iU (by decide) ?_
 refine Ac (B5 (show hookBefore (.type "function")=pure none from rfl) ?_)
 unfold callGetattribute boundAndCalled
 rw[if_neg (by decide)]
 refine Ac (Jq (Ea ?_))
 refine af (CP.bind ..) ?_
 refine Ac (Ak (Fj CP f2 YD ?_ (YE _ _)))
 unfold Builtin.«object.__getattribute__»
 have mj:h.get? f=some o:=ho
 have KH:h.Ns d m:=cb
 refine Ac (B5 (show slotArgs "__getattribute__" 1 ⟨.ref f::[.str name t],[]⟩=pure (.ref f,[.str name t])from rfl) ?_)
 refine Ac (B5 (show attrName (.str name t)=pure name from rfl) ?_)
 refine Ac (wpAny_typeOf f2 ?_)
 refine Ac ?_
 refine Ac (B5 hB ?_)
 refine Ac (B5 (show getOf none=pure none from rfl) ?_)
 refine Ac (B5 (show dataDescriptor? none none=pure none from rfl) ?_)
 unfold ownThenClass inOwnDict I9
 refine Ac (Ac (Ac (Eh mj ?_)))
 refine af mi ?_
 refine Ac (Eh mj ?_)
 refine af hc ?_
 refine af CN ?_
 refine Ak ?_
 refine wpAny_nsGet KH ?_
 refine af hv ?_
 refine Ac (G3 (Ak ?_))
 refine Ak ⟨v,rfl,?_⟩
 refine(?_:Al _ _ (handedOut v) _ _ _)
 refine af hh ?_
 exact Ak (Ak hq)
end
theorem Q8:Slot "function" "__get__" "function.__get__" := .of (owner:= "function") (n:= "__get__") (by rw[Bi,A1];kernel_rfl) (by decide+kernel) (by decide+kernel) (by decide+kernel)
  (by first|exact .inl (by decide+kernel)|exact .inr (by decide+kernel)) (by rw[Fn];kernel_rfl)
theorem YG:Cq (.type "function") "__set__" =pure none:=by rw[Bi,A1];kernel_rfl
theorem YH:Cq (.type "function") "__delete__" =pure none:=by rw[Bi,A1];kernel_rfl
theorem YI:J0 table "function.__get__" =some Builtin.«function.__get__» :=Fp (by kernel_rfl)
theorem YJ(a b c:Value):Mm "function.__get__" ⟨[a,b,c],[]⟩:=by kernel_rfl
section
variable{prog:Program}{w:Co}{A:Am}{E:Value->Ab->Prop}{s:Ab}{name:Str}{v:Value}
variable{nm q:Str}{C N x:Addr}{bs:List Value}{sn:List Str}{sub:List Value}{ab:Bool}{col:Option Bool}{dd:Option Addr}{k0 k1 k2 k3 k5:Option Value}{newId:String}
 {mN mA:Str->Option Value}
noncomputable abbrev nG(f x:Addr):Obj:={cls:= .type "method",data:= .fields #[.ref f, .ref x]}
theorem YK{f:Addr}{of:Obj}{Q:Value->Ab->Prop}{expr:Bool}
  (hC:s.heap.get? C=some (excClassObj nm q C N bs [.type "object"] true sn sub ab col dd k0 k1 k2 k3 k5 newId)) (hn:s.heap.Ns N mN) (YL:mN "__getattribute__" =none) (YM:mN "__getattr__" =none) (hf:mN name=some (.ref f)) (YN:s.heap.get? f=some of) (nH:of.cls= .type "function")
  {y:Option Value} (hB:Cq (.type "object") name=pure y) (I:s.heap.Inst x C mA) (YO:mA name=none) (oW:∃z,mA z≠none) (iW:(["__module__", "__name__", "__qualname__", "__doc__", "__annotations__"]:List Str).contains name=false)
  (hq:Q (.ref s.heap.objs.size) {s with heap:=s.heap.push (nG f x),toks:=s.toks+1}):
  Al (Af prog w) A (Kd (.ref x) name expr) Q E s:=by
 obtain⟨h,g,d,t,os⟩:=s
 refine j9 (id I) fun o hx hc KI hd=>?_
 have CQ:(⟨h,g,d,t+1,os⟩:Ab).TypeIs (.ref f) "function" :=⟨of,YN,nH⟩
 unfold Kd getAttrBy
 repeat (first|(with_reducible refine Eh hx ?_;refine af hc ?_)|(with_reducible refine Ic hC hn Me F.lk_object_ga ?_;refine af YL ?_)|wp_step)
 refine(?_:Al _ _ ((runValue (.builtin "proto.getattr_hooked" ⟨[.ref x, .str name t],[]⟩)).onRaise (noteIf true (.ref x) (.str name t))) _ _ _)
 refine Lm (wpAny_runValue (codeAny_builtin F.plainObj_entry_getattr_hooked ?_))
 unfold Builtin.«proto.getattr_hooked»
 have Q9:h.get? x=some o:=hx
 refine Ac (B5 (show attrName (.str name t)=pure name from rfl) ?_)
 refine Ac ?_
 refine(?_:Al _ _ (loadPart x (some headPart)>>=fun o=>pure o.cls) _ _ _)
 refine Ac (Eh Q9 (Ak ?_))
 refine af hc ?_
 refine Ac (Ac (Ic hC hn Me hB ?_))
 refine af hf ?_
 refine Ac (D4 CQ Q8.lookup ?_)
 unfold dataDescriptor? takesStores
 refine Ac (Ac (Ac (D4 CQ YG ?_)))
 refine iU (by decide) ?_
 refine Ac (D4 CQ YH (Ak ?_))
 refine iU (by decide) ?_
 refine Ak ?_
 unfold ownThenClass inOwnDict I9
 refine Ac (Ac (Ac (Eh Q9 ?_)))
 split
 ·rename_i c gN
  exact absurd gN (KI c)
 repeat (first|(with_reducible refine Eh hx ?_;refine af hc ?_)|with_reducible refine Eh hC ?_|wp_step)
 rcases hd with⟨CN,hz⟩|⟨dx,jm,_,cb⟩
 ·refine aH oW fun z oW=>?_
  exact absurd (hz z) oW
 refine af jm ?_
 refine Ak ?_
 refine wpAny_nsGet cb.ns ?_
 refine af YO ?_
 unfold copiedAttributeGuard
 dsimp only
 rw[if_neg (by rw[iW];decide)]
 refine Ac (Ak ?_)
 refine Ac (G3 (Ak ?_))
 refine Ac (Ic hC hn Me F.lk_object_getattr ?_)
 refine af YM ?_
 unfold bindWithHook bindTo
 refine Ac (Ea (Fj Q8 CQ YI ?_ (YJ _ _ _)))
 unfold Builtin.«function.__get__»
 repeat k_node
 refine i12 _ rfl (Ak ?_)
 refine(?_:Al _ _ (handedOut _) _ _ _)
 exact Ak hq
end
end Internal
namespace Internal
open PySem PySem.W PySem.Calls PyProof.Rows Builtin
theorem YP{M:Mo}{A:Am}{E:Value->Ab->Prop}{s:Ab}{f:Value}{pos:List Value}{Q:Value->Ab->Prop}
  (hc:Ca M A (.call f ⟨pos,[]⟩) (fun r s'=>match r with| .ok (.ret v)=>Q v s'| .ok _=>False| .error e=>E e s') s):
  Al M A (callBorrowed f pos) Q E s:=fun Γ p rE=>by
 have:=hc _ p rfl (rE.enter (.call f ⟨pos,[]⟩) none p (by intro x;exact nn x))
 refine Eq.mp ?_ this
 refine(?_:_=wpCode M _ _ _ _)
 congr 1
 funext r s'
 cases r with
 |error e=>rfl
 |ok f=>cases f<;>rfl
theorem YQ{prog:Program}{w:Co}{A:Am}{m f:Addr}{x:Addr}{a:Args}{R:D6->Ab->Prop}{s:Ab}(hb:s.heap.get? m=some (nG f x))
  (hq:Ca (Af prog w) A (.call (.ref f) {a with pos:= .ref x::a.pos}) R s):Ca (Af prog w) A (.call (.ref m) a) R s:=by
 refine codeAny_of_tree ?_
 refine(?_:Al _ A.in1 (callAny (.ref m) a) _ _ _)
 refine Ac (L0 hb ?_)
 exact Ak ⟨rfl,hq⟩
noncomputable def CR(h:Ap)(it m:Addr):Prop:=∃o t,h.get? it=some o/\o.cls= .type "callable_iterator" /\o.data= .fields #[.ref m, .str ⟨#[]⟩ t, .bool false]
theorem KJ:Slot "callable_iterator" "__next__" "callable_iterator.__next__" := .of (owner:= "callable_iterator") (n:= "__next__") (by rw[Bi,A1];kernel_rfl) (by decide+kernel) (by decide+kernel) (by decide+kernel)
  (by first|exact .inl (by decide+kernel)|exact .inr (by decide+kernel)) (by rw[Fn];kernel_rfl)
theorem YR:J0 table "callable_iterator.__next__" =some Builtin.«callable_iterator.__next__» :=Fp (by kernel_rfl)
theorem YS(a:Value):Mm "callable_iterator.__next__" ⟨[a],[]⟩:=by kernel_rfl
theorem Ra:Slot "callable_iterator" "__iter__" "callable_iterator.__iter__" := .of (owner:= "callable_iterator") (n:= "__iter__") (by rw[Bi,A1];kernel_rfl) (by decide+kernel) (by decide+kernel) (by decide+kernel)
  (by first|exact .inl (by decide+kernel)|exact .inr (by decide+kernel)) (by rw[Fn];kernel_rfl)
theorem YT:J0 table "callable_iterator.__iter__" =some Builtin.«dict_keyiterator.__iter__» :=
 entryFor_alias (id':= "dict_keyiterator.__iter__") (by kernel_rfl) rfl (by decide+kernel) (by kernel_rfl)
theorem YU(a:Value):Mm "callable_iterator.__iter__" ⟨[a],[]⟩:=by kernel_rfl
theorem YV:Slot "method" "__call__" "method.__call__" := .of (owner:= "method") (n:= "__call__") (by rw[Bi,A1];kernel_rfl) (by decide+kernel) (by decide+kernel) (by decide+kernel)
  (by first|exact .inl (by decide+kernel)|exact .inr (by decide+kernel)) (by rw[Fn];kernel_rfl)
theorem YW:builtinKind "iter" =none:=by decide+kernel
theorem YX:plainId "iter" =true:=by decide+kernel
theorem YY:J0 table "iter" =some Builtin.«iter» :=Fp (by kernel_rfl)
theorem YZ(a b:Value):Mm "iter" ⟨[a,b],[]⟩:=by kernel_rfl
section
variable{prog:Program}{w:Co}{A:Am}{E:Value->Ab->Prop}{s:Ab}
theorem CR.typeIs{it m:Addr}(h:CR s.heap it m):s.TypeIs (.ref it) "callable_iterator" :=by obtain⟨o,t,h1,h2,_⟩:=h;exact⟨o,h1,h2⟩
theorem Y0{it m:Addr}{Q:Value->Ab->Prop}(hit:CR s.heap it m)(h:Q (.ref it) s):Al (Af prog w) A (Hu (.ref it)) Q E s:=by
 refine wpAny_pyIter_slot hit.typeIs Ra (Fj Ra hit.typeIs YT ?_ (YU _))
 refine(?_:Al _ _ (ret (.ref it)) _ _ s)
 exact Ak ⟨_,rfl, "callable_iterator",_,hit.typeIs,KJ.lookup,h⟩
theorem Y1{m f x:Addr}{t:Js}{Q:Value->Ab->Prop}(hm:s.heap.get? m=some (nG f x))
  (hq:Q (.ref s.heap.objs.size) {s with heap:=s.heap.push {cls:= .type "callable_iterator",data:= .fields #[.ref m, .str ⟨#[]⟩ t, .bool false]} }):
  Al (Af prog w) A (call (.builtin "iter") [.ref m, .str ⟨#[]⟩ t]) Q E s:=by
 have hT:s.TypeIs (.ref m) "method" :=⟨_,hm,rfl⟩
 refine call_function_entry YW YX YY (YZ _ _) ?_
 unfold Builtin.«iter»
 refine Ac (B5 (a:=[.ref m, .str ⟨#[]⟩ t]) (by first|rfl|kernel_rfl) ?_)
 refine Ac (D4 hT YV.lookup ?_)
 refine iU (by decide) ?_
 refine Ac (G3 (Ac (Cb (Ak ⟨_,rfl,hq⟩))))
theorem KL{it:Addr}{o:Obj}{vs:Array Value}{i:Nat}{v:Value}{Q:Unit->Ab->Prop}(ho:s.heap.get? it=some o)(hd:o.data= .fields vs)(hi:i<vs.size)
  (hq:∀h' o' ud,Cd it s.heap h'->h'.get? it=some o'->o'.data= .fields ud->ud.size=vs.size->Q () {s with heap:=h'}):Al (Af prog w) A (setField (.ref it) i v) Q E s:=
 wpAny_setField ho hd hi (hq _ _ _ (El ..).extBut (Km _ ho (Obj.isFreed_of_fields (Obj.data_mapFields hd _))) (Obj.data_mapFields hd _) (by simp))
theorem Y2{it m f x:Addr}{of:Obj}{fd:FuncData}{Q:Option Value->Ab->Prop}(hh:A.handled=none)(hit:CR s.heap it m)(hm:s.heap.get? m=some (nG f x))(hf:s.heap.get? f=some of)(gu:of.data= .func fd)
  (ml:Ca (Af prog w) A.in1 (.call (.ref f) ⟨[.ref x],[]⟩) (fun res s'=>∃(c:List Nat) (t:Js),res= .ok (.ret (.str ⟨c.toArray⟩ t))/\(∀o,s.heap.get? it=some o->s'.heap.get? it=some o)/\s'.heap.get? m=some (nG f x)/\(∃qt r4,s'.heap.get? f=some qt/\qt.data= .func r4)/\
   (c=[]->∀h',Cd it s'.heap h'->Q none {s' with heap:=h'})/\(c≠ []->Q (some (.str ⟨c.toArray⟩ t)) s')) s):
  Al (Af prog w) A (G0 (.ref it)) Q E s:=by
 refine da (id hit) fun o t0 ho hc hd=>?_
 refine Ac (Jq (G7 (name:=Str.ofString "__next__") hit.typeIs KJ
  (Fj KJ hit.typeIs YR ?_ (YS _))))
 unfold Builtin.«callable_iterator.__next__»
 refine Ac (B5 (show slotArgs "__next__" 0 ⟨.ref it::[],[]⟩=pure (.ref it,[])from rfl) ?_)
 refine Ac (Ji ho hd (x:= .bool false) rfl ?_)
 refine iU (by decide) ?_
 refine Ac (Ji ho hd (x:= .ref m) rfl ?_)
 have bor:∀{A':Am} {E':Value->Ab->Prop} {s':Ab} {Q':Bool->Ab->Prop},s'.heap.get? m=some (nG f x)->(∃qt r4,s'.heap.get? f=some qt/\qt.data= .func r4)->Q' true s'->Al (Af prog w) A' (borrowsExactly (.ref m)) Q' E' s':=fun {A' E' s' Q'} h1 h2 hq=>by
  refine dZ h2 fun qt r4 h2 h3=>?_
  refine Ac (L0 h1 ?_)
  dsimp only
  refine tO (by decide) ?_
  refine(?_:Al _ _ (load f>>=_) _ _ _)
  refine Ac (L0 h2 ?_)
  refine af h3 ?_
  exact Ak hq
 refine Ac (Jq ?_)
 refine Ac (bor hm ⟨of,fd,hf,gu⟩ ?_)
 refine tO rfl ?_
 refine YP ?_
 refine YQ hm (E9 ml fun res s' h=>?_)
 refine u2 h fun c t cz k1 k2 k3 q1 q2=>?_
 clear h
 subst cz
 have mj:=k1 o ho
 refine Ac (Ji mj hd (x:= .bool false) rfl ?_)
 refine iU (by decide) ?_
 refine Ac (Ji mj hd (x:= .str ⟨#[]⟩ t0) rfl ?_)
 refine Ac (Ea (eqBool_str ?_))
 by_cases KN:c=[]
 ·subst KN
  refine iU (by decide) ?_
  refine Ac (G3 (Ac ?_))
  refine(?_:Al _ _ (field (.ref it) 0>>=fun v=>slotLetsGo "callable_iterator.__next__" v _>>=fun _=>setField (.ref it) 0 .none>>=fun _=>setField (.ref it) 1 .none>>=fun _=>setField (.ref it) 2 (.bool true)) _ _ _)
  refine Ac (Ji mj hd (x:= .ref m) rfl (Ac ?_))
  unfold slotLetsGo
  refine Ac (bor k2 k3 ?_)
  refine tO rfl ?_
  refine Ak ?_
  refine Ac (KL mj hd (by simp) fun ah jo Y3 KO g₁ KP wu=>?_)
  refine Ac (KL (s:={s' with heap:=ah}) g₁ KP (by refine af wu ?_;simp) fun ai Y4 KQ oP ct KR KS=>?_)
  refine KL (s:={s' with heap:=ai}) ct KR (by(refine af KS ?_;refine af wu ?_);simp) fun au Y5 KU KV Y6 Y7 Y8=>?_
  have x:Cd it s'.heap au:=fun b ob hb e=>KV b ob hb (oP b ob hb (KO b ob hb e))
  refine(?_:Al _ _ (newExc (.type "StopIteration") []>>=_) _ _ _)
  refine Ac ?_
  simp only[newExc,newTuple]
  refine Ac (Cb ?_ (by size_fits))
  refine Ac (m:=I5 _ _) (B5 (a:=H0) (by first|rfl|(simp only[I5];rfl)) ?_)
  refine Cb ?_ (by size_fits)
  simp only[raiseNew]
  refine Ac (wpAny_handled ?_)
  refine af (show A.in1.handled=none from hh) ?_
  refine Ac (Ak (wpAny_throw ?_))
  refine Ac (wpAny_isInstance (T:= "StopIteration") (b:=true) ⟨_,Av _ rfl,rfl⟩ isSubtype_stop ?_)
  exact Ak (q1 rfl _ ((x.push _).push _))
 ·have cY:((⟨#[]⟩:Str)==⟨c.toArray⟩)=false:=by
   cases e:((⟨#[]⟩:Str)==⟨c.toArray⟩)with
   |false=>rfl
   |true=>
    have:=eq_of_beq e
    injection this with this
    exact absurd (by exact congrArg Array.toList this.symm) KN
  rw[cY,if_pos (by decide)]
  exact Ak ⟨_,rfl,Ak (q2 KN)⟩
end
end Internal
namespace Internal
open PySem PySem.W PySem.Calls PyProof.Rows
theorem yZ.toks{s₀ s:Ab}(x:yZ s₀ s)(h:Ap)(t:Nat):yZ s₀ {s with heap:=h,toks:=t}:=x.heap h t
structure Rb(s₂:Ab)(D L:Addr)(fp G F wr:List Addr):Prop where
 newD:s₂.heap.get? D=none
 cx:s₂.heap.get? L=none
 DL:D≠L
 Df:D∉fp
 Lf:L∉fp
 DG:D∉G
 LG:L∉G
 DF:D∉F
 LF:L∉F
 Dw:D∉wr
 Lw:L∉wr
inductive CT(s₂:Ab)(D L:Addr)(F wr:List Addr)(St J:Nat->Ap->Prop)(its:List (List PV))(ps:List PV)(n:Nat)(s':Ab):Prop
 |mk (i:Nat) (ys:List Value) (m':Str->Option Value) (hn:n+i=its.length+1) (hi:i<=its.length) (sm:yZ s₂ s') (k:∀b o,b∉F->b∉wr->s₂.heap.get? b=some o->s'.heap.get? b=some o) (st:St i s'.heap) (pl:s'.heap.PlainList D (En ys)) (vs:ao s'.heap (ps.take i) ys [])
  (ns:s'.heap.Ns L m') (j:J i s'.heap):CT s₂ D L F wr St J its ps n s'
inductive ui(F:List Addr)(J:Nat->Ap->Prop)(i:Nat)(p:PV)(s':Ab)(v:Value)(bN:Ab):Prop
 |mk (r:VR bN.heap p v []) (sm:yZ s' bN) (k:∀b o,b∉F->s'.heap.get? b=some o->bN.heap.get? b=some o) (j:J (i+1) bN.heap):ui F J i p s' v bN
theorem ao.bP{h h':Ap}{q:List PV}{u:List Value}(x:ao h q u []):ao h' q u []:=x.on fun a ha=>(Aq ha).elim
section
variable{prog:Program}{w:Co}{target elt iter:Expr}{xs:List Str}{scope:Scope}{pos:B0}{env:Dy}{A:Am}{E:Value->Ab->Prop}{s₂:Ab}{cl:List (Str×Addr)}
  {I:Addr} {fp wr G F:List Addr} {its:List (List PV)} {St:Nat->Ap->Prop} {J:Nat->Ap->Prop} {ps:List PV}
theorem Y9{D L n:Nat}{s':Ab}{R:D6->Ab->Prop}(B:Rb s₂ D L fp G F wr)(aV:scope.kind= .function)(g9:xV xs=true)(bg:∀x∈xs,scope.names.lookup x=some .local)(T:dH prog w A target xs I fp wr its St)(hsz:its.length<=ag)
  (uj:∀a∈wr,a∉G) (wx:∀a∈F,a∉fp) (qu:∀i h h',J i h->(∀a∈G,∀o,h.get? a=some o->h'.get? a=some o)->J i h') (hlen:ps.length=its.length)
  (bw:∀(i:Nat) (it:List PV) (p:PV) (L:Addr) (s':Ab) (m':Str->Option Value) (E':Value->Ab->Prop),its[i]?=some it->ps[i]?=some p->J i s'.heap->s'.heap.Ns L m'->Al (Af prog w) A (eval elt (B8 scope cl L env)) (ui F J i p s') E' s')
  (hR:∀s' m',yZ s₂ s'->(∀b o,b∉F->b∉wr->s₂.heap.get? b=some o->s'.heap.get? b=some o)->s'.heap.Ns L m'->VR s'.heap (.list ps) (.ref D) [D]->J its.length s'.heap->R (.ok .next) s') (x:CT s₂ D L F wr St J its ps n s'):
  HE prog w A elt target [] I (.ref D) (B8 scope cl L env) R (CT s₂ D L F wr St J its ps) n s':=by
 obtain⟨i,ys,m',hn,hi,eT,k,i8,cj,bf,cb,hJ⟩:=x
 rcases Nat.lt_or_eq_of_le hi with aX|rfl
 ·have Rc:i<ps.length:=hlen▸aX
  refine zE (T.item i _ s' _ _ _ (Aw aX) i8 fun us ms ai bU gb fv r5 cD aD=>?_) fun r aa h=> .inr h
  refine BH (by simp[B8,Fg,aV]) xs us _ _ (by refine cw r5 ?_;exact gb.length.symm) g9 (fun x hx=>Gf (bg x hx)) (cb.at' fun o e=>aD _ o B.Lw e) fun au dw gf dz bF gw _=>?_
  have bF:Cd L ai au:=bF
  refine wpAny_tests_nil ?_
  refine af (if_pos rfl) ?_
  have KW:∀b o,b∉wr->b≠L->s'.heap.get? b=some o->au.get? b=some o:=fun b o h1 h2 e=>bF b o h2 (aD b o h1 e)
  refine zE (bw i _ _ L _ gf _ (Aw aX) (Aw Rc) (qu _ _ _ hJ fun a ha o e=>KW a o (fun q=>uj a q ha) (fun q=>B.LG (q▸ha)) e) dz) fun v cN dQ=>?_
  obtain⟨fZ,wy,eX,KY⟩:=dQ
  refine Fi (hsz:=by(refine af A3 ?_;refine af bf.length ?_;refine af Cu ?_;refine af Bo ?_);exact Ad (Il ..) (Ad hi hsz)) (cj.at fun o e=>eX D o B.DF (KW D o B.Dw B.DL e)) fun eE fy dy=>?_
  refine⟨its.length-i,by(refine cw (Nat.add_sub_cancel (n:=n) (m:=i)) ?_;refine af hn ?_;refine af (Nat.succ_sub hi) ?_);exact Bk _,i+1,ys++[v],gf,by(refine cw (C5 ..) ?_;exact af (Nat.sub_add_cancel hi) rfl),aX,((eT.toks au dw).trans wy).heap eE cN.toks,fun b o h1 h2 e=>?_,?_,Jh ..▸fy,?_,(dz.at' fun o e=>eX L o B.LF e).sameBut dy (Hj B.DL),qu _ _ _ KY fun a ha o e=>dy.extBut a o (fun q=>B.DG (q▸ha)) e⟩
  ·exact dy.extBut b o (fun q=>nn (B.newD.symm.trans (q▸e))) (eX b o h1 (KW b o h2 (fun q=>nn (B.cx.symm.trans (q▸e))) (k b o h1 h2 e)))
  ·exact T.frame _ _ _ cD fun b hb o e=>dy.extBut b o (fun q=>B.Df (q▸hb)) (eX b o (fun q=>wx b q hb) (bF b o (fun q=>B.Lf (q▸hb)) e))
  ·rw[List.take_add_one,Aw Rc]
   exact ao.append (bf.bP (h':=eE)) (ao.one (fZ.on fun a ha=>(Aq ha).elim))
 ·refine T.done _ _ _ i8 fun ai bU aD=> .inl ⟨rfl,?_⟩
  rw[<-hlen,Jt]at bf
  exact hR _ m' (eT.heap ai bU) (fun b o h1 h2 e=>aD b o h2 (k b o h1 h2 e)) (cb.at' fun o e=>aD _ o B.Lw e) (.list (cj.at fun o e=>aD D o B.Dw e) bf.bP) (qu _ _ _ hJ fun a ha o e=>aD a o (fun q=>uj a q ha) e)
theorem Za{RR:Value->Addr->D6->Ab->Prop}{iH ah:Ap}{D tk:Nat}{m:Str->Option Value}{oL:Obj}(hL:iH.objs.size=D+1)(wz:iH.get? D=some {cls:= .type "list",dict:=none,data:= .seq ([]:List Value).toArray}) (gk:∀b o,s₂.heap.get? b=some o->iH.get? b=some o) (newD:s₂.heap.get? D=none) (cx:s₂.heap.get? (D+1)=none)
  (aV:scope.kind= .function) (g9:xV xs=true) (bg:∀x∈xs,scope.names.lookup x=some .local)
  (cV:∀b∈fp,∃o,s₂.heap.get? b=some o) (T:dH prog w A target xs I fp wr its St) (st:St 0 s₂.heap) (hsz:its.length<=ag)
  (hG:∀a∈G,∃o,s₂.heap.get? a=some o) (CU:∀a∈F,a∈G) (uj:∀a∈wr,a∉G) (wx:∀a∈F,a∉fp)
  (qu:∀i h h',J i h->(∀a∈G,∀o,h.get? a=some o->h'.get? a=some o)->J i h') (KZ:J 0 s₂.heap) (hlen:ps.length=its.length)
  (bw:∀(i:Nat) (it:List PV) (p:PV) (L:Addr) (s':Ab) (m':Str->Option Value) (E':Value->Ab->Prop),its[i]?=some it->ps[i]?=some p->J i s'.heap->s'.heap.Ns L m'->
   Al (Af prog w) A (eval elt (B8 scope cl L env)) (ui F J i p s') E' s')
  (gv:∀D L s' m',s₂.heap.get? L=none->s₂.heap.get? D=none->D≠L->yZ s₂ s'->(∀b o,b∉F->b∉wr->s₂.heap.get? b=some o->s'.heap.get? b=some o)->s'.heap.Ns L m'->VR s'.heap (.list ps) (.ref D) [D]->J its.length s'.heap->RR (.ref D) L (.ok .next) s')
  (cb:ah.Ns iH.objs.size m) (iG:Heap.SameBut iH.objs.size (iH.push oL) ah):
  Ca (Af prog w) A (.compStart (.ListComp elt [⟨target,iter,[],0⟩] scope pos) 0 (.ref I) (.ref D) (B8 scope cl iH.objs.size env)) (RR (.ref D) iH.objs.size) {s₂ with heap:=ah,toks:=tk}:=by
 rw[hL]at cb iG⊢
 have old:∀b o,s₂.heap.get? b=some o->ah.get? b=some o:=fun b o e=>iG.extBut b o (fun q=>nn (cx.symm.trans (q▸e))) (Ag _ (gk b o e))
 have off:∀{l:List Addr} {a:Addr},(∀b∈l,∃o,s₂.heap.get? b=some o)->s₂.heap.get? a=none->a∉l:=fun h e hm=>xU (h _ hm) e rfl
 have B:Rb s₂ D (D+1) fp G F wr:=⟨newD,cx,Br (Bk _),off cV newD,off cV cx,off hG newD,off hG cx,fun h=>off hG newD (CU _ h),fun h=>off hG cx (CU _ h),fun h=>off cV newD (T.sub _ h),fun h=>off cV cx (T.sub _ h)⟩
 have qv:=T.frame _ _ _ st fun b _ o e=>old b o e
 have loop:=Pk (iter:=iter) (scope:=scope) (pos:=pos) (R:=RR (.ref D) (D+1)) (CT s₂ D (D+1) F wr St J its ps) (fun n s' x=>Y9 B aV g9 bg T hsz uj wx qu hlen bw (fun s' m'=>gv D (D+1) s' m' cx newD B.DL) x) (its.length+1) (s:={s₂ with heap:=ah,toks:=tk})
  ⟨0,[],_,rfl,C2 _,⟨ah,_,s₂.gens,rfl, .rfl' _⟩,fun b o _ _ e=>old b o e,qv,⟨_,iG.extBut _ _ B.DL (Ag _ wz)⟩, .nil,cb,qu _ _ _ KZ fun b _ o e=>old b o e⟩
 exact Hg loop (T.self 0 _ _ _ qv loop)
theorem Zb{RR:Value->Addr->D6->Ab->Prop}
  (aV:scope.kind= .function) (g9:xV xs=true) (bg:∀x∈xs,scope.names.lookup x=some .local) (aT:∀y∈scope.names,y.2≠ .cell)
  (cV:∀b∈fp,∃o,s₂.heap.get? b=some o) (T:dH prog w A target xs I fp wr its St) (st:St 0 s₂.heap) (hsz:its.length<=ag)
  (hG:∀a∈G,∃o,s₂.heap.get? a=some o) (CU:∀a∈F,a∈G) (uj:∀a∈wr,a∉G) (wx:∀a∈F,a∉fp)
  (qu:∀i h h',J i h->(∀a∈G,∀o,h.get? a=some o->h'.get? a=some o)->J i h') (KZ:J 0 s₂.heap) (hlen:ps.length=its.length)
  (bw:∀(i:Nat) (it:List PV) (p:PV) (L:Addr) (s':Ab) (m':Str->Option Value) (E':Value->Ab->Prop),its[i]?=some it->ps[i]?=some p->J i s'.heap->s'.heap.Ns L m'->
   Al (Af prog w) A (eval elt (B8 scope cl L env)) (ui F J i p s') E' s')
  (gv:∀D L s' m',s₂.heap.get? L=none->s₂.heap.get? D=none->D≠L->yZ s₂ s'->(∀b o,b∉F->b∉wr->s₂.heap.get? b=some o->s'.heap.get? b=some o)->s'.heap.Ns L m'->VR s'.heap (.list ps) (.ref D) [D]->J its.length s'.heap->RR (.ref D) L (.ok .next) s'):
  Al (Af prog w) A (Ma []) (fun acc ak=>Al (Af prog w) A (Gg scope env.globals cl [] env.qual none .none (some env)) (fun bo aU=>
   Ca (Af prog w) A (.compStart (.ListComp elt [⟨target,iter,[],0⟩] scope pos) 0 (.ref I) acc {bo with scope:=Fg scope env}) (RR acc bo.locals) aU) E ak) E s₂:=by
 refine Cb (Fb aT (by intro y hy;simp at hy) (fun ah dR dA=>?_) aV)
 have hL:(s₂.heap.push {cls:= .type "list",dict:=none,data:= .seq ([]:List Value).toArray}).objs.size=s₂.heap.objs.size+1:=Ez ..
 have wz:=Av (h:=s₂.heap) (o:={cls:= .type "list",dict:=none,data:= .seq ([]:List Value).toArray}) rfl
 have gk:∀b o,s₂.heap.get? b=some o->(s₂.heap.push {cls:= .type "list",dict:=none,data:= .seq ([]:List Value).toArray}).get? b=some o:=fun b o e=>Ag _ e
 have newD:s₂.heap.get? s₂.heap.objs.size=none:=yP 0
 have cx:s₂.heap.get? (s₂.heap.objs.size+1)=none:=yP 1
 exact Za (s₂:=s₂) hL wz gk newD cx aV g9 bg cV T st hsz hG CU uj wx qu KZ hlen bw gv dR dA
end
noncomputable abbrev Rd(sg:Str)(p1 dX gT:B0):Expr:= .Call (.Attribute (.Name sg p1) "pop" dX) [] [] gT
noncomputable abbrev LA(sg si sz:Str)(jk:Nat)(jp ap p1 dX gT px p2 p3 gR sp lp cp:B0)(aE:Scope):Expr:=
 .Call (.Attribute (.Constant (.str "") jk jp) "join" ap) [.ListComp (Rd sg p1 dX gT) [⟨.Name si px, .Subscript (.Name sg p2) (.Slice none (some (.Name sz p3)) none gR) sp,[],0⟩] aE lp] [] cp
noncomputable def dG(cs:List Nat):List PV:=cs.map fun c=>PV.str [c]
theorem Rf:∀cs:List Nat,PV.strs (dG cs)=some (cs.map fun c=> [c])
 |[]=>rfl
 |c::r=>by refine(?_:(PV.strs (dG r)).map _=_);rw[Rf r];rfl
theorem LB:∀cs:List Nat,(dG cs).all PV.ba=true
 |[]=>rfl
 |c::r=>by refine(?_:(PV.ba (.str [c])&&(dG r).all PV.ba)=true);rw[LB r];rfl
theorem Rg:∀cs:List Nat,lj [] (cs.map fun c=> [c])=cs
 |[]=>rfl
 |[c]=>rfl
 |c::d::r=>by
  refine(?_:[c]++[]++lj [] ((d::r).map fun c=> [c])=_)
  rw[Rg (d::r)];rfl
theorem Zc{kn:List (Str×Dd)}{sc:List (Str×Dd)}{x:Str}(h:sc.lookup x=some .free)(hc:kn.lookup x≠some .cell):(jI kn sc).lookup x=some .free:=by
 induction sc with
 |nil=>exact nn h
 |cons z r ih=>
  obtain⟨n,k₁⟩:=z
  refine(?_:Fs x ((if(k₁== .free&&kn.lookup n==some .cell)=true then(n,C7)else(n,k₁))::jI kn r)=_)
  rw[A7]at h
  cases hx:x==n with
  |true=>
   rw[hx]at h
   have lq:(kn.lookup n==some .cell)=false:=eq_of_beq hx▸beq_false_of_ne hc
   (refine af lq ?_;refine af (Bool.and_false ..) ?_;refine af (if_neg Bt) ?_;refine af A7 ?_;refine af hx ?_);exact h
  |false=>
   rw[hx]at h
   cases hq:(k₁== .free&&kn.lookup n==some .cell)with
   |true=>rw[if_pos rfl,A7,hx];exact ih h
   |false=>rw[if_neg Bt,A7,hx];exact ih h
theorem Zd{scope:Scope}{env:Dy}(hk:env.scope.kind= .function):(Fg scope env).names=jI env.scope.names scope.names:=by
 unfold Fg jI
 refine(?_:scope.names.map _=_)
 refine Cv fun z _=>?_
 obtain⟨n,kk⟩:=z
 refine(?_:(if(kk==Ce&&env.scope.kind== .function&&env.kindOf n==some .cell)=true then _ else _)=_)
 have e1:(env.scope.kind==G2)=true:=by refine af hk ?_;rfl
 refine af e1 ?_
 refine af (Lk ..) ?_
 rfl
structure Ze(h:Ap)(lam cell:Addr)(sg si sz:Str)(jk:Nat)(jp ap p1 dX gT px p2 p3 gR sp lp cp:B0)(aE ay:Scope)(params:Arguments):Prop where
 obj:∃o name qual pm r7 fX,h.get? lam=some o/\o.data= .func (kla_fn name qual params (LA sg si sz jk jp ap p1 dX gT px p2 p3 gR sp lp cp aE) ay [(sg,cell)] pm r7 fX)/\h.CodeRec r7 qual
structure CV(W:bx)(sg si sz:Str)(ap p1 dX gT px p2 p3 gR sp lp cp:B0)(aE ay:Scope)(params:Arguments):Prop where
 k1:ay.kind= .function
 co:ay.isCoroutine=false
 gen:ay.isGenerator=false
 n1:ay.names=[(sz, .local),(sg, .free)]
 k2:aE.kind= .function
 l2:aE.names.lookup si=some .local
 f2:aE.names.lookup sg=some .free
 c2:aE.names.all (fun y=>y.2 != .cell&&(y.2 != .local||aE.names.lookup y.1==some .local)&&(y.2 != .free||y.1==sg))=true
 bad:bad sg=false
 ne:sz≠sg
 line:(ap.endLine==cp.line)=true/\(dX.endLine==gT.line)=true
 bind:∀name qual body pm r7 fX cl v,Fc (kla_fn name qual params body ay cl pm r7 fX) ⟨[v],[]⟩=pure [(sz,v)]
 it:av W ⟨ay.names,[(sg,0),(sz,1)],2⟩ (.Subscript (.Name sg p2) (.Slice none (some (.Name sz p3)) none gR) sp) (.bI (.var 0) .no (.yes (.var 1)) .no)
inductive kL(h:Ap)(l:Addr)(cs:List Nat):Prop
 |mk (us:List Value) (e:h.PlainList l (En us)) (r:ao h (dG cs.reverse) us []):kL h l cs
theorem kL.at'{h h':Ap}{l:Addr}{cs:List Nat}(x:kL h l cs)(k:∀o,h.get? l=some o->h'.get? l=some o):kL h' l cs:=by
 obtain⟨us,h1,h2⟩:=x
 exact⟨us,h1.at k,h2.bP⟩
noncomputable def oX(cell l:Addr)(cs:List Nat)(i:Nat)(h:Ap):Prop:=h.IsCell cell (some (.ref l))/\kL h l (cs.drop i)
theorem oX.up{h h':Ap}{cell l:Addr}{cs:List Nat}{i:Nat}(j:oX cell l cs i h)(k:∀a∈[cell,l],∀o,h.get? a=some o->h'.get? a=some o):oX cell l cs i h':=
 ⟨j.1.elim fun o e=>⟨o,k _ (.head _) _ e.1,e.2⟩,j.2.at' fun o e=>k _ (.tail _ (.head _)) o e⟩
inductive LC(l:Addr)(cs:List Nat)(s:Ab)(v:Value)(s':Ab):Prop
 |mk (D:Addr) (e:v= .ref D) (r:VR s'.heap (.list (dG (cs.take 1))) (.ref D) [D]) (sm:yZ s s') (k:∀b o,b≠l->s.heap.get? b=some o->s'.heap.get? b=some o) (j:kL s'.heap l (cs.drop 1)):LC l cs s v s'
inductive Rh(l:Addr)(cs:List Nat)(s:Ab)(res:D6)(s':Ab):Prop
 |mk (t:Js) (e:res= .ok (.ret (.str ⟨(cs.take 1).toArray⟩ t))) (sm:yZ s s') (k:∀b o,b≠l->s.heap.get? b=some o->s'.heap.get? b=some o) (j:kL s'.heap l (cs.drop 1)):Rh l cs s res s'
section
variable{W:bx}{sg si sz:Str}{jk:Nat}{jp ap p1 dX gT px p2 p3 gR sp lp cp:B0}{aE ay:Scope}{params:Arguments}
theorem Zg{A:Am}{E:Value->Ab->Prop}{s:Ab}{env:Dy}{cell l:Addr}{c:Nat}{cs:List Nat}(H:CV W sg si sz ap p1 dX gT px p2 p3 gR sp lp cp aE ay params)
  (hk:env.scope.kind= .function) (hf:env.kindOf sg=some .free) (hc:env.cells.lookup sg=some cell) (j:oX cell l (c::cs) 0 s.heap) (hsz:cs.length+1<=ag) (cY:cell≠l):
  Al (Af W.prog W.w) A (eval (Rd sg p1 dX gT) env) (ui [l] (oX cell l (c::cs)) 0 (.str [c]) s) E s:=by
 obtain⟨aT,us,cj,bf⟩:=j
 rw[Dz,show dG (c::cs).reverse=dG cs.reverse++[.str [c]]by simp[dG]]at bf
 refine u3 bf.snoc fun ua y r' n iv e3 e4 e5 e6=>?_
 subst iv
 refine Call_method0 (wJ rfl _ env _) H.line.2 (Bq (zS hk (.inr ⟨.inr hf,cell,hc,aT⟩) ?_ (wP H.bad)) (wD H.bad))
 refine lU ("list") _ Eg E2 Hp cj.isList.typeIs (BQ cj) (Dc rfl (Ir ?_))
 refine PY cj (by have:=e3.length;simp[dG]at this;lia) fun h' gj eY=>?_
 obtain rfl:=IX e5
 obtain rfl:=IX e6
 exact⟨e4.bP rfl,⟨h',_,s.gens,rfl, .rfl' _⟩,fun b o hb e=>eY b o (fun q=>hb (q▸ .head _)) e,aT.elim fun o e=>⟨o,eY _ _ cY e.1,e.2⟩,ua,gj,e3.bP⟩
theorem LD{β:Type}{x a:Str}{i k:β}{l:List (Str×β)}(e:Fs x ((a,i)::l)=some k):(a=x/\i=k)\/((x==a)=false/\l.lookup x=some k):=by
 rw[A7]at e
 cases h:x==a with
 |true=>rw[h]at e;exact .inl ⟨(eq_of_beq h).symm,Aa e⟩
 |false=>rw[h]at e;exact .inr ⟨rfl,e⟩
theorem Zh(cs:List Nat):cs.drop (min 1 cs.length)=cs.drop 1:=by
 cases cs with
 |nil=>rfl
 |cons c r=>rw[show min 1 (c::r).length=1 by simp]
theorem Ri{β:Type}{x a:Str}{i k:β}(e:Fs x [(a,i)]=some k):a=x/\i=k:=(LD e).elim id fun h=>nn h.2
theorem Zi{A:Am}{env:Dy}{s:Ab}{ah:Ap}{tk:Nat}{cell l:Addr}{cs:List Nat}{t:Js}{m:Str->Option Value}(H:CV W sg si sz ap p1 dX gT px p2 p3 gR sp lp cp aE ay params)(aP:wO W.D A)(wd:W.Wd ah)(eJ:env.scope=ay)(rf:env.globals=mainGlobals)(lZ:env.builtins=builtinsNs)
  (lA:env.cells.lookup sg=some cell) (kf:env.kindOf sg=some .free) (cb:ah.Ns env.locals m) (hm:m sz=some (.int 1 t)) (aT:ah.IsCell cell (some (.ref l))) (hs:kL ah l cs):
  Pre W ⟨ay.names,[(sg,0),(sz,1)],2⟩ env A [some (.list (dG cs.reverse)),some (.int 1)] {s with heap:=ah,toks:=tk} where
 kind:=by refine af eJ ?_;exact H.k1
 names:=by exact af eJ rfl
 gl:=rf
 bl:=lZ
 room:=aP
 len:=rfl
 rd:=fun x i p k e1 e2 e3 e4=>by
  obtain⟨us,cj,bf⟩:=hs
  rcases LD e3 with⟨rfl,rfl⟩|⟨_,e3⟩
  ·obtain rfl:=Aa (Aa e4)
   exact nV (.ref l) (l::[]) (.inr ⟨.inr kf,cell,lA,aT⟩) (.list cj bf)
  ·refine aq (Ri e3) fun aG aM=>?_
   subst aG
   subst aM
   obtain rfl:=Aa (Aa e4)
   exact nV (.int 1 t) ([]) (.inl ⟨by unfold Be;(refine af eJ ?_;refine af H.n1 ?_);simp,_,cb,hm⟩) (.int ..)
 wd:=wd
 eP:=fun x k e1 e2=>by
  have e1:ay.names.lookup x=some k:=e1
  rw[H.n1]at e1
  rcases LD e1 with⟨rfl,rfl⟩|⟨_,e1⟩
  ·rcases e2 with h|h<;>cases h
  ·refine aq (Ri e1) fun aG aM=>?_
   subst aG
   subst aM
   exact cu cell lA
theorem Zj{U:Uc}{cs:List Nat}(hsz:cs.length<=ag):ev U (.bI (.var 0) .no (.yes (.var 1)) .no) [some (.list (dG cs.reverse)),some (.int 1)]=some (.list (dG (cs.reverse.take 1))):=by
 have w0:(dG cs.reverse).length=cs.length:=by rw[dG,An,Dj]
 refine(?_:(if(dG cs.reverse).length<=ag then some _ else none)=_)
 refine xT (by rw[w0];exact hsz) ?_
 refine congrArg some (congrArg PV.list ?_)
 refine(?_:((dG cs.reverse).drop 0).take (min 1 (dG cs.reverse).length-0)=_)
 rw[Dz,w0,dG,<-Eb]
 refine congrArg (List.map _) ?_
 cases cs with
 |nil=>rfl
 |cons c r=>rw[show min 1 (c::r).length-0=1 by simp]
theorem Zk{A:Am}{E:Value->Ab->Prop}{env:Dy}{s:Ab}{kn:List (Str×Dd)}{cell l:Addr}{cs:List Nat}{elt it:Expr}(LH:aE.kind= .function)(l2:aE.names.lookup si=some .local)(f2:aE.names.lookup sg=some .free)
  (c2:aE.names.all (fun y=>y.2 != .cell&&(y.2 != .local||aE.names.lookup y.1==some .local)&&(y.2 != .free||y.1==sg))=true)
  (bw:∀(env:Dy) (E:Value->Ab->Prop) (s:Ab) (c:Nat) (r:List Nat),env.scope.kind= .function->env.kindOf sg=some .free->env.cells.lookup sg=some cell->oX cell l (c::r) 0 s.heap->r.length+1<=ag->Al (Af W.prog W.w) A (eval elt env) (ui [l] (oX cell l (c::r)) 0 (.str [c]) s) E s)
  (hit:av W ⟨kn,[(sg,0),(sz,1)],2⟩ it (.bI (.var 0) .no (.yes (.var 1)) .no)) (w2:∀x,Ef it env x=pure x) (P:Pre W ⟨kn,[(sg,0),(sz,1)],2⟩ env A [some (.list (dG cs.reverse)),some (.int 1)] s)
  (kf:env.kindOf sg=some .free) (lA:env.cells.lookup sg=some cell) (hj:oX cell l cs 0 s.heap) (hsz:cs.length<=ag):
  Al (Af W.prog W.w) A (eval (.ListComp elt [⟨.Name si px,it,[],0⟩] aE lp) env) (LC l cs s) E s:=by
 refine af (Ll ..) ?_
 have h2:=fun y hy=>b2 (Ao.mp c2 y hy)
 obtain⟨cl,fC,LI⟩:=BG (scope:=aE) (env:=env) fun y hy hf=>by
  have h:=(h2 y hy).2
  rw[hf]at h
  exact cu cell ((show y.1=sg from eq_of_beq h)▸lA)
 have gK:∀a∈[cell,l],∃o,s.heap.get? a=some o:=fa (hj.1.elim fun o e=>⟨o,e.1⟩) (fa (by obtain⟨_,⟨_,e⟩,_⟩:=hj.2;exact⟨_,e⟩) dO)
 refine Fd (use:=none) rfl w2 fC LH (fun y hy hl=>by
  have h:=(b2 (h2 y hy).1).2
  rw[hl]at h
  exact eq_of_beq h) (zE (hit env _ _ _ _ _ P (Zj hsz)) fun xv aa fu=>?_)
 obtain⟨k₁,ns,rv,fr⟩:=fu
 have fr:=fr (LB _)
 refine zE (HJ (x:=si) (px:=px) P.room.hh k₁ rv) fun it s₂ w3=>?_
 obtain⟨I,fp,wr,St,rfl,aI,eu,cV,T,st,kM⟩:=w3
 have nE:((dG (cs.reverse.take 1)).map fun p=> [p]).length=min 1 cs.length:=by simp[dG]
 have up:=zV aI
 refine Zb (RR:=fun acc L=>compPost (Af W.prog W.w) A _ none (LC l cs s) acc L) (G:=[cell,l]) (F:=[l]) (J:=oX cell l cs) (ps:=dG (cs.take 1)) LH rfl (fa l2 dO) (fun y hy q=>by
   have h:=(b2 (h2 y hy).1).1
   rw[q]at h;exact ft h) cV T st (by refine af nE ?_;exact Ad (Il ..) (by decide)) (fun a ha=>(gK a ha).elim fun o e=>⟨o,up _ _ e⟩) (fun a ha=> .tail _ ha) (fun a ha hg=>xU (gK a hg) (eu a ha) rfl) (fun a ha hf=>?_) (fun i h h' hj hk=>hj.up hk) (hj.up fun a _ o e=>up a o e) (by refine af nE ?_;simp[dG]) (fun i it p L s' m' E' hi hp LJ hn=>?_) (fun D L s' m' nL nD Zl eT w4 hn hv LJ=>?_)
 ·exact(kM a hf).elim (fun h=>xU (gK a (.tail _ ha)) h rfl) fun h=>xU (gK a (.tail _ ha)) (fr.new a h) rfl
 ·have vA:i<min 1 cs.length:=nE▸(Bc.mp hi).1
  cases cs with
  |nil=>exact absurd vA (by simp)
  |cons c r=>
   obtain rfl:i=0:=Nat.lt_one_iff.mp (D7 vA (Il ..))
   obtain rfl:PV.str [c]=p:=Aa hp
   refine bw _ _ _ c r LH ?_ (LI sg cell lA (zT f2)) LJ hsz
   refine(?_:(Fg aE env).names.lookup sg=_)
   refine af (Zd P.kind) ?_
   exact Zc f2 (by refine af (show env.scope.names.lookup sg=some .free from kf) ?_;exact fun q=>Ie (Aa q))
 ·refine i12 m' hn (fun h' dq=>⟨D,rfl,hv.on fun a ha o e=>dq.extBut a o (by refine af (Ae.mp ha) ?_;exact Zl) e,(((yZ.refl s).kg aI).trans eT).heap h' _,fun b o hb e=>?_,?_⟩)
  ·exact dq.extBut b o (fun q=>nn (nL.symm.trans (q▸up b o e))) (w4 b o (fun h=>hb (Ae.mp h)) (fun hw=>nn ((eu b hw).symm.trans e)) (up b o e))
  ·have BD:=LJ.2
   rw[nE,Zh]at BD
   exact BD.at' fun o e=>dq.extBut l o (fun q=>(gK l (.tail _ (.head _))).elim fun o e=>nn (nL.symm.trans (q▸up l o e))) e
theorem Zm{A:Am}{s:Ab}{lam cell l:Addr}{cs:List Nat}{t:Js}(H:CV W sg si sz ap p1 dX gT px p2 p3 gR sp lp cp aE ay params)
  (aP:wO (W.D+1) A) (wd:W.Wd s.heap) (cA:s.heap.NoLimit) (F:Ze s.heap lam cell sg si sz jk jp ap p1 dX gT px p2 p3 gR sp lp cp aE ay params)
  (aT:s.heap.IsCell cell (some (.ref l))) (hs:kL s.heap l cs) (hsz:cs.length<=ag):
  Ca (Af W.prog W.w) A (.call (.ref lam) ⟨[.int 1 t],[]⟩) (Rh l cs s) s:=by
 refine GC F.obj fun o name qual pm r7 fX ho hd gN=>?_
 have r5:cell≠l:=fun q=>by
  obtain⟨us,⟨n,e⟩,_⟩:=hs
  rw[<-q]at e;exact wX aT e
 have cY:(sg==sz)=false:=beq_false_of_ne H.ne.symm
 refine kla_callFunE (Ds (C8 ..) aP.depth) ho hd H.co H.gen rfl gN ?_
 refine af (H.bind ..) ?_
 refine Ak (Fb (by refine(?_:∀x∈ay.names,x.2≠ .cell);refine af H.n1 ?_;exact fa (fun h=>Ie h) (fa (fun h=>Ie h) dO)) (by intro x hx;refine af (Ae.mp hx) ?_;refine(?_:ay.names.lookup sz=_);refine af H.n1 ?_;simp) (fun ah cb iG=>?_) H.k1)
 have up:Sub s.heap ah:=fun b o e=>iG.extBut b o (Br (Bm e)) (Ag _ e)
 refine bZ (cA.keeps up) ?_
 generalize bM:newEnv (kla_fn name qual params (LA sg si sz jk jp ap p1 dX gT px p2 p3 gR sp lp cp aE) ay [(sg,cell)] pm r7 fX).scope _ _ _ _ _ _ _ _=env
 have eJ:env.scope=ay:=bM▸rfl
 have BO:env.locals=s.heap.objs.size:=bM▸rfl
 have kf:env.kindOf sg=some .free:=by
  unfold Be;(refine af eJ ?_;refine af H.n1 ?_;refine af A7 ?_;refine af cY ?_);simp
 have lA:env.cells.lookup sg=some cell:=by refine af (show env.cells=[(sg,cell)]from bM▸rfl) ?_;simp
 have P:=Zi (s:=s) (t:=t) (tk:=s.toks+[(sz,Value.int 1 t)].length) H (aP.deeper env) (W.mono wd up) eJ (bM▸rfl) (bM▸rfl) lA kf (BO▸cb) (by simp) (aT.keeps up) (hs.at' fun o e=>up l o e)
 clear bM
 refine kla_codeExpr ?_
 refine Iy (wJ rfl _ env _) (zF rfl [] env) H.line.1 (Dt ?_)
 refine lU ("str") _ PySem.F.plainAttrs_str PySem.F.slot_str_join PySem.F.type_str_join (Ht _ _ _) (fun _ e=>Value.noConfusion e) (Dc rfl (E1 (A8 ?_)))
 refine zE (Zk (px:=px) (lp:=lp) H.k2 H.l2 H.f2 H.c2 (fun env E s c r h1 h2 h3 h4 h5=>Zg H h1 h2 h3 h4 h5 r5) H.it (fun x=>wW rfl env x) (P.kp (wZ _ _)) kf lA ⟨aT.keeps up,hs.at' fun o e=>up l o e⟩ hsz) fun v s' h=>B4 ?_
 obtain⟨D,rfl,hv,sm,k,j⟩:=h
 refine i5 hv.inv fun _ vs _ hl oy e _=>?_
 obtain rfl:=Gu e
 refine He (s:=s') (x:=mkStr []) hl.isList (oy.strs (Rf _)) ?_ fun t' k'=>?_
 ·have h1:∀z:List Nat,(mkStr z).length=z.length:=fun z=>by simp[mkStr,Cf]
  refine af A9 ?_
  refine af (An ..) ?_
  refine af (h1 ..) ?_
  cases cs with
  |nil=>simp
  |cons c r=>simp[h1,Bo]
 ·refine af (GW ..) ?_
  refine af (Rg ..) ?_
  exact⟨t',rfl,((⟨ah,_,s.gens,rfl, .rfl' _⟩:yZ s {s with heap:=ah,toks:=s.toks+[(sz,Value.int 1 t)].length+1}).trans sm).heap s'.heap k',fun b o hb e=>k b o hb (up b o e),j⟩
end
set_option genSizeOf false
set_option genInjectivity false
section
variable{prog:Program}{w:Co}{A:Am}{E:Value->Ab->Prop}{s:Ab}{env:Dy}
theorem Rj{o:Expr}{name:Str}{apos pos:B0}{Q:Value->Ab->Prop}(bz:C6 o name env (eval o env)=eval o env)(aQ:(apos.endLine==pos.line)=true)
  (h:Al (Af prog w) A (eval o env) (fun ov aa=>∀pl,Al (Af prog w) A (getMethod ov name pl) (fun fx s₂=>Al (Af prog w) A (callWith pos fx.1 fx.2 (J5 pos (B1 [] env)) []) Q E s₂) E aa) E s):
  Al (Af prog w) A (eval (.Call (.Attribute o name apos) [] [] pos) env) Q E s:=by
 refine af (arm_eval_Call ..) ?_
 refine af bz ?_
 refine Ac (Bu h (fun ov aa ah=>?_) fun _ _ e=>e)
 refine Ac (Cm ?_)
 have mm:methodCallForm (([]:List Expr).length+([]:List Keyword).length) (J5 pos (B1 [] env)) (backToKw pos (keywordEach [] env))=true:=rfl
 have r8:Jr true o env apos pos=pure pos:=by unfold Jr;simp[aQ]
 unfold methodCall
 refine af mm ?_
 refine Ac (Ea (Bu (ah _) (fun fx s₂ ai=>?_) fun _ _ e=>e))
 exact Ac (B5 r8 ai)
theorem Zn{o x:Expr}{name:Str}{apos pos:B0}{Q:Value->Ab->Prop}(bz:C6 o name env (eval o env)=eval o env)(aQ:(apos.endLine==pos.line)=true)(hs:B1 [x] env=[(false,eval x env)])
  (h:Al (Af prog w) A (eval o env) (fun ov aa=>∀pl,Al (Af prog w) A (getMethod ov name pl) (fun fx s₂=>Al (Af prog w) A (callWith pos fx.1 fx.2 (J5 pos (B1 [x] env)) []) Q E s₂) E aa) E s):
  Al (Af prog w) A (eval (.Call (.Attribute o name apos) [x] [] pos) env) Q E s:=by
 refine af (arm_eval_Call ..) ?_
 refine af bz ?_
 refine Ac (Bu h (fun ov aa ah=>?_) fun _ _ e=>e)
 refine Ac (Cm ?_)
 have mm:methodCallForm (([x]:List Expr).length+([]:List Keyword).length) (J5 pos (B1 [x] env)) (backToKw pos (keywordEach [] env))=true:=by refine af hs ?_;rfl
 have r8:Jr true o env apos pos=pure pos:=by unfold Jr;simp[aQ]
 unfold methodCall
 refine af mm ?_
 refine Ac (Ea (Bu (ah _) (fun fx s₂ ai=>?_) fun _ _ e=>e))
 exact Ac (B5 r8 ai)
theorem Zo{pos:B0}{f:Addr}{o:Obj}{fd:FuncData}{first:List Value}{x:Expr}{Q:Value->Ab->Prop}(hs:B1 [x] env=[(false,eval x env)])(mi:o.data= .func fd)
  (h:Al (Af prog w) A (eval x env) (fun v aa=>aa.heap.get? f=some o/\Al (Af prog w) A (call (.ref f) (first++[v])) Q E aa) E s):
  Al (Af prog w) A (callWith pos (.ref f) first (J5 pos (B1 [x] env)) []) Q E s:=by
 rw[hs]
 exact Calls.callWith_function (o:=o) (fd:=fd) (Calls.evalArgs_plain (A8 (Bu h (fun v aa ah=>B4 ⟨⟨ah.1,mi⟩,ah.2⟩) fun _ _ e=>e)))
end
structure bX where
 sg:Str
 si:Str
 sz:Str
 jk:Nat
 jp:B0
 ap:B0
 p1:B0
 dX:B0
 gT:B0
 px:B0
 p2:B0
 p3:B0
 gR:B0
 sp:B0
 lp:B0
 cp:B0
 aE:Scope
 ay:Scope
 params:Arguments
noncomputable def bX.Ok(R:bX)(W:bx):Prop:=CV W R.sg R.si R.sz R.ap R.p1 R.dX R.gT R.px R.p2 R.p3 R.gR R.sp R.lp R.cp R.aE R.ay R.params
noncomputable def bX.body(R:bX):Expr:=LA R.sg R.si R.sz R.jk R.jp R.ap R.p1 R.dX R.gT R.px R.p2 R.p3 R.gR R.sp R.lp R.cp R.aE
inductive Rk(h:Ap)(C N:Addr):Prop
 |mk (nm q:Str) (bs:List Value) (sn:List Str) (sub:List Value) (col:Option Bool) (dd:Option Addr) (k0 k1 k2 k3 k5:Option Value) (e:h.get? C=some (excClassObj nm q C N bs [.type "object"] true sn sub false col dd k0 k1 k2 k3 k5 "object.__new__")):Rk h C N
inductive Rl(h:Ap)(N fI fR fG fP:Addr):Prop
 |mk (mN:Str->Option Value) (hN:h.Ns N mN) (i:mN "__init__" =some (.ref fI)) (r:mN "_read_char" =some (.ref fR)) (g:mN "get_token" =some (.ref fG)) (p:mN "push_token" =some (.ref fP)) (ga:mN "__getattribute__" =none) (gh:mN "__getattr__" =none) (sa:mN "__setattr__" =none)
  (n1:mN "lineno" =none) (n2:mN "instream" =none) (n3:mN "whitespace" =none) (n4:mN "pushback" =none):Rl h N fI fR fG fP
structure fY(h:Ap)(C N fI fR fG fP:Addr):Prop where
 cls:Rk h C N
 ns:Rl h N fI fR fG fP
theorem fY.at'{h h':Ap}{C N fI fR fG fP:Addr}(x:fY h C N fI fR fG fP)(kC:∀o,h.get? C=some o->h'.get? C=some o)(kN:∀o,h.get? N=some o->h'.get? N=some o):fY h' C N fI fR fG fP:=by
 obtain⟨nm,q,bs,sn,sub,col,dd,k0,k1,k2,k3,k5,e⟩:=x.cls
 obtain⟨mN,hN,i,r,g,p,ga,gh,sa,n1,n2,n3,n4⟩:=x.ns
 exact⟨⟨nm,q,bs,sn,sub,col,dd,k0,k1,k2,k3,k5,kC _ e⟩,mN,hN.at' kN,i,r,g,p,ga,gh,sa,n1,n2,n3,n4⟩
theorem fY.keeps{h h':Ap}{C N fI fR fG fP:Addr}(x:fY h C N fI fR fG fP)(k:Sub h h'):fY h' C N fI fR fG fP:=x.at' (k C) (k N)
inductive lH(h:Ap)(a:Addr)(name qual:Str)(params:Arguments)(body:List Stmt)(scope:Scope):Prop
 |mk (o:Obj) (pm cd doc:Value) (e:h.get? a=some o) (c:o.cls= .type "function") (d:o.data= .func (Ig name qual params body scope pm cd doc .none)) (r:h.CodeRec cd qual):lH h a name qual params body scope
noncomputable abbrev XF(h:Ap)(x C dx:Addr):Prop:=∃o,h.get? x=some o/\o.cls= .ref C/\(∀c,o.data≠ .cls c)/\o.dict=some dx
noncomputable abbrev r9(h:Ap)(dx st pb:Addr)(l:Int):Prop:=∃mA,h.Ns1 dx mA/\(∃t,mA "lineno" =some (.int l t))/\mA "instream" =some (.ref st)/\(∃t,mA "whitespace" =some (.str ⟨#[10,9,13,32]⟩ t))/\mA "pushback" =some (.ref pb)/\∀n:Str,n∉(["lineno", "instream", "whitespace", "pushback"]:List Str)->mA n=none
noncomputable abbrev oY(h:Ap)(st ds:Addr):Prop:=∃o fd,h.get? st=some o/\o.cls= .type "function" /\o.data= .func fd/\o.dict=some ds
noncomputable abbrev nI(h:Ap)(ds lam:Addr):Prop:=∃m,h.Ns ds m/\m "read" =some (.ref lam)
noncomputable abbrev mn(R:bX)(h:Ap)(lam cc cell:Addr):Prop:=∃o name qual pm fX,h.get? lam=some o/\o.data= .func (kla_fn name qual R.params R.body R.ay [(R.sg,cell)] pm (.ref cc) fX)/\h.CodeRec (.ref cc) qual
noncomputable abbrev qw(h:Ap)(pb:Addr)(ws:List (List Nat)):Prop:=∃us,h.PlainList pb (En us)/\ao h (ws.map PV.str) us []
section
variable{h h':Ap}{x C dx st pb ds lam cc cell:Addr}{l:Int}{R:bX}{ws:List (List Nat)}
noncomputable abbrev lI(h h':Ap)(a:Addr):Prop:=∀o,h.get? a=some o->h'.get? a=some o
theorem XF.up(f:XF h x C dx)(k:lI h h' x):XF h' x C dx:=by obtain⟨o,e,r⟩:=f;exact⟨o,k _ e,r⟩
theorem r9.up(f:r9 h dx st pb l)(k:lI h h' dx):r9 h' dx st pb l:=by obtain⟨mA,⟨o,es,ep,e,r0⟩,r⟩:=f;exact⟨mA,⟨o,es,ep,k o e,r0⟩,r⟩
theorem oY.up(f:oY h st ds)(k:lI h h' st):oY h' st ds:=by obtain⟨o,fd,e,r⟩:=f;exact⟨o,fd,k _ e,r⟩
theorem nI.up(f:nI h ds lam)(k:lI h h' ds):nI h' ds lam:=by obtain⟨m,e,r⟩:=f;exact⟨m,e.at' fun o e=>k o e,r⟩
theorem mn.up(f:mn R h lam cc cell)(k:lI h h' lam)(k':lI h h' cc):mn R h' lam cc cell:=by
 obtain⟨o,name,qual,pm,fX,e,e2,c,oc,vs,t,e3,e4,r⟩:=f
 exact⟨o,name,qual,pm,fX,k _ e,e2,c,oc,vs,t,e3,Gu e3▸k' _ (Gu e3▸e4),r⟩
theorem qw.up(f:qw h pb ws)(k:lI h h' pb):qw h' pb ws:=by obtain⟨us,e,r⟩:=f;exact⟨us,e.at fun o e=>k o e,r.on fun a ha=>(Aq ha).elim⟩
theorem XF.bV(f:XF h x C dx):∃o,h.get? x=some o:=f.elim fun o e=>⟨o,e.1⟩
theorem r9.bV(f:r9 h dx st pb l):∃o,h.get? dx=some o:=by obtain⟨_,⟨o,_,_,e,_⟩,_⟩:=f;exact⟨o,e⟩
theorem oY.bV(f:oY h st ds):∃o,h.get? st=some o:=f.elim fun o e=>e.elim fun _ e=>⟨o,e.1⟩
theorem nI.bV(f:nI h ds lam):∃o,h.get? ds=some o:=by obtain⟨_,⟨o,_,_,e,_⟩,_⟩:=f;exact⟨o,e⟩
theorem mn.bV(f:mn R h lam cc cell):∃o,h.get? lam=some o:=by obtain⟨o,_,_,_,_,e,_⟩:=f;exact⟨o,e⟩
theorem mn.LK(f:mn R h lam cc cell):∃o,h.get? cc=some o:=by
 obtain⟨_,_,_,_,_,_,_,c,oc,_,_,e3,e4,_⟩:=f
 exact cu oc (Gu e3▸e4)
theorem qw.bV(f:qw h pb ws):∃o,h.get? pb=some o:=by obtain⟨_,⟨_,e⟩,_⟩:=f;exact⟨_,e⟩
end
structure wA(R:bX)(C:Addr)(h:Ap)(b:aj)(x dx st ds lam cc cell sg pb:Addr):Prop where
 hx:XF h x C dx
 jm:r9 h dx st pb b.line
 fU:oY h st ds
 LM:nI h ds lam
 oZ:mn R h lam cc cell
 aT:h.IsCell cell (some (.ref sg))
 iX:kL h sg b.chars
 nJ:qw h pb b.push
 nd:[x,dx,st,ds,lam,cc,cell,sg,pb].Nodup
 sz:b.chars.length<=ag
section
variable{R:bX}{C:Addr}{h h':Ap}{b:aj}{x dx st ds lam cc cell sg pb:Addr}
theorem IsCell.up{v:Option Value}(f:h.IsCell cell v)(k:lI h h' cell):h'.IsCell cell v:=by obtain⟨o,e,r⟩:=f;exact⟨o,k _ e,r⟩
theorem wA.upd{b':aj}(L:wA R C h b x dx st ds lam cc cell sg pb)(k:∀a∈[st,ds,lam,cc,cell],lI h h' a)(hx:XF h' x C dx)(jm:r9 h' dx st pb b'.line)(iX:kL h' sg b'.chars)(nJ:qw h' pb b'.push)(sz:b'.chars.length<=ag):wA R C h' b' x dx st ds lam cc cell sg pb:=
 ⟨hx,jm,L.fU.up (k _ (.head _)),L.LM.up (k _ (.tail _ (.head _))),L.oZ.up (k _ (.tail _ (.tail _ (.head _)))) (k _ (.tail _ (.tail _ (.tail _ (.head _))))),IsCell.up L.aT (k _ (.tail _ (.tail _ (.tail _ (.tail _ (.head _)))))),iX,nJ,L.nd,sz⟩
theorem wA.keep(L:wA R C h b x dx st ds lam cc cell sg pb)(k:∀a∈[x,dx,st,ds,lam,cc,cell,sg,pb],∀o,h.get? a=some o->h'.get? a=some o):wA R C h' b x dx st ds lam cc cell sg pb:=
 L.upd (fun a ha=>k a (.tail _ (.tail _ (Ax [sg,pb] ha)))) (L.hx.up (k _ (.head _))) (L.jm.up (k _ (.tail _ (.head _)))) (L.iX.at' fun o e=>k _ (Ar [x,dx,st,ds,lam,cc,cell] (.head _)) o e) (L.nJ.up (k _ (Ar [x,dx,st,ds,lam,cc,cell] (.tail _ (.head _))))) L.sz
theorem wA.bV(L:wA R C h b x dx st ds lam cc cell sg pb):∀a∈[x,dx,st,ds,lam,cc,cell,sg,pb],∃o,h.get? a=some o:=
 fa L.hx.bV (fa L.jm.bV (fa L.fU.bV (fa L.LM.bV (fa L.oZ.bV (fa L.oZ.LK (fa (L.aT.elim fun o e=>⟨o,e.1⟩) (fa (by obtain⟨_,⟨_,e⟩,_⟩:=L.iX;exact⟨_,e⟩) (fa L.nJ.bV dO))))))))
end
set_option genInjectivity true
inductive iI(R:bX)(C:Addr)(v:Value)(b:aj)(F:List Addr)(h:Ap):Prop
 |mk (x dx st ds lam cc cell sg pb:Addr) (e:v= .ref x) (hF:F=[x,dx,st,ds,lam,cc,cell,sg,pb]) (L:wA R C h b x dx st ds lam cc cell sg pb):iI R C v b F h
theorem iI.frame{R:bX}{C:Addr}{v:Value}{b:aj}{F:List Addr}{h h':Ap}(x:iI R C v b F h)(k:∀a∈F,∀o,h.get? a=some o->h'.get? a=some o):iI R C v b F h':=by
 obtain⟨x,dx,st,ds,lam,cc,cell,sg,pb,rfl,rfl,L⟩:=x
 exact⟨x,dx,st,ds,lam,cc,cell,sg,pb,rfl,rfl,L.keep k⟩
theorem iI.bV{R:bX}{C:Addr}{v:Value}{b:aj}{F:List Addr}{h:Ap}(x:iI R C v b F h):∀a∈F,∃o,h.get? a=some o:=by
 obtain⟨x,dx,st,ds,lam,cc,cell,sg,pb,rfl,rfl,L⟩:=x
 exact L.bV
noncomputable def wI(R:bX)(C:Addr)(bC:List Addr):t9 where
 is v b F h:=F=bC/\iI R C v b F h
 frame:=fun h k=>⟨h.1,h.2.frame k⟩
 bV:=fun h=>h.2.bV
section
variable{X:Ctx}{tv dv:List Nat}{K:Addr->Option Obj}{env:Dy}{A:Am}{s₀ s s':Ab}{g:Sg}{N:Nat->List Addr}{F:List Addr}
theorem ax.uk(T:ax X tv dv K env A s₀ g N F s)(hs:yZ s s')(hk:∀a o,a∉F->s.heap.get? a=some o->s'.heap.get? a=some o){v:Value}{b':aj}(hb:X.BK.is v b' F s'.heap):
  ax X tv dv K env A s₀ {g with β:=some (v,b')} N F s':=by
 have hl:env.locals∉F:=fun h=>(T.foot _ h).2.2.2.1 rfl
 have hc:∀x c,env.cells.lookup x=some c->c∉F:=fun x c e h=>(T.foot _ h).2.2.2.2 x c e rfl
 have hn:∀j a,a∈N j->a∉F:=fun j a ha h=>(T.foot a h).2.2.1 j ha
 have up:∀j a,a∈N j->∀o,s.heap.get? a=some o->s'.heap.get? a=some o:=fun j a ha o e=>hk a o (hn j a ha) e
 have acc:∀x u,Acc env s.heap x u->Acc env s'.heap x u:=fun x u h=>by
  rcases h with⟨h1,m,h2,h3⟩|⟨h1,c,h2,o,h3,h4⟩
  ·exact .inl ⟨h1,m,h2.at' fun o e=>hk _ o hl e,h3⟩
  ·exact .inr ⟨h1,c,h2,o,hk c o (hc x c h2) h3,h4⟩
 exact
  {T with
   len:=T.len
   loc:=by obtain⟨m,h⟩:=T.loc;exact⟨m,h.at' fun o e=>hk _ o hl e⟩
   cls:=fun x c e1 e2=>by
    refine aq (T.cls x c e1 e2) fun bJ h5=>?_
    refine dZ bJ fun u o h3 h4=>?_
    exact bZ ⟨u,o,hk c o (hc x c e2) h3,h4⟩ h5
   rd:=fun x i p e1 e2=>by
    obtain⟨u,a,r⟩:=T.rd x i p e1 e2
    exact⟨u,acc x u a,r.on fun a ha o e=>up i a ha o e⟩
   nd:=fun j a ha=>by obtain⟨items,n,e⟩:=T.nd j a ha;exact⟨items,n,up j a ha _ e⟩
   kept:=fun a o e=>hk a o (fun h=>by rw[(T.foot a h).1]at e;exact nn e) (T.kept a o e)
   same:=T.same.trans hs
   book:=fun u b e=>by obtain⟨rfl,rfl⟩:=Bh (Aa e);exact hb
   foot:=fun a ha=>by
    refine dY (T.foot a ha) fun h1 _ h3=>?_
    exact⟨h1,X.BK.bV hb a ha,h3⟩}
theorem LN:∀(names:List (Str×Dd)) (n:Nat) (acc:List (Str×Addr)) (x:Str) (c:Addr),(x,c)∈Gq n names acc->(x,C7)∈names\/(x,c)∈acc
 |[],n,acc,x,c,h=> .inr h
 |(y,k)::r,n,acc,x,c,h=>by
  unfold Gq at h
  split at h
  ·next hk=>
   have hk:k= .cell:=by exact eq_of_beq hk
   subst hk
   rcases LN r _ _ x c h with h|h
   ·exact .inl (Ai _ h)
   ·rcases Ay.mp h with h|h
    ·obtain⟨rfl,rfl⟩:=Bh h;exact .inl (Aj ..)
    ·exact .inr h
  ·rcases LN r _ _ x c h with h|h
   ·exact .inl (Ai _ h)
   ·exact .inr h
theorem LO{name:Str}{params:Arguments}{body:List Stmt}{scope:Scope}{xs:List Str}{a:Addr}{ps:List PV}{vs:List Value}{ns:List Addr}{R:D6->Ab->Prop}{β:Option (Value×aj)}
  (hC:X.C=xY scope xs) (bj:ji scope xs=true) (dI:lE s.heap a name params body scope) (cA:s.heap.NoLimit) (aP:wO (X.W.D+1) A)
  (hK:∀b o,K b=some o->s.heap.get? b=some o) (wd:∀h:Ap,(∀b o,K b=some o->h.get? b=some o)->X.W.Wd h)
  (dj:∀v b,β=some (v,b)->X.BK.is v b F s.heap) (hF:∀b∈F,K b=none/\(∃o,s.heap.get? b=some o)/\b∉ns)
  (br:∀pm cd doc,Fc (F0 name params body scope pm cd doc) ⟨vs,[]⟩=pure (xs.zip vs)) (hr:ao s.heap ps vs ns) (hlen:ps.length=xs.length)
  (rC:∀i,i∈tv\/i∈dv->xs.length<=i)
  (eK:∀(env:Dy) (cd:Value) (aa:Ab) (N:Nat->List Addr),env.code=cd->env.qual=name++ ".<locals>." ->(∃o fd,s.heap.get? a=some o/\o.data= .func fd/\fd.code=cd)->(∀x c,env.cells.lookup x=some c->(x,C7)∈scope.names)->ax X tv dv K env (A.deeper env) s (eI X.C ps β) N F aa->Al (Af X.W.prog X.W.w) (A.deeper env) (Gi body env) (fun fw s'=>R (.ok (.ret (match fw with| .ret v=>v|_=> .none))) s') (fun _ _=>False) aa):
  Ca (Af X.W.prog X.W.w) A (.call (.ref a) ⟨vs,[]⟩) R s:=by
 obtain⟨o,pm,cd,doc,ho,dP,gN⟩:=dI
 have fH:=bj
 unfold ji at fH
 simp only[Az,Ao,beq_iff_eq,Ej,Dm]at fH
 refine aq fH fun bJ iB=>?_
 refine aq bJ fun bJ oE=>?_
 obtain⟨⟨⟨hk,ja⟩,gO⟩,g9⟩:=bJ
 have vR:∀j x,xs[j]?=some x->(yQ scope xs)[j]?=some x:=fun j x e=>by
  unfold yQ
  rw[B6 (Bc.mp e).1];exact e
 have ma:xV xs=true:=by
  have:∀(l m:List Str),xV (l++m)=true->xV l=true:=by
   intro l
   induction l with
   |nil=>intro m _;rfl
   |cons y r ih=>
    intro m h
    simp only[B9,xV,Az,Dm,Bz,decide_eq_false_iff_not]at h⊢
    exact bZ (fun hm=>h.1 (Ax _ hm)) (ih m h.2)
  exact this xs _ g9
 have dS:∀x,scope.names.lookup x=some .cell->∀n,((Gq n scope.names []).lookup x).isSome=true:=fun x e n=>BU _ _ _ (.inl (zT e))
 have hsz:∀b o,s.heap.get? b=some o->b<s.heap.objs.size:=fun b o e=>Bm e
 have vS:xs.length<=(yQ scope xs).length:=by unfold yQ;simp
 have qe:X.C.kn=scope.names:=by refine af hC ?_;rfl
 have rE:X.C.Γ=lr 0 (yQ scope xs):=by refine af hC ?_;rfl
 have hn:X.C.n=(yQ scope xs).length:=by refine af hC ?_;rfl
 have qf:∀x∈xs,scope.names.lookup x=some .local\/scope.names.lookup x=some .cell:=fun x hx=>oE x (by exact Ax _ hx)
 refine call_cells_ret (by have:=aP.depth;omega) ho dP cA gN (br pm cd doc) (fun y hy=>?_) (fun ah tk Fm Xc=>?_) ja gO hk
 ·have hx:y.1∈xs:=(Ik hy).1
  rcases qf y.1 hx with e|e
  ·exact .inl e
  ·exact .inr ⟨e,dS _ e _⟩
 ·refine aB hr.split fun LL vT IJ=>?_
  have up:Sub s.heap ah:=Fm.keep
  have cx:∀c o,s.heap.get? c=some o->c<s.heap.objs.size:=fun c o e=>Bm e
  have Kn:∀c,s.heap.objs.size<=c->K c=none:=fun c hc=>by
   cases q:K c with
   |none=>rfl
   |some o=>exact absurd (cx c o (hK c o q)) (Ew.mpr hc)
  have above:∀x c,(Gq (s.heap.objs.size+1) scope.names []).lookup x=some c->s.heap.objs.size<c:=fun x c e=>Xc.above x c (D3 e)
  generalize bM:envOfC name scope s.heap.objs.size a cd=env at*
  have bQ:env.cells=Gq (s.heap.objs.size+1) scope.names []:=by refine cw bM ?_;rfl
  have bg:env.locals=s.heap.objs.size:=by refine cw bM ?_;rfl
  have eJ:env.scope=scope:=by refine cw bM ?_;rfl
  have T:ax X tv dv K env (A.deeper env) s (eI X.C ps β) (fun i=>if i<ps.length then LL.getD i []else []) F {s with heap:=ah,toks:=tk}:=
   {fV:=by refine af hC ?_;exact BS bj
    kind:=by refine af eJ ?_;exact hk
    names:=by(refine af eJ ?_;exact af qe rfl)
    gl:=by refine cw bM ?_;rfl
    bl:=by refine cw bM ?_;rfl
    room:=aP.deeper env
    eP:=fun x k e1 e2=>by
     rw[qe]at e1
     rcases e2 with rfl|rfl
     ·refine af bQ ?_;exact Fe.mp (dS x e1 _)
     ·have:=iB _ (zT e1);simp at this
    eF:=fun x y c e1 e2=>by
     rw[bQ]at e1 e2
     exact name_of_addr Xc.apart (D3 e1) (D3 e2)
    len:=by refine(?_:(ps.map some++A0 (X.C.n-ps.length) none).length=_);(refine af Ah ?_;refine af (An ..) ?_;refine af E3 ?_;refine af hn ?_);omega
    loc:=⟨_,by refine af bg ?_;exact Fm.ns⟩
    dB:=by refine af bg ?_;exact Kn _ (Bv _)
    cls:=fun x c e1 e2=>by
     rw[bQ]at e2
     exact bZ ⟨_,Xc.cell x c e2⟩ (Kn c (Cj (above x c e2)))
    rd:=fun x i p e1 e2=>by
     rw[rE]at e1
     refine aB (wF e1) fun j e3 e4=>?_
     have:i=j:=by refine af e3 ?_;exact Cp j
     subst this
     have e2:(ps.map some++A0 (X.C.n-ps.length) none)[i]?=some (some p):=e2
     have hi:i<ps.length:=by
      by_cases hi:i<ps.length
      ·exact hi
      ·rw[C3 (by simpa using hi)]at e2
       have:=C4 e2
       have:=Gv this
       exact sn this
     rw[B6 (by simpa using hi),Bj]at e2
     have e5:ps[i]?=some p:=by
      cases q:ps[i]? with
      |none=>rw[q]at e2;exact nn e2
      |some z=>rw[q]at e2;cases e2;rfl
     refine aB (vT i p e5) fun v e6 e7=>?_
     have e8:xs[i]?=some x:=by
      obtain⟨y,hy⟩:∃y,xs[i]?=some y:=⟨xs[i]'(by omega),by simp⟩
      have:=vR i y hy
      rw[e4]at this;obtain rfl:=Aa this;exact hy
     refine aq ((II (kindOf:=env.kindOf) (vs:=vs) (fun _=>none) (fun _=>none) ma).1 i x v e8 e6) fun b1 b2=>?_
     refine⟨v,?_,?_⟩
     ·have kk:∀k,scope.names.lookup x=some k->env.kindOf x=some k:=fun k e=>by unfold Be;refine af eJ ?_;exact e
      rcases qf x (C4 e8)with e|e
      ·exact .inl ⟨kk _ e,_,by refine af bg ?_;exact Fm.ns,b1 (kk _ e)⟩
      ·refine aH (Fe.mp (dS x e (s.heap.objs.size+1))) fun c hc=>?_
       have:=Xc.cell x c hc
       rw[b2 (by rw[kk _ e];simp)]at this
       exact .inr ⟨.inl (kk _ e),c,by refine af bQ ?_;exact hc,this⟩
     ·refine(?_:VR ah p v (if i<ps.length then LL.getD i []else []))
      refine af (if_pos hi) ?_;exact e7.sub up
    nd:=fun j b hb=>by
     split at hb
     ·rename_i hj
      refine aB (vT j ps[j] (by simp)) fun v e6 e7=>?_
      refine fT (e7.nodes b hb) fun items n e=>?_
      exact GH items n (up _ _ e)
     ·cases hb
    bL:=fun i hi b q e=>by
     have:=rC i (.inl hi)
     rw[if_neg (by omega)]at e;cases e
    deep:=fun i hi=>by
     have:=rC i (.inr hi)
     rw[if_neg (by omega)]
     exact bZ Eu (fun _ h=>nomatch h)
    kept:=fun b o e=>up b o (hK b o e)
    eG:=wd
    same:=⟨ah,tk,s.gens,rfl, .rfl' _⟩
    book:=fun v b e=>X.BK.frame (dj v b e) fun c _ o e=>up c o e
    foot:=fun b hb=>by
     refine dY (hF b hb) fun h1 gL h3=>?_
     refine aH gL fun o h2=>?_
     have aX:=cx b o h2
     refine u5 h1 ⟨o,up b o h2⟩ (fun j=>?_) ?_ (fun x c e=>?_)
     ·split
      ·exact fun hm=>h3 (IJ j b hm)
      ·exact fun h=>nomatch h
     ·refine af bg ?_;exact Br aX
     ·rw[bQ]at e
      exact Br (Nat.lt_trans aX (above x c e))}
  exact eK env cd _ _ (by refine cw bM ?_;rfl) (by refine cw bM ?_;rfl) ⟨o,_,ho,dP,rfl⟩ (fun x c e=>by
   rw[bQ]at e
   exact(LN _ _ _ _ _ (D3 e)).resolve_right fun h=>nomatch h) T
theorem Rm{name qual:Str}{params:Arguments}{body:List Stmt}{scope:Scope}{xs:List Str}{a:Addr}{ps:List PV}{vs:List Value}{R:D6->Ab->Prop}{β:Option (Value×aj)}
  (hC:X.C=xY scope xs) (bj:ji scope xs=true) (iW:scope.names.all (fun y=>y.2 != .cell)=true) (dI:lH s.heap a name qual params body scope) (cA:s.heap.NoLimit) (aP:wO (X.W.D+1) A)
  (hK:∀b o,K b=some o->s.heap.get? b=some o) (wd:∀h:Ap,(∀b o,K b=some o->h.get? b=some o)->X.W.Wd h)
  (dj:∀v b,β=some (v,b)->X.BK.is v b F s.heap) (hF:∀b∈F,K b=none/\(∃o,s.heap.get? b=some o))
  (br:∀pm cd doc,Fc (Ig name qual params body scope pm cd doc .none) ⟨vs,[]⟩=pure (xs.zip vs)) (hr:ao s.heap ps vs []) (hlen:ps.length=xs.length)
  (eK:∀(env:Dy) (aa:Ab),ax X [] [] K env (A.deeper env) s (eI X.C ps β) (fun _=> []) F aa->Al (Af X.W.prog X.W.w) (A.deeper env) (Gi body env) (fun fw s'=>R (.ok (.ret (match fw with| .ret v=>v|_=> .none))) s') (fun _ _=>False) aa):
  Ca (Af X.W.prog X.W.w) A (.call (.ref a) ⟨vs,[]⟩) R s:=by
 obtain⟨o,pm,cd,doc,ho,mq,dP,gN⟩:=dI
 have fH:=bj
 unfold ji at fH
 simp only[Az,Ao,beq_iff_eq,Ej,Dm]at fH
 refine aq fH fun bJ iB=>?_
 refine aq bJ fun bJ oE=>?_
 obtain⟨⟨⟨hk,ja⟩,gO⟩,g9⟩:=bJ
 have sd:∀y∈scope.names,y.2≠ .cell:=fun y hy q=>by
  have:=Ao.mp iW y hy
  rw[q]at this;exact ft this
 have vR:∀j x,xs[j]?=some x->(yQ scope xs)[j]?=some x:=fun j x e=>by
  unfold yQ
  rw[B6 (Bc.mp e).1];exact e
 have ma:xV xs=true:=by
  have:∀(l m:List Str),xV (l++m)=true->xV l=true:=by
   intro l
   induction l with
   |nil=>intro m _;rfl
   |cons y r ih=>
    intro m h
    simp only[B9,xV,Az,Dm,Bz,decide_eq_false_iff_not]at h⊢
    exact bZ (fun hm=>h.1 (Ax _ hm)) (ih m h.2)
  exact this xs _ g9
 have vS:xs.length<=(yQ scope xs).length:=by unfold yQ;simp
 have qe:X.C.kn=scope.names:=by refine af hC ?_;rfl
 have rE:X.C.Γ=lr 0 (yQ scope xs):=by refine af hC ?_;rfl
 have hn:X.C.n=(yQ scope xs).length:=by refine af hC ?_;rfl
 have qf:∀x∈xs,scope.names.lookup x=some .local:=fun x hx=>by
  rcases oE x (by exact Ax _ hx)with h|h
  ·exact h
  ·exact absurd rfl (sd _ (zT h))
 refine call_methW_ret (by have:=aP.depth;omega) ho dP cA gN (.of_eq (br pm cd doc)) (fun y hy=>qf y.1 (Ik hy).1) (fun ah Fm=>?_) ja gO hk sd
 have up:Sub s.heap ah:=Fm.keep
 generalize bM:envOf qual scope s.heap.objs.size a cd=env at*
 have bg:env.locals=s.heap.objs.size:=by refine cw bM ?_;rfl
 have eJ:env.scope=scope:=by refine cw bM ?_;rfl
 have LP:env.cells=[]:=by refine cw bM ?_;rfl
 have Kn:∀c,s.heap.objs.size<=c->K c=none:=fun c hc=>by
  cases q:K c with
  |none=>rfl
  |some o=>exact absurd (Bm (hK c o q)) (Ew.mpr hc)
 have LQ:∀{xs:List Str} {vs:List Value},xV xs=true->∀(j:Nat) (x:Str) (v:Value),xs[j]?=some x->vs[j]?=some v->(xs.zip vs).reverse.lookup x=some v:=by
  intro xs
  induction xs with
  |nil=>intro vs _ j x v e1 _;exact nn e1
  |cons y r ih=>
   intro vs hd j x v e1 e2
   simp only[xV,Az,Dm,Bz,decide_eq_false_iff_not]at hd
   cases vs with
   |nil=>exact nn e2
   |cons u us=>
    refine af G1 ?_
    refine af List.reverse_cons ?_
    refine af Pl ?_
    cases j with
    |zero=>
     obtain rfl:=Aa e1;obtain rfl:=Aa e2
     have:(r.zip us).reverse.lookup y=none:=by
      cases q:(r.zip us).reverse.lookup y with
      |none=>rfl
      |some z=>
       have hm:=zT q
       rw[List.mem_reverse]at hm
       exact absurd (Ik hm).1 hd.1
     refine af this ?_;simp
    |succ j=>
     rw[ih hd.2 j x v (by simpa using e1) (by simpa using e2)];simp
 refine eK env _ ?_
 exact
   {fV:=by refine af hC ?_;exact BS bj
    kind:=by refine af eJ ?_;exact hk
    names:=by(refine af eJ ?_;exact af qe rfl)
    gl:=by refine cw bM ?_;rfl
    bl:=by refine cw bM ?_;rfl
    room:=aP.deeper env
    eP:=fun x k e1 e2=>by
     rw[qe]at e1
     rcases e2 with rfl|rfl
     ·exact absurd rfl (sd _ (zT e1))
     ·have:=iB _ (zT e1);simp at this
    eF:=fun x y c e1 e2=>by rw[LP]at e1;exact nn e1
    len:=by refine(?_:(ps.map some++A0 (X.C.n-ps.length) none).length=_);(refine af Ah ?_;refine af (An ..) ?_;refine af E3 ?_;refine af hn ?_);omega
    loc:=⟨_,by refine af bg ?_;exact Fm.ns⟩
    dB:=by refine af bg ?_;exact Kn _ (Bv _)
    cls:=fun x c e1 e2=>by rw[LP]at e2;exact nn e2
    rd:=fun x i p e1 e2=>by
     rw[rE]at e1
     refine aB (wF e1) fun j e3 e4=>?_
     have:i=j:=by refine af e3 ?_;exact Cp j
     subst this
     have e2:(ps.map some++A0 (X.C.n-ps.length) none)[i]?=some (some p):=e2
     have hi:i<ps.length:=by
      by_cases hi:i<ps.length
      ·exact hi
      ·rw[C3 (by simpa using hi)]at e2
       have:=C4 e2
       have:=Gv this
       exact sn this
     rw[B6 (by simpa using hi),Bj]at e2
     have e5:ps[i]?=some p:=by
      cases q:ps[i]? with
      |none=>rw[q]at e2;exact nn e2
      |some z=>rw[q]at e2;cases e2;rfl
     refine da (hr.get e5) fun v n e6 e7 Zp=>?_
     have:n=[]:=Hz.mpr fun a ha=>nomatch Zp a ha
     subst this
     have e8:xs[i]?=some x:=by
      obtain⟨y,hy⟩:∃y,xs[i]?=some y:=⟨xs[i]'(by omega),by simp⟩
      have:=vR i y hy
      rw[e4]at this;obtain rfl:=Aa this;exact hy
     refine⟨v, .inl ⟨?_,_,by refine af bg ?_;exact Fm.ns,LQ ma i x v e8 e6⟩,e7.sub up⟩
     unfold Be;refine af eJ ?_;exact qf x (C4 e8)
    nd:=fun j b hb=>nomatch hb
    bL:=fun i hi=>nomatch hi
    deep:=fun i hi=>nomatch hi
    kept:=fun b o e=>up b o (hK b o e)
    eG:=wd
    same:=⟨ah,_,s.gens,rfl, .rfl' _⟩
    book:=fun v b e=>X.BK.frame (dj v b e) fun c _ o e=>up c o e
    foot:=fun b hb=>by
     refine aq (hF b hb) fun h1 gL=>?_
     refine aH gL fun o h2=>?_
     refine u5 h1 ⟨o,up b o h2⟩ (fun j h=>nomatch h) ?_ (fun x c e=>?_)
     ·refine af bg ?_;exact Br (Bm h2)
     ·rw[LP]at e;cases e}
end
theorem LR:Cq (.type "object") "lineno" =pure none:=by rw[Bi,A1];kernel_rfl
theorem Rn:Cq (.type "object") "instream" =pure none:=by rw[Bi,A1];kernel_rfl
theorem Ro:Cq (.type "object") "whitespace" =pure none:=by rw[Bi,A1];kernel_rfl
theorem Rp:Cq (.type "object") "pushback" =pure none:=by rw[Bi,A1];kernel_rfl
theorem Rq:Cq (.type "object") "_read_char" =pure none:=by rw[Bi,A1];kernel_rfl
theorem Zq:Cq (.type "object") "get_token" =pure none:=by rw[Bi,A1];kernel_rfl
theorem Rt:Cq (.type "function") "read" =pure none:=by rw[Bi,A1];kernel_rfl
section
variable{prog:Program}{w:Co}{A:Am}{E:Value->Ab->Prop}{s:Ab}{R:bX}{C N fI fR fG fP:Addr}{b:aj}{x dx st ds lam cc cell sg pb:Addr}
theorem wA.inst{h:Ap}(L:wA R C h b x dx st ds lam cc cell sg pb):∃mA,h.Inst x C mA/\(∃t,mA "lineno" =some (.int b.line t))/\mA "instream" =some (.ref st)/\(∃t,mA "whitespace" =some (.str ⟨#[10,9,13,32]⟩ t))/\mA "pushback" =some (.ref pb)/\∀n:Str,n∉(["lineno", "instream", "whitespace", "pushback"]:List Str)->mA n=none:=by
 refine j9 L.hx fun o e h1 h2 h3=>?_
 refine aB L.jm fun mA hn r=>?_
 have cY:dx≠x:=fun q=>(Cs.mp L.nd).1 (q▸ .head _)
 exact i12 mA ⟨o,e,h1,h2, .inr ⟨dx,h3,cY,hn⟩⟩ r
theorem CW{name:Str}{u:Value}{expr:Bool}{Q:Value->Ab->Prop}{mA:Str->Option Value}(c:fY s.heap C N fI fR fG fP)(iJ:∀mN:Str->Option Value,mN "lineno" =none->mN "instream" =none->mN "whitespace" =none->mN "pushback" =none->mN name=none)
  (hB:Cq (.type "object") name=pure none) (I:s.heap.Inst x C mA) (hv:mA name=some u) (hh:handedOut u=pure u) (hq:Q u {s with toks:=s.toks+1}):Al (Af prog w) A (Kd (.ref x) name expr) Q E s:=by
 obtain⟨⟨nm,q,bs,sn,sub,col,dd,k0,k1,k2,k3,k5,hC⟩,mN,hN,_,_,_,_,w5,_,_,h1,h2,h3,h4⟩:=c
 obtain⟨h,g,d,t,os⟩:=s
 exact load_attr hC hN w5 (iJ mN h1 h2 h3 h4) hB I hv hh hq
theorem Ru{name:Str}{f:Addr}{of:Obj}{pl:Ks Bool}{Q:Value×List Value->Ab->Prop}(c:fY s.heap C N fI fR fG fP)(hf:∀mN:Str->Option Value,mN "_read_char" =some (.ref fR)->mN "get_token" =some (.ref fG)->mN "push_token" =some (.ref fP)->mN name=some (.ref f))
  (ho:s.heap.get? f=some of) (nH:of.cls= .type "function") (hB:Cq (.type "object") name=pure none) (L:wA R C s.heap b x dx st ds lam cc cell sg pb) (hn:name∉(["lineno", "instream", "whitespace", "pushback"]:List Str)) (hq:Q (.ref f,[.ref x]) s):Al (Af prog w) A (getMethod (.ref x) name pl) Q E s:=by
 obtain⟨⟨nm,q,bs,sn,sub,col,dd,k0,k1,k2,k3,k5,hC⟩,mN,hN,_,hR,hG,hP,w5,LS,_⟩:=c
 refine qW L.inst fun mA I _ _ _ _ dD=>?_
 obtain⟨h,g,d,t,os⟩:=s
 exact method_of hC hN w5 LS (hf mN hR hG hP) ho nH hB I (dD _ hn) hq
theorem Rv{expr:Bool}{Q:Value->Ab->Prop}(L:wA R C s.heap b x dx st ds lam cc cell sg pb)(c:fY s.heap C N fI fR fG fP)(hq:∀t,Q (.int b.line t) {s with toks:=s.toks+1}):
  Al (Af prog w) A (Kd (.ref x) "lineno" expr) Q E s:=by
 refine lh L.inst fun mA I jL _=>?_
 refine aH jL fun t h1=>?_
 exact CW c (fun _ h _ _ _=>h) LR I h1 rfl (hq t)
theorem Zr{expr:Bool}{Q:Value->Ab->Prop}(L:wA R C s.heap b x dx st ds lam cc cell sg pb)(c:fY s.heap C N fI fR fG fP)(hq:Q (.ref st) {s with toks:=s.toks+1}):
  Al (Af prog w) A (Kd (.ref x) "instream" expr) Q E s:=by
 refine j9 L.inst fun mA I _ h1 _=>?_
 exact CW c (fun _ _ h _ _=>h) Rn I h1 rfl hq
theorem Zs{expr:Bool}{Q:Value->Ab->Prop}(L:wA R C s.heap b x dx st ds lam cc cell sg pb)(c:fY s.heap C N fI fR fG fP)(hq:∀t,Q (.str ⟨#[10,9,13,32]⟩ t) {s with toks:=s.toks+1}):
  Al (Af prog w) A (Kd (.ref x) "whitespace" expr) Q E s:=by
 refine pQ L.inst fun mA I _ _ Zt _=>?_
 refine aH Zt fun t h1=>?_
 exact CW c (fun _ _ _ h _=>h) Ro I h1 rfl (hq t)
theorem Rw{expr:Bool}{Q:Value->Ab->Prop}(L:wA R C s.heap b x dx st ds lam cc cell sg pb)(c:fY s.heap C N fI fR fG fP)(hq:Q (.ref pb) {s with toks:=s.toks+1}):
  Al (Af prog w) A (Kd (.ref x) "pushback" expr) Q E s:=by
 refine qW L.inst fun mA I _ _ _ h1 _=>?_
 exact CW c (fun _ _ _ _ h=>h) Rp I h1 rfl hq
theorem Zu{mA:Str->Option Value}(h:∀n:Str,n∉(["lineno", "instream", "whitespace", "pushback"]:List Str)->mA n=none):Within mA ["lineno", "instream", "whitespace", "pushback"]:=fun y hy=>De fun hn=>hy (h y hn)
structure lJ(h:Ap)(C x dx:Addr)(mA:Str->Option Value):Prop where
 o:XF h x C dx
 d:h.Ns1 dx mA
 ne:dx≠x
theorem lJ.up{h h':Ap}{x dx:Addr}{mA:Str->Option Value}(I:lJ h C x dx mA)(k:Sub h h'):lJ h' C x dx mA:=by
 refine qX I.d fun o' es ep e2 r2=>?_
 exact⟨I.o.up (k _),⟨o',es,ep,k _ _ e2,r2⟩,I.ne⟩
theorem Zv{h:Ap}{m:Str->Option Value}{o:Obj}(I:h.Inst x C m)(e:h.get? x=some o)(hd:o.dict=some dx):h.Ns1 dx m:=by
 refine j9 I fun o' e' _ _ hI=>?_
 obtain rfl:=Aa (e.symm.trans e')
 rcases hI with⟨hn,_⟩|⟨d',mr,_,cb⟩
 ·exact nn (hn.symm.trans hd)
 ·exact Aa (mr.symm.trans hd)▸cb
theorem XF.Rx(f:XF s.heap x C dx)(c:fY s.heap C N fI fR fG fP):x≠C:=by
 rintro rfl
 refine j9 f fun o e _ hd _=>?_
 obtain⟨_,_,_,_,_,_,_,_,_,_,_,_,hC⟩:=c.cls
 exact hd _ (congrArg Obj.data (Aa (e.symm.trans hC)))
theorem Ry{x dx:Addr}{mA:Str->Option Value}{ns:List Str}{name:Str}{v:Value}{Q:Unit->Ab->Prop}(I:lJ s.heap C x dx mA)(c:fY s.heap C N fI fR fG fP)(iJ:∀mN:Str->Option Value,mN "lineno" =none->mN "instream" =none->mN "whitespace" =none->mN "pushback" =none->mN name=none)
  (hB:Cq (.type "object") name=pure none) (hw:Within mA ns) (cb:ns.length<=100)
  (hq:∀h' tk,lJ h' C x dx (fun y=>if y=name then some v else mA y)->(∀a o,a≠x->a≠dx->s.heap.get? a=some o->h'.get? a=some o)->Q () {s with heap:=h',toks:=tk}):
  Al (Af prog w) A (setAttr (.ref x) name v) Q E s:=by
 have nK:=I.o.Rx c
 obtain⟨⟨nm,q,bs,sn,sub,col,dd,k0,k1,k2,k3,k5,hC⟩,mN,hN,_,_,_,_,_,_,qx,h1,h2,h3,h4⟩:=c
 refine j9 I.o fun o hx hc hd jm=>?_
 obtain⟨h,g,d,t,os⟩:=s
 refine store_attr PySem.F.store_object hC hN qx (iJ mN h1 h2 h3 h4) hB nK ⟨o,hx,hc,hd, .inr ⟨dx,jm,I.ne,I.d⟩⟩ (fun h' tk I' hk eT=>?_) hw (by rw[Bo];exact zB)
 refine pQ (eT o hx) fun jo e1 c1 d1 _ Rz=>?_
 exact hq h' tk ⟨⟨jo,e1,c1.trans hc,fun c q=>hd c (d1▸q),Rz dx jm⟩,Zv I' e1 (Rz dx jm),I.ne⟩ fun a oa h1 h2 e=>hk a oa h1 (fun Zw d' e0 e1 q=>h2 (q.trans (Aa (e1.symm.trans (Aa (Eq.trans (Fz e0) hx)▸jm))))) e
theorem wA.sep(L:wA R C s.heap b x dx st ds lam cc cell sg pb){l m:List Addr}(e:l++m=[x,dx,st,ds,lam,cc,cell,sg,pb]){a c:Addr}(ha:a∈l)(hc:c∈m):a≠c:=(Hf.mp (e.symm▸L.nd)).2.2 a ha c hc
theorem Zx{Q:Unit->Ab->Prop}{n:Int}{tn:Js}(L:wA R C s.heap b x dx st ds lam cc cell sg pb)(c:fY s.heap C N fI fR fG fP)
  (hq:∀h' tk,wA R C h' {b with line:=n} x dx st ds lam cc cell sg pb->(∀a o,a≠x->a≠dx->s.heap.get? a=some o->h'.get? a=some o)->Q () {s with heap:=h',toks:=tk}):
  Al (Af prog w) A (setAttr (.ref x) "lineno" (.int n tn)) Q E s:=by
 refine qW L.jm fun mA cb hl hi hw hp ho=>?_
 refine Ry ⟨L.hx,cb,(L.sep (l:=[x]) rfl (.head _) (.head _)).symm⟩ c (fun _ h _ _ _=>h) LR (Zu ho) (by decide) fun h' tk I k=>hq h' tk ?_ k
 have kk:∀a∈[st,ds,lam,cc,cell,sg,pb],lI s.heap h' a:=fun a ha o=>k a o (L.sep (l:=[x,dx]) rfl (.head _) ha).symm (L.sep (l:=[x,dx]) rfl (.tail _ (.head _)) ha).symm
 exact L.upd (fun a ha=>kk a (Ax [sg,pb] ha)) I.o ⟨_,I.d,⟨tn,if_pos rfl⟩,hi,hw,hp,fun n hn=>(if_neg (c:=n= "lineno") fun q=>hn (q▸Aj ..)).trans (ho n hn)⟩
  (L.iX.at' fun o e=>kk _ (Ar [st,ds,lam,cc,cell] (.head _)) o e) (L.nJ.up (kk _ (Ar [st,ds,lam,cc,cell] (.tail _ (.head _))))) L.sz
theorem wA.chars{h':Ap}{cs:List Nat}(L:wA R C s.heap b x dx st ds lam cc cell sg pb)(k:∀a o,a≠sg->s.heap.get? a=some o->h'.get? a=some o)(hs:kL h' sg cs)(hsz:cs.length<=ag):
  wA R C h' {b with chars:=cs} x dx st ds lam cc cell sg pb:=by
 have kk:∀a∈[x,dx,st,ds,lam,cc,cell],lI s.heap h' a:=fun a ha o=>k a o (L.sep (l:=[x,dx,st,ds,lam,cc,cell]) rfl ha (.head _))
 exact L.upd (fun a ha=>kk a (.tail _ (.tail _ ha))) (L.hx.up (kk _ (.head _))) (L.jm.up (kk _ (.tail _ (.head _)))) hs (L.nJ.up fun o=>k pb o (L.sep (l:=[x,dx,st,ds,lam,cc,cell,sg]) rfl (Ar [x,dx,st,ds,lam,cc,cell] (.head _)) (.head _)).symm) hsz
theorem wA.push{h':Ap}{ws:List (List Nat)}(L:wA R C s.heap b x dx st ds lam cc cell sg pb)(k:∀a o,a≠pb->s.heap.get? a=some o->h'.get? a=some o)(hs:qw h' pb ws):
  wA R C h' {b with push:=ws} x dx st ds lam cc cell sg pb:=by
 have kk:∀a∈[x,dx,st,ds,lam,cc,cell,sg],lI s.heap h' a:=fun a ha o=>k a o (L.sep (l:=[x,dx,st,ds,lam,cc,cell,sg]) rfl ha (.head _))
 exact L.upd (fun a ha=>kk a (.tail _ (.tail _ (Ax [sg] ha)))) (L.hx.up (kk _ (.head _))) (L.jm.up (kk _ (.tail _ (.head _)))) (L.iX.at' fun o e=>kk _ (Ar [x,dx,st,ds,lam,cc,cell] (.head _)) o e) hs L.sz
end
structure fg(R:bX)(C N fI fR fG fP:Addr)(X:Ctx):Prop where
 bk:∃bC,X.BK=wI R C bC
 cls:∀h,X.W.Wd h->fY h C N fI fR fG fP
 lim:∀h,X.W.Wd h->h.NoLimit
noncomputable def ia(g:Sg)(i:Nat):Option (Value×aj):=match g.σ[i]?,g.β with
 |some (some (.obj u)),some (v,b)=>if u==v then some (v,b)else none
 |_,_=>none
theorem qy{g:Sg}{i:Nat}{v:Value}{b:aj}(h:ia g i=some (v,b)):g.σ[i]?=some (some (.obj v))/\g.β=some (v,b):=by
 unfold ia at h
 cases hs:g.σ[i]? with
 |none=>rw[hs]at h;exact nn h
 |some o=>
  rw[hs]at h
  cases o with
  |none=>exact nn h
  |some p=>
   cases p with
   |obj u=>
    cases hb:g.β with
    |none=>rw[hb]at h;exact nn h
    |some vb=>
     rw[hb]at h
     refine oI h fun hu h=>?_
     refine aq (Bh (Aa h)) fun aG aM=>?_
     subst aG
     subst aM
     exact bZ (congrArg (fun u=>some (some (PV.obj u))) (eq_of_beq hu)) rfl
   |_=>exact nn h
section
variable{R:bX}{C N₀ fI fR fG fP:Addr}{X:Ctx}{tv dv:List Nat}{K:Addr->Option Obj}{env:Dy}{A:Am}{s₀ s s':Ab}{g:Sg}{N:Nat->List Addr}{F:List Addr}
inductive RA(R:bX)(C:Addr)(v:Value)(b:aj)(F:List Addr)(h:Ap):Prop
 |mk (x dx st ds lam cc cell sg pb:Addr) (e:v= .ref x) (hF:F=[x,dx,st,ds,lam,cc,cell,sg,pb]) (L:wA R C h b x dx st ds lam cc cell sg pb) (n:x≠C):RA R C v b F h
theorem ax.lex(Y:fg R C N₀ fI fR fG fP X)(T:ax X tv dv K env A s₀ g N F s){v:Value}{b:aj}(bW:g.β=some (v,b)):RA R C v b F s.heap:=by
 have:=T.book v b bW
 refine aH Y.bk fun bC hb=>?_
 rw[hb]at this
 obtain⟨_,x,dx,st,ds,lam,cc,cell,sg,pb,rfl,rfl,L⟩:=this
 exact⟨x,dx,st,ds,lam,cc,cell,sg,pb,rfl,rfl,L,L.hx.Rx (Y.cls _ T.pre.wd)⟩
theorem ax.self(T:ax X tv dv K env A s₀ g N F s){z:Str}{i:Nat}{v:Value}(hz:X.C.Γ.lookup z=some i)(bu:g.σ[i]?=some (some (.obj v))):Acc env s.heap z v:=by
 obtain⟨u,a,r⟩:=T.rd z i _ hz bu
 refine aq r.inv fun aG _=>?_
 subst aG
 exact a
theorem ax.se(Y:fg R C N₀ fI fR fG fP X)(T:ax X tv dv K env A s₀ g N F s){x dx st ds lam cc cell sg pb:Addr}{b b':aj}(bW:g.β=some (.ref x,b))(hF:F=[x,dx,st,ds,lam,cc,cell,sg,pb])(hs:yZ s s')(hk:∀a o,a∉F->s.heap.get? a=some o->s'.heap.get? a=some o)(L:wA R C s'.heap b' x dx st ds lam cc cell sg pb):
  ax X tv dv K env A s₀ {g with β:=some (.ref x,b')} N F s':=by
 refine aH Y.bk fun bC hb=>?_
 have:=T.book _ b bW
 rw[hb]at this
 exact T.uk hs hk (by rw[hb];exact⟨this.1,x,dx,st,ds,lam,cc,cell,sg,pb,rfl,hF,L⟩)
noncomputable def CX(i:Nat):dC:=fun g=>(ia g i).map fun vb=>({g with β:=some (vb.1,{vb.2 with chars:=vb.2.chars.drop 1})}, .str (vb.2.chars.take 1))
theorem dm.jq(Y:fg R C N₀ fI fR fG fP X)(w6:∃W',R.Ok W'/\W'.prog=X.W.prog/\W'.w=X.W.w/\W'.D+1=X.W.D/\∀h,X.W.Wd h->W'.Wd h){z:Str}{i:Nat}{p0 p1 ap cp:B0}{k:Nat}{kp:B0}(hz:X.C.Γ.lookup z=some i)(bH:bad z=false)(aQ:(ap.endLine==cp.line)=true):
  dm X tv dv true (.Call (.Attribute (.Attribute (.Name z p0) "instream" p1) "read" ap) [.Constant (.int 1) k kp] [] cp) (CX i):=fun K env A E s₀ g N F s g' p T e=>by
 obtain⟨⟨v,b⟩,e1,e2⟩:=dk e
 refine aq (Bh e2) fun aG aM=>?_
 subst aG
 subst aM
 refine aq (qy e1) fun bu bW=>?_
 obtain⟨x,dx,st,ds,lam,cc,cell,sg,pb,rfl,hF,L,nK⟩:=T.lex Y bW
 have c:=Y.cls _ T.pre.wd
 refine Zn (wJ rfl _ env _) aQ (zF rfl [] env) ?_
 refine Gl (Bq (zS T.kind (T.self hz bu) ?_ (wP bH)) (wD bH))
 refine Zr L c fun pl=>?_
 refine u1 L.fU fun o fd h1 h2 h3 h4=>?_
 refine aB L.LM fun m h5 h6=>?_
 refine YF (s:={s with toks:=s.toks+1}) h1 h2 h4 h3 Rt h5 h6 rfl ?_
 refine AR L.oZ fun ol name qual pm fX h7 h8 h9=>?_
 refine Zo (zF rfl [] env) h8 (Fv ⟨h7,?_⟩)
 refine pQ w6 fun W' ok q1 q2 q3 q4=>?_
 obtain⟨RC,w',Zy,w7,Zz,ZA,g',b',D',U',LU,w8,w9⟩:=W'
 dsimp only at q1 q2 q3 q4
 subst q1 q2
 have rc:=Zm (W:=⟨X.W.prog,X.W.w,Zy,w7,Zz,ZA,g',b',D',U',LU,w8,w9⟩) (s:={s with toks:=s.toks+1+1+1}) (t:=s.toks+1+1) (lam:=lam) (cell:=cell) (l:=sg) (cs:=b.chars) (A:=A) (jk:=R.jk) (jp:=R.jp) ok (by refine af (show D'+1=X.W.D from q3) ?_;exact T.room) (q4 _ T.pre.wd) (Y.lim _ T.pre.wd) ⟨ol,name,qual,pm,_,fX,h7,h8,h9⟩ L.aT L.iX L.sz
 refine Gd (E9 rc fun res s' h=>?_)
 obtain⟨t',rfl,hs,hk,iX⟩:=h
 have L':wA R C s'.heap {b with chars:=b.chars.drop 1} x dx st ds lam cc cell sg pb:=L.chars (fun a o h e=>hk a o h e) iX (by have:=L.sz;refine af Bw ?_;omega)
 have rJ:yZ s s':=(yZ.heap (.refl s) s.heap (s.toks+1+1+1)).trans hs
 have T':=T.se Y bW hF rJ (fun a o h e=>hk a o (fun q=>h (by(refine af hF ?_;refine af q ?_);simp)) e) L'
 exact⟨N,F,[],T', .str ..,ew.nil⟩
noncomputable def xb(i:Nat):Den:=fun g=>(ia g i).map fun vb=>({g with β:=some (vb.1,{vb.2 with line:=vb.2.line+1})}, .next)
theorem zN.o3(Y:fg R C N₀ fI fR fG fP X){z:Str}{i:Nat}{p0 ap cp:B0}{k:Nat}{kp:B0}(hz:X.C.Γ.lookup z=some i)(bH:bad z=false):
  zN X tv dv (.AugAssign (.Attribute (.Name z p0) "lineno" ap) .Add (.Constant (.int 1) k kp) cp) (xb i):=fun K env A E s₀ g N F s g' fl T e=>by
 obtain⟨⟨v,b⟩,e1,e2⟩:=dk e
 refine aq (Bh e2) fun aG aM=>?_
 subst aG
 subst aM
 refine aq (qy e1) fun bu bW=>?_
 obtain⟨x,dx,st,ds,lam,cc,cell,sg,pb,rfl,hF,L,nK⟩:=T.lex Y bW
 have c:=Y.cls _ T.pre.wd
 refine wpAny_AugAssign_AttributeAny (Bq (zS T.kind (T.self hz bu) ?_ (wP bH)) (wD bH))
 refine Rv L c fun t=>Fv (Kl ?_)
 refine Zx (s:={s with toks:=s.toks+1+1+1}) L c fun h' tk L' hk=>?_
 have T':=T.se (s':={s with heap:=h',toks:=tk}) Y bW hF ((yZ.refl s).heap h' tk) (fun a o h e=>hk a o (fun q=>h (by rw[hF,q];simp)) (fun q=>h (by rw[hF,q];simp)) e) L'
 exact⟨rfl,N,F,T'⟩
end
inductive LW(R:bX)(C:Addr)(v:Value)(b':aj)(r:List Nat)(F:List Addr)(s:Ab)(res:D6)(s':Ab):Prop
 |mk (t:Js) (e:res= .ok (.ret (.str ⟨r.toArray⟩ t))) (sm:yZ s s') (k:∀a o,a∉F->s.heap.get? a=some o->s'.heap.get? a=some o) (l:iI R C v b' F s'.heap):LW R C v b' r F s res s'
noncomputable def mu(W:bx)(R:bX)(C:Addr)(D:Nat)(f:Addr)(op:aj->aj->List Nat->Prop):Prop:=∀(A:Am) (s:Ab) (v:Value) (b b':aj) (r:List Nat) (F:List Addr),wO D A->iI R C v b F s.heap->
 (∀h:Ap,(∀a o,a∉F->s.heap.get? a=some o->h.get? a=some o)->W.Wd h)->op b b' r->
 Ca (Af W.prog W.w) A (.call (.ref f) ⟨[v],[]⟩) (LW R C v b' r F s) s
noncomputable def gz(b:aj):aj×List Nat:=({b with chars:=b.chars.drop 1,line:=if b.chars.take 1==[10]then b.line+1 else b.line},b.chars.take 1)
noncomputable def sf(b b':aj)(r:List Nat):Prop:=gz b=(b',r)
noncomputable def fE(h:Ap)(F:List Addr):Addr->Option Obj:=fun a=>if a∈F then none else h.get? a
theorem xd{h:Ap}{F:List Addr}{a:Addr}{o:Obj}(e:fE h F a=some o):a∉F/\h.get? a=some o:=by
 unfold fE at e
 split at e
 ·exact nn e
 ·rename_i q;exact⟨q,e⟩
theorem jN{h:Ap}{F:List Addr}{a:Addr}{o:Obj}(q:a∉F)(e:h.get? a=some o):fE h F a=some o:=by
 refine eV q ?_;exact e
section
variable{R:bX}{C N₀ fI fR fG fP:Addr}{W:bx}
theorem ZC{scope:Scope}{params:Arguments}{name qual zs zc:Str}{CE p0 p1 ap cp ZD ZE dX ZF ip ZG rp kp ZH:B0}{k k2:Nat}{test:Expr}
  (hY:∀bC,fg R C N₀ fI fR fG fP ⟨W,wI R C bC,xY scope [zs]⟩) (w6:∃W',R.Ok W'/\W'.prog=W.prog/\W'.w=W.w/\W'.D+1=W.D/\∀h,W.Wd h->W'.Wd h)
  (hm:∀h,W.Wd h->lH h fR name qual params [.Assign [.Name zc CE] (.Call (.Attribute (.Attribute (.Name zs p0) "instream" p1) "read" ap) [.Constant (.int 1) k kp] [] cp) ZD,
   .If test [.AugAssign (.Attribute (.Name zs ZE) "lineno" dX) .Add (.Constant (.int 1) k2 ZH) ZF] [] ip, .Return (some (.Name zc ZG)) rp] scope)
  (bj:ji scope [zs]=true) (iW:scope.names.all (fun y=>y.2 != .cell)=true) (hz:(xY scope [zs]).Γ.lookup zs=some 0) (hc:(xY scope [zs]).Γ.lookup zc=some 1) (xf:(xY scope [zs]).kn.lookup zc=some .local) (hn:(xY scope [zs]).n=2) (RD:bad zs=false) (gA:bad zc=false) (aQ:(ap.endLine==cp.line)=true)
  (br:∀pm cd doc u body,Fc (Ig name qual params body scope pm cd doc .none) ⟨[u],[]⟩=pure [(zs,u)])
  (ht:du W (xY scope [zs]) test (.cmp .Eq (.var 1) (.lit (.str [10])))):mu W R C (W.D+1) fR sf:=by
 intro A s v b b' r F aP dj eS gB
 refine aq (Bh gB) fun aG aM=>?_
 subst aG
 subst aM
 have jO:W.Wd s.heap:=eS _ fun a o _ e=>e
 have cA:=(hY F).lim _ jO
 refine Rm (X:=⟨W,wI R C F,xY scope [zs]⟩) (xs:=[zs]) (ps:=[.obj v]) (vs:=[v]) (β:=some (v,b)) (K:=fE s.heap F) (F:=F) rfl bj iW (hm _ jO) cA aP (fun a o e=>(xd e).2) (fun h k=>eS h fun a o h1 h2=>k a o (jN h1 h2))
  (fun u c e=>sp e ⟨rfl,dj⟩) (fun a ha=>⟨by exact xT ha rfl,dj.bV a ha⟩) (fun pm cd doc=>br pm cd doc v _) (ao.one (.obj v)) rfl fun env aa T=>?_
 have bu:(eI (xY scope [zs]) [.obj v] (some (v,b)))=⟨[some (.obj v),none],some (v,b)⟩:=by unfold eI;refine af hn ?_;rfl
 have vn:∀z b,ia ⟨[some (.obj v),z],some (v,b)⟩ 0=some (v,b):=fun z b=>by exact if_pos (beq_self_eq_true v)
 refine zE (zP.cons (tv₁:=[]) (dv₁:=[]) (tv':=[]) (dv':=[]) (zN.assign hc (.inl rfl) (dm.jq (hY F) w6 hz RD aQ) fun env _=>rfl)
   (zP.cons (tv₁:=[]) (dv₁:=[]) (zN.PR ht (zP.cons (tv₁:=[]) (dv₁:=[]) (zN.o3 (hY F) hz RD) (zP.nil rfl rfl) rfl rfl rfl rfl) (zP.nil rfl rfl))
    (zP.cons (tv₁:=[]) (dv₁:=[]) (zN.ret (dm.pure (av.var xf rfl hc (wD gA) (wP gA)))) (zP.nil rfl rfl) rfl rfl rfl rfl) rfl rfl rfl rfl) rfl rfl rfl rfl
   (fE s.heap F) env _ _ s _ _ F _ ⟨[some (.obj v),some (.str (b.chars.take 1))],some (v,{b with chars:=b.chars.drop 1,line:=if b.chars.take 1==[10]then b.line+1 else b.line})⟩ (.ret (.str (b.chars.take 1))) T ?_) fun fw s' h=>?_
 ·refine af bu ?_
  have e1:yX 1 (CX 0) ⟨[some (.obj v),none],some (v,b)⟩=some (⟨[some (.obj v),some (.str (b.chars.take 1))],some (v,{b with chars:=b.chars.drop 1})⟩, .next):=by
   unfold yX CX;refine af (vn ..) ?_;rfl
  refine(?_:(yX 1 (CX 0) _).bind _=_)
  refine zK e1 ?_
  refine(?_:(BP W.U _ _ _ _).bind _=_)
  have e2:BP W.U (.cmp .Eq (.var 1) (.lit (.str [10]))) (zZ (xb 0) aA) aA ⟨[some (.obj v),some (.str (b.chars.take 1))],some (v,{b with chars:=b.chars.drop 1})⟩=some (⟨[some (.obj v),some (.str (b.chars.take 1))],some (v,{b with chars:=b.chars.drop 1,line:=if b.chars.take 1==[10]then b.line+1 else b.line})⟩, .next):=by
   refine(?_:(if(b.chars.take 1==[10])=true then zZ (xb 0) aA _ else aA _)=_)
   cases hq:(b.chars.take 1==[10])with
   |false=>rfl
   |true=>
    refine xT rfl ?_
    refine(?_:(xb 0 _).bind _=_)
    unfold xb
    refine af (vn ..) ?_;rfl
  refine af e2 ?_;rfl
 ·obtain⟨⟨u,ms,rfl,ru,_⟩,N',F',T'⟩:=h
  have hb:=T'.book _ _ rfl
  refine aq hb fun aG hl=>?_
  clear hb
  subst aG
  refine aB ru.inv fun t aM _=>?_
  subst aM
  exact⟨_,rfl,T'.same,fun a o h1 h2=>T'.kept a o (jN h1 h2),hl⟩
end
theorem ao.sh{h:Ap}{p:PV}{ps:List PV}{vs:List Value}{ns:List Addr}(x:ao h (p::ps) vs ns):∃v us n m,vs=v::us/\ns=n++m/\VR h p v n/\ao h ps us m:=by
 cases x with
 |cons a b=>exact⟨_,_,_,_,rfl,rfl,a,b⟩
theorem ao.o4{h:Ap}{p:PV}{ps:List PV}{vs:List Value}(x:ao h (p::ps) vs []):∃v us,vs=v::us/\VR h p v []/\ao h ps us []:=by
 refine tM x.sh fun v us n m e hn a b=>?_
 have:n=[]/\m=[]:=by simpa using hn.symm
 refine aq this fun aG aM=>?_
 clear this
 subst aG
 subst aM
 exact tN v us e a b
section
variable(X:Ctx)(tv dv:List Nat)
noncomputable def o5(test:Expr)(f:Sg->Option Bool):Prop:=∀K env A E s₀ g N F s b,ax X tv dv K env A s₀ g N F s->f g=some b->Al (Af X.W.prog X.W.w) A (Lp test env (eval test env)) (fun b' s'=>b'=b/\KG s s') E s
noncomputable def fh(P:(Addr->Option Obj)->Prop)(st:Stmt)(f:Den):Prop:=∀K env A E s₀ g N F s g' fl,P K->ax X tv dv K env A s₀ g N F s->f g=some (g',fl)->
 HU X tv dv K env A E s₀ g' fl st s
noncomputable def yW(P:(Addr->Option Obj)->Prop)(b:List Stmt)(f:Den):Prop:=∀K env A E s₀ g N F s g' fl,P K->ax X tv dv K env A s₀ g N F s->f g=some (g',fl)->
 PQ X tv dv K env A E s₀ g' fl b s
end
noncomputable def kO(c:Sg->Option Bool)(f h:Den):Den:=fun g=>(c g).bind fun t=>if t then f g else h g
section
variable{X:Ctx}{tv dv:List Nat}{P:(Addr->Option Obj)->Prop}
theorem o5.of{test:Expr}{c:PT}(h:du X.W X.C test c):o5 X tv dv test (fun g=>aZ X.W.U c g.σ):=fun K env A E s₀ g N F s b T e=>h env A E s g.σ b T.pre e
theorem fh.of{st:Stmt}{f:Den}(h:zN X tv dv st f):fh X tv dv P st f:=fun K env A E s₀ g N F s g' fl _ T e=>h K env A E s₀ g N F s g' fl T e
theorem yW.nil:yW X tv dv P [] aA:=fun K env A E s₀ g N F s g' fl _ T e=>by obtain⟨rfl,rfl⟩:=Bh (Aa e);exact Ek ⟨rfl,N,F,T⟩
theorem yW.cons{st:Stmt}{rest:List Stmt}{f h:Den}(h1:fh X tv dv P st f)(h2:yW X tv dv P rest h):yW X tv dv P (st::rest) (zZ f h):=fun K env A E s₀ g N F s g' fl p T e=>by
 obtain⟨⟨g₁,iw⟩,e1,e2⟩:=wG e
 refine Bd (zE (h1 K env A E s₀ g N F s g₁ iw p T e1) fun fw aa ah=>?_)
 obtain⟨hf,N',F',T'⟩:=ah
 cases iw with
 |next=>
  have hf:fw= .next:=hf
  subst hf
  exact h2 K env A E s₀ g₁ N' F' aa g' fl p T' e2
 |brk=>obtain⟨rfl,rfl⟩:=Bh (Aa e2);have hf:fw= .brk:=hf;subst hf;exact⟨rfl,N',F',T'⟩
 |cont=>obtain⟨rfl,rfl⟩:=Bh (Aa e2);have hf:fw= .cont:=hf;subst hf;exact⟨rfl,N',F',T'⟩
 |ret p=>
  refine aq (Bh (Aa e2)) fun aG aM=>?_
  subst aG
  subst aM
  refine da hf fun v ms cz r hn=>?_
  clear hf
  subst cz
  exact⟨⟨v,ms,rfl,r,hn⟩,N',F',T'⟩
theorem fh.kP{test:Expr}{body orelse:List Stmt}{pos:B0}{c:Sg->Option Bool}{f h:Den}(ht:o5 X tv dv test c)(hb:yW X tv dv P body f)(ho:yW X tv dv P orelse h):
  fh X tv dv P (.If test body orelse pos) (kO c f h):=fun K env A E s₀ g N F s g' fl p T e=>by
 refine oB e fun t e1 e2=>?_
 refine Mc (zE (ht K env A E s₀ g N F s t T e1) fun b aa ah=>?_)
 refine aq ah fun aG k=>?_
 clear ah
 subst aG
 cases b with
 |true=>exact hb K env A E s₀ g N F aa g' fl p (T.kg k) e2
 |false=>exact ho K env A E s₀ g N F aa g' fl p (T.kg k) e2
end
section
variable{R:bX}{C N₀ fI fR fG fP:Addr}{X:Ctx}{tv dv:List Nat}{K:Addr->Option Obj}{env:Dy}{A:Am}{s₀ s s':Ab}{g:Sg}{N:Nat->List Addr}{F:List Addr}
theorem ax.xh(T:ax X tv dv K env A s₀ g N F s){a:Addr}(hK:K a=none)(hF:a∉F)(ho:∃o,s.heap.get? a=some o/\xW o=true)(hs:yZ s s')(hk:∀b o,b≠a->s.heap.get? b=some o->s'.heap.get? b=some o):ax X tv dv K env A s₀ g N F s':=by
 refine aB ho fun oa nF dI=>?_
 have hl:env.locals≠a:=fun q=>by
  refine qY T.loc fun m o es ep e1 e2 _=>?_
  rw[q,nF]at e1;obtain rfl:=Aa e1;unfold xW at dI;rw[e2]at dI;exact ft dI
 have aT:∀c v,s.heap.IsCell c v->c≠a:=fun c v h q=>by
  refine aB h fun o e1 e2=>?_
  rw[q,nF]at e1;obtain rfl:=Aa e1;unfold xW at dI;rw[e2]at dI;exact ft dI
 have hn:∀j b,b∈N j->b≠a:=fun j b hb q=>by
  refine fT (T.nd j b hb) fun items n e=>?_
  rw[q,nF]at e;obtain rfl:=Aa e;exact ft dI
 have up:∀j b,b∈N j->∀o,s.heap.get? b=some o->s'.heap.get? b=some o:=fun j b hb o e=>hk b o (hn j b hb) e
 exact
  {T with
   loc:=by obtain⟨m,h⟩:=T.loc;exact⟨m,h.at' fun o e=>hk _ o hl e⟩
   cls:=fun x c e1 e2=>by
    refine aq (T.cls x c e1 e2) fun bJ h5=>?_
    refine dZ bJ fun u o h3 h4=>?_
    exact bZ ⟨u,o,hk c o (aT c _ ⟨o,h3,h4⟩) h3,h4⟩ h5
   rd:=fun x i p e1 e2=>by
    obtain⟨u,ac,r⟩:=T.rd x i p e1 e2
    refine⟨u,?_,r.on fun b hb o e=>up i b hb o e⟩
    rcases ac with⟨h1,m,h2,h3⟩|⟨h1,c,h2,o,h3,h4⟩
    ·exact .inl ⟨h1,m,h2.at' fun o e=>hk _ o hl e,h3⟩
    ·exact .inr ⟨h1,c,h2,o,hk c o (aT c _ ⟨o,h3,h4⟩) h3,h4⟩
   nd:=fun j b hb=>by obtain⟨items,n,e⟩:=T.nd j b hb;exact⟨items,n,up j b hb _ e⟩
   kept:=fun b o e=>hk b o (fun q=>by rw[q,hK]at e;exact nn e) (T.kept b o e)
   same:=T.same.trans hs
   book:=fun u b e=>X.BK.frame (T.book u b e) fun c hc o e=>hk c o (fun q=>hF (q▸hc)) e
   foot:=fun b hb=>by
    refine dY (T.foot b hb) fun h1 gL h3=>?_
    refine aH gL fun o h2=>?_
    exact⟨h1,⟨o,hk b o (fun q=>hF (q▸hb)) h2⟩,h3⟩}
noncomputable def um(i:Nat):Den:=fun g=>(ia g i).bind fun vb=>match vb.2.push with
 |[]=>some (g, .next)
 |w::r=>if r.length<1000 then some ({g with β:=some (vb.1,{vb.2 with push:=r})}, .ret (.str w))else none
theorem ZI{prog:Program}{w:Co}{A:Am}{E:Value->Ab->Prop}{s:Ab}{l:Addr}{us:List Value}{y:Value}{t:Js}{Q:Value->Ab->Prop}(hl:s.heap.PlainList l (y::us).toArray)(hsz:us.length+1<=ag)
  (hQ:∀h',h'.PlainList l us.toArray->Cd l s.heap h'->Q y {s with heap:=h'}):Al (Af prog w) A (call (.builtin "list.pop") [.ref l, .int 0 t]) Q E s:=by
 refine aH hl fun n ho=>?_
 have hz:(y::us).toArray.size<=sizeLine:=by rw[Bo];simp;exact Fx ‹_›
 have hk:F6 0 (y::us).toArray.size=some 0:=by unfold F6;simp
 refine I1 E2 ⟨_,ho,rfl⟩ Kb (PySem.F.args_list_pop_2 _ _) (PySem.MeetsSeq.list_pop_at l _ n 0 t 0 y (by decide) hk (by rfl) hz) ⟨ho,hQ _ ?_ (El ..).extBut⟩
 have q:=Gp ho (fun xs=>xs.eraseIdxIfInBounds 0)
 have:(y::us).toArray.eraseIdxIfInBounds 0=us.toArray:=by simp
 rw[this]at q
 exact cu _ q
theorem zN.sj(Y:fg R C N₀ fI fR fG fP X){z:Str}{i:Nat}{p0 p1 p2 p3 ap cp rp ip:B0}{k:Nat}{kp:B0}(hz:X.C.Γ.lookup z=some i)(bH:bad z=false)(aQ:(ap.endLine==cp.line)=true):
  zN X tv dv (.If (.Attribute (.Name z p0) "pushback" p1) [.Return (some (.Call (.Attribute (.Attribute (.Name z p2) "pushback" p3) "pop" ap) [.Constant (.int 0) k kp] [] cp)) rp] [] ip) (um i):=fun K env A E s₀ g N F s g' fl T e=>by
 obtain⟨⟨v,b⟩,e1,e2⟩:=wG e
 refine aq (qy e1) fun bu bW=>?_
 obtain⟨x,dx,st,ds,lam,cc,cell,sg,pb,rfl,hF,L,nK⟩:=T.lex Y bW
 have c:=Y.cls _ T.pre.wd
 refine aB L.nJ fun us cj bf=>?_
 refine Mc (wpAny_isTrue_value (Gl (Bq (zS T.kind (T.self hz bu) (Rw L c ?_) (wP bH)) (wD bH))) (Qs rfl _ _))
 have hul:us.length=b.push.length:=by have:=bf.length;simpa using this
 cases hp:b.push with
 |nil=>
  have e2:some (g,Fl.next)=some (g',fl):=by refine cw e2 ?_;refine(?_:_=(match b.push with|[]=>_|w::r=>_));exact af hp rfl
  refine aq (Bh (Aa e2)) fun aG aM=>?_
  subst aG
  subst aM
  refine zE (vg (x:= .list (b.push.map PV.str)) (wZ s (s.toks+1)) (.list cj bf) (b:=false) (by refine af hp ?_;rfl)) fun r aa ah=>?_
  refine aq ah fun aG k=>?_
  clear ah
  subst aG
  exact Ek ⟨rfl,N,F,T.kg k⟩
 |cons w r=>
  have e2:(if r.length<1000 then some ({g with β:=some (Hy x,{b with push:=r})},Fl.ret (.str w))else none)=some (g',fl):=by refine cw e2 ?_;refine(?_:_=(match b.push with|[]=>_|w::r=>_));exact af hp rfl
  split at e2
  ·rename_i hsz
   refine aq (Bh (Aa e2)) fun aG aM=>?_
   subst aG
   subst aM
   refine zE (vg (x:= .list (b.push.map PV.str)) (wZ s (s.toks+1)) (.list cj bf) (b:=true) (by
    refine af hp ?_;refine(?_:(if _<=ag then some _ else none)=_)
    refine xT (by unfold ag;simp;exact zC) ?_;rfl)) fun rr aa ah=>?_
   refine aq ah fun aG k=>?_
   clear ah
   subst aG
   have aR:=T.kg k
   have sk:wA R C aa.heap b x dx st ds lam cc cell sg pb:=L.keep fun a _ o e=>zV k a o e
   refine Bd (Ga ?_)
   refine Iy (wJ rfl _ env _) (zF rfl [] env) aQ ?_
   refine Gl (Bq (zS aR.kind (aR.self hz bu) (Rw sk (Y.cls _ aR.pre.wd) ?_) (wP bH)) (wD bH))
   refine aB sk.nJ fun RF jr mv=>?_
   rw[hp]at mv
   refine da mv.o4 fun v0 HY cz hv mw=>?_
   subst cz
   refine lU ("list") _ Eg E2 Hp jr.isList.typeIs (fun c e=>by cases e;obtain⟨n,h⟩:=jr;exact⟨_,h,rfl⟩) (Dc rfl (E1 (A8 (Fv (B4 ?_)))))
   have LX:HY.length+1<=ag:=by have:=mw.length;simp at this;unfold ag;lia
   refine ZI (s:={aa with toks:=aa.toks+1+1}) jr LX fun h' gj eY=>?_
   have cY:=hv
   have L':wA R C h' {b with push:=r} x dx st ds lam cc cell sg pb:=sk.push (fun a o h e=>eY a o h e) ⟨HY,gj,mw.on fun a ha=>nomatch ha⟩
   have T':=aR.se (s':={aa with heap:=h',toks:=aa.toks+1+1}) Y bW hF ((yZ.refl aa).heap h' _) (fun a o h e=>eY a o (fun q=>h (by(refine af hF ?_;refine af q ?_);simp)) e) L'
   refine⟨⟨v0,[],rfl,hv.on (fun a ha=>nomatch ha),(fun a ha=>nomatch ha)⟩,N,F,T'⟩
  ·exact nn e2
end
theorem wO.less{D D':Nat}{A:Am}(h:wO D A)(e:D'+1=D):wO D' A:=⟨h.hh,by have:=h.depth;lia,by have:=h.units;lia⟩
theorem wO.in1{D D':Nat}{A:Am}(h:wO D A)(e:D'+1=D):wO D' A.in1:=⟨h.hh,by have:=h.depth;refine(?_:A.depth+D'<_);lia,by have:=h.units;refine(?_:A.units+1+8*D'+60<cLine);lia⟩
section
variable{R:bX}{C N₀ fI fR fG fP:Addr}{X:Ctx}{tv dv:List Nat}{K:Addr->Option Obj}{env:Dy}{A:Am}{s₀ s s':Ab}{g:Sg}{N:Nat->List Addr}{F:List Addr}
structure mx(R:bX)(C fR:Addr)(X:Ctx):Prop where
 D:∃D,D+1=X.W.D/\mu X.W R C D fR sf
 ob:∀h,X.W.Wd h->∃of fd,h.get? fR=some of/\of.cls= .type "function" /\of.data= .func fd
theorem ax.LY(T:ax X tv dv K env A s₀ g N F s):∀h:Ap,(∀a o,a∉F->s.heap.get? a=some o->h.get? a=some o)->X.W.Wd h:=fun h k=>
 T.eG h fun a o e=>k a o (fun q=>by rw[(T.foot a q).1]at e;exact nn e) (T.kept a o e)
theorem RG(Y:fg R C N₀ fI fR fG fP X)(Z:mx R C fR X)(T:ax X tv dv K env A s₀ g N F s){A':Am}(hA:∀D,D+1=X.W.D->wO D A'){x:Addr}{b:aj}(bW:g.β=some (.ref x,b)){Rr:D6->Ab->Prop}
  (h:∀s' t,yZ s s'->(∀a o,a∉F->s.heap.get? a=some o->s'.heap.get? a=some o)->ax X tv dv K env A s₀ {g with β:=some (.ref x,(gz b).1)} N F s'->Rr (.ok (.ret (.str ⟨(gz b).2.toArray⟩ t))) s'):
  Ca (Af X.W.prog X.W.w) A' (.call (.ref fR) ⟨[.ref x],[]⟩) Rr s:=by
 refine aH Y.bk fun bC dj=>?_
 have hb:=T.book _ b bW
 rw[dj]at hb
 refine aq hb fun aG hl=>?_
 clear hb
 subst aG
 refine aB Z.D fun D hD fn=>?_
 refine E9 (fn A' s (.ref x) b (gz b).1 (gz b).2 F (hA D hD) hl T.LY rfl) fun res s' hr=>?_
 obtain⟨t,rfl,hs,hk,gI⟩:=hr
 exact h s' t hs hk (T.uk hs hk (by rw[dj];exact⟨rfl,gI⟩))
noncomputable def xi(i:Nat):dC:=fun g=>(ia g i).map fun vb=>({g with β:=some (vb.1,(gz vb.2).1)}, .str (gz vb.2).2)
theorem dm.my(Y:fg R C N₀ fI fR fG fP X)(Z:mx R C fR X){z:Str}{i:Nat}{p0 ap cp:B0}(hz:X.C.Γ.lookup z=some i)(bH:bad z=false)(aQ:(ap.endLine==cp.line)=true):
  dm X tv dv true (.Call (.Attribute (.Name z p0) "_read_char" ap) [] [] cp) (xi i):=fun K env A E s₀ g N F s g' p T e=>by
 obtain⟨⟨v,b⟩,e1,e2⟩:=dk e
 refine aq (Bh e2) fun aG aM=>?_
 subst aG
 subst aM
 refine aq (qy e1) fun bu bW=>?_
 obtain⟨x,dx,st,ds,lam,cc,cell,sg,pb,rfl,hF,L,nK⟩:=T.lex Y bW
 refine da (Z.ob _ T.pre.wd) fun of fd ho nH gu=>?_
 refine Rj (wJ rfl _ env _) aQ (Bq (zS T.kind (T.self hz bu) (fun pl=>Ru (Y.cls _ T.pre.wd) (fun _ h _ _=>h) ho nH Rq L (by decide) ?_) (wP bH)) (wD bH))
 refine callWith_meth0 gu ho (Gd (RG Y Z T (fun D hD=>T.room.less hD) bW fun s' t hs hk T'=>?_))
 exact⟨N,F,[],T', .str ..,ew.nil⟩
noncomputable def uo(i c:Nat):Sg->Option Bool:=fun g=>(ia g i).bind fun _=>((((g.σ[c]?).bind id).bind PV.dr).bind one).map fun a=>([10,9,13,32]:List Nat).contains a
theorem o5.ws(Y:fg R C N₀ fI fR fG fP X){z y:Str}{i c:Nat}{p0 p1 py pos:B0}(hz:X.C.Γ.lookup z=some i)(bH:bad z=false)(hy:X.C.Γ.lookup y=some c)(RH:bad y=false):
  o5 X tv dv (.Compare (.Name y py) [.In] [.Attribute (.Name z p0) "whitespace" p1] pos) (uo i c):=fun K env A E s₀ g N F s b T e=>by
 obtain⟨⟨v,bk⟩,e1,e2⟩:=wG e
 refine aq (qy e1) fun bu bW=>?_
 obtain⟨x,dx,st,ds,lam,cc,cell,sg,pb,rfl,hF,L,nK⟩:=T.lex Y bW
 obtain⟨a,e2,hb⟩:=dk e2
 refine oB e2 fun l e2 el=>?_
 refine oB e2 fun q e2 eq=>?_
 refine oB e2 fun q' hc e4=>?_
 obtain rfl:q'=some q:=e4
 obtain rfl:=PV.bO eq
 obtain rfl:=n7 el
 obtain⟨u,acc,r⟩:=T.rd y c _ hy hc
 refine F7 (Bq (zS T.kind acc ?_ (wP RH)) (wD RH)) rfl
 refine Gl (Bq (zS T.kind (T.self hz bu) (Zs L (Y.cls _ T.pre.wd) fun t=>?_) (wP bH)) (wD bH))
 refine zE (vf (op:= .In) (x:= .str [a]) (y:= .str [10,9,13,32]) (b:=b) (wZ s (s.toks+1)) (r.sub fun _ _ e=>e) (.str [10,9,13,32] t) (vj T.room) (congrArg some hb)) fun v ak au=>?_
 refine aq au fun aG bh=>?_
 clear au
 subst aG
 exact F8 ⟨rfl,bh⟩
end
noncomputable def lL(fR it m x:Addr)(K:Addr->Option Obj):Prop:=(∃o t,K it=some o/\o.cls= .type "callable_iterator" /\o.data= .fields #[.ref m, .str ⟨#[]⟩ t, .bool false])/\K m=some (nG fR x)
noncomputable def gU(out:Bool)(x:Value)(ic:Nat)(f:Den):Nat->Den
 |0=>fun _=>none
 |n+1=>fun g=>match g.β with
  |some (v,b)=>if v==x then(match b.chars with
    |[]=>if out then some ({g with β:=some (v,(gz b).1)}, .next)else none
    |c::_=>(f ({g with β:=some (v,(gz b).1)}.set ic (.str [c]))).bind fun r=>match r with
     |(g', .next)=>gU out x ic f n g'
     |(g', .cont)=>gU out x ic f n g'
     |(g', .brk)=>some (g', .next)
     |(g', .ret p)=>some (g', .ret p))else none
  |none=>none
noncomputable def RI(v:Value):Option (Option PV)->Bool
 |some (some (.obj u))=>u==v
 |_=>false
theorem ZJ{v:Value}{z:Option (Option PV)}(h:RI v z=true):z=some (some (.obj v)):=by
 cases z with
 |none=>exact ft h
 |some o=>
  cases o with
  |none=>exact ft h
  |some p=>
   cases p with
   |obj u=>exact congrArg (fun u=>some (some (PV.obj u))) (eq_of_beq h)
   |_=>exact ft h
noncomputable def RJ(g:Sg):Nat:=match g.β with
 |some (_,b)=>b.chars.length
 |none=>0
noncomputable def nM(out:Bool)(x:Value)(fi:Nat)(it:Value)(ic:Nat)(f:Den):Den:=fun g=>if RI it g.σ[fi]? then gU out x ic f (RJ g+1) g else none
section
variable{R:bX}{C N₀ fI fR fG fP:Addr}{X:Ctx}{K:Addr->Option Obj}{env:Dy}{A:Am}{s₀ s s':Ab}{g:Sg}{N:Nat->List Addr}{F:List Addr}
noncomputable def ZK(k:Den):Sg×Fl->Option (Sg×Fl)
 |(g', .next)=>k g'
 |(g', .cont)=>k g'
 |(g', .brk)=>some (g', .next)
 |(g', .ret p)=>some (g', .ret p)
inductive LZ(out:Bool)(x:Value)(ic:Nat)(f k:Den)(g:Sg)(r:Sg×Fl):Prop
 |nil (b:aj) (bW:g.β=some (x,b)) (hc:b.chars=[]) (ho:out=true) (e:({g with β:=some (x,(gz b).1)},Fl.next)=r):LZ out x ic f k g r
 |cons (b:aj) (c:Nat) (l:List Nat) (bW:g.β=some (x,b)) (hc:b.chars=c::l) (ct:Sg) (cf:Fl) (e2:f ({g with β:=some (x,(gz b).1)}.set ic (.str [c]))=some (ct,cf)) (e3:ZK k (ct,cf)=some r):LZ out x ic f k g r
theorem ZL{out:Bool}{x:Value}{ic n:Nat}{f:Den}{g:Sg}{r:Sg×Fl}(e:gU out x ic f (n+1) g=some r):LZ out x ic f (gU out x ic f n) g r:=by
 unfold gU at e
 cases bW:g.β with
 |none=>rw[bW]at e;exact nn e
 |some vb=>
  obtain⟨v,b⟩:=vb
  rw[bW]at e
  refine oI e fun hv e=>?_
  obtain rfl:=eq_of_beq hv
  cases hc:b.chars with
  |nil=>
   rw[hc]at e
   refine oI e fun ho e=>?_
   exact .nil b bW hc ho (Aa e)
  |cons c l=>
   rw[hc]at e
   obtain⟨⟨ct,cf⟩,e2,e3⟩:=wG e
   exact .cons b c l bW hc ct cf e2 e3
theorem ZM{b:aj}(h:b.chars=[]):(gz b).2=[]:=by unfold gz;rw[h];rfl
theorem RK{b:aj}{c:Nat}{r:List Nat}(h:b.chars=c::r):(gz b).2=[c]:=by unfold gz;rw[h];rfl
theorem RL(Y:fg R C N₀ fI fR fG fP X)(Z:mx R C fR X)(T:ax X [] [] K env A s₀ g N F s){it m x:Addr}{b:aj}(bW:g.β=some (.ref x,b))(hK:lL fR it m x K){Q:Option Value->Ab->Prop}{E:Value->Ab->Prop}
  (h1:∀c r,b.chars=c::r->∀s' t,ax X [] [] K env A s₀ {g with β:=some (.ref x,(gz b).1)} N F s'->Q (some (.str ⟨[c].toArray⟩ t)) s')
  (h0:b.chars=[]->∀s' h',ax X [] [] K env A s₀ {g with β:=some (.ref x,(gz b).1)} N F s'->Cd it s'.heap h'->Q none {s' with heap:=h'}):
  Al (Af X.W.prog X.W.w) A (G0 (.ref it)) Q E s:=by
 refine aq hK fun bJ km=>?_
 refine da bJ fun o t ko hc hd=>?_
 have ho:=T.kept it o ko
 have hm:=T.kept m _ km
 refine da (Z.ob _ T.pre.wd) fun of fd hf nH gu=>?_
 refine Y2 T.room.hh ⟨o,t,ho,hc,hd⟩ hm hf gu (RG Y Z T (fun D hD=>T.room.in1 hD) bW fun s' t hs hk T'=>?_)
 refine lU ((gz b).2) t rfl (fun o' e=>Aa (ho.symm.trans e)▸T'.kept it o ko) (T'.kept m _ km) ?_ (fun hn h' hx=>?_) (fun hn=>?_)
 ·refine da (Z.ob _ T'.pre.wd) fun qt r4 h2 _ h3=>?_
  exact nV qt r4 h2 h3
 ·cases hb:b.chars with
  |nil=>exact h0 hb s' h' T' hx
  |cons c r=>rw[RK hb]at hn;cases hn
 ·cases hb:b.chars with
  |nil=>exact absurd (ZM hb) hn
  |cons c r=>
   rw[RK hb]
   exact h1 c r hb s' t T'
theorem ZN(Y:fg R C N₀ fI fR fG fP X)(Z:mx R C fR X){it m x:Addr}{zc:Str}{ic n:Nat}{pc:B0}{body:List Stmt}{fb:Den}{E:Value->Ab->Prop}{cR:Addr->Option Obj}{g':Sg}{fl:Fl}{out:Bool}(hc:X.C.Γ.lookup zc=some ic)
  (hb:yW X [] [] (lL fR it m x) body fb) (p:lL fR it m x K) (gk:∀b o,cR b=some o->K b=some o) (o6:out=true->cR it=none) (wd:∀h:Ap,(∀b o,cR b=some o->h.get? b=some o)->X.W.Wd h) (I:vJ X [] [] K env A s₀ (gU out (.ref x) ic fb n) (g',fl) s'):
  Al (Af X.W.prog X.W.w) A (G0 (.ref it)) (fun r aa=>(r=none/\jf X [] [] cR env A s₀ g' fl .next aa)\/rj X.W.prog X.W.w A (.Name zc pc) it env E (fun s₂=>
    Al (Af X.W.prog X.W.w) A (Gi body env) (fun f ak=>match f with
     | .next| .cont=>∃m,m<n/\vJ X [] [] K env A s₀ (gU out (.ref x) ic fb m) (g',fl) ak
     | .brk=>jf X [] [] cR env A s₀ g' fl .next ak
     | .ret v=>jf X [] [] cR env A s₀ g' fl (.ret v) ak) E s₂) r aa) E s':=by
 obtain⟨g₁,wg,rP,aR,fK⟩:=I
 cases n with
 |zero=>exact nn fK
 |succ n=>
  rcases ZL fK with⟨b,bW,gA,ho,e⟩|⟨b,c,l,bW,gA,ct,cf,eZ,o7⟩
  ·refine RL Y Z aR bW p (fun c r h=>absurd (gA.symm.trans h) (List.cons_ne_nil c r).symm) fun _ s₂ ai aw hx=> .inl ⟨rfl,?_⟩
   refine aq p fun bJ _=>?_
   refine da bJ fun o t ko _ hd=>?_
   exact Internal.sp (congrArg some e) ⟨rfl,wg,rP,(aw.eQ gk wd).xh (s':={s₂ with heap:=ai}) (o6 ho) (fun hm=>nn ((aw.foot it hm).1.symm.trans ko)) ⟨o,aw.kept it o ko,by unfold xW;rw[hd]⟩ ((yZ.refl s₂).heap ai s₂.toks) (fun b ob hb e=>hx b ob hb e)⟩
  ·refine RL Y Z aR bW p (fun c' r' h s₂ sq aw=> .inr ?_) fun h=>absurd (h.symm.trans gA) (List.cons_ne_nil c l).symm
   refine aq (D9 (gA.symm.trans h)) fun aG _=>?_
   subst aG
   refine i12 _ rfl (B5 (show E4 (.Name zc pc) (.ref it) (.str ⟨[c].toArray⟩ sq)=pure ()from rfl) ?_)
   refine Dl (zE (aw.store hc (.str [c] sq) (ew.nil (own:=true)) (.inl rfl)) fun _ ak aN=>?_)
   refine zE (hb K env A _ s₀ _ _ rP ak ct cf p aN eZ) fun fw aU aW=>?_
   obtain⟨iz,gM,iA,bS⟩:=aW
   cases cf with
   |next=>exact Fz iz▸⟨n,Bk n,ct,gM,iA,bS,o7⟩
   |cont=>exact Fz iz▸⟨n,Bk n,ct,gM,iA,bS,o7⟩
   |brk=>exact Fz iz▸Internal.sp o7 ⟨rfl,gM,iA,bS.eQ gk wd⟩
   |ret q=>
    refine da iz fun u ms cz r' hn=>?_
    clear iz
    subst cz
    exact Internal.sp o7 ⟨⟨u,ms,rfl,r',fun a ha=>rB gk (hn a ha)⟩,gM,iA,bS.eQ gk wd⟩
theorem RM(Y:fg R C N₀ fI fR fG fP X)(Z:mx R C fR X){it m x:Addr}{zf zc:Str}{fi ic:Nat}{pc pf fp:B0}{body:List Stmt}{fb:Den}{E:Value->Ab->Prop}{cR:Addr->Option Obj}{g':Sg}{fl:Fl}{out:Bool}(hf:X.C.Γ.lookup zf=some fi)(uq:bad zf=false)(hc:X.C.Γ.lookup zc=some ic)
  (hb:yW X [] [] (lL fR it m x) body fb) (p:lL fR it m x K) (gk:∀b o,cR b=some o->K b=some o) (o6:out=true->cR it=none) (wd:∀h:Ap,(∀b o,cR b=some o->h.get? b=some o)->X.W.Wd h)
  (T:ax X [] [] K env A s₀ g N F s) (e:nM out (.ref x) fi (.ref it) ic fb g=some (g',fl)):
  Al (Af X.W.prog X.W.w) A (exec (.For (.Name zc pc) (.Name zf pf) body [] fp) env) (jf X [] [] cR env A s₀ g' fl) E s:=by
 refine oI e fun bu e=>?_
 refine wpAny_For ?_ (fun x=>wW rfl env x)
 refine Bq (zS T.kind (T.self hf (ZJ bu)) ?_ (wP uq)) (wD uq)
 refine aq (id p) fun bJ km=>?_
 refine da bJ fun o t ko ja hd=>?_
 refine Y0 (m:=m) ⟨o,t,T.kept it o ko,ja,hd⟩ ?_
 exact ID (fun n s'=>vJ X [] [] K env A s₀ (gU out (.ref x) ic fb n) (g',fl) s') (fun n s' I=>ZN Y Z hc hb p gk o6 wd I) (RJ g+1) ⟨g,N,F,T,e⟩
theorem fh.mC(Y:fg R C N₀ fI fR fG fP X)(Z:mx R C fR X){it m x:Addr}{zf zc:Str}{fi ic:Nat}{pc pf fp:B0}{body:List Stmt}{fb:Den}(hf:X.C.Γ.lookup zf=some fi)(uq:bad zf=false)(hc:X.C.Γ.lookup zc=some ic)
  (hb:yW X [] [] (lL fR it m x) body fb):fh X [] [] (lL fR it m x) (.For (.Name zc pc) (.Name zf pf) body [] fp) (nM false (.ref x) fi (.ref it) ic fb):=fun K env A E s₀ g N F s g' fl p T e=>
 RM Y Z hf uq hc hb p (fun _ _ e=>e) (fun h=>ft h) T.eG T e
theorem ZO(Y:fg R C N₀ fI fR fG fP X)(Z:mx R C fR X){it m x:Addr}{zf zc:Str}{fi ic:Nat}{pc pf fp:B0}{body:List Stmt}{fb:Den}{E:Value->Ab->Prop}{cR:Addr->Option Obj}{g':Sg}{fl:Fl}(hf:X.C.Γ.lookup zf=some fi)(uq:bad zf=false)(hc:X.C.Γ.lookup zc=some ic)
  (hb:yW X [] [] (lL fR it m x) body fb) (p:lL fR it m x K) (gk:∀b o,cR b=some o->K b=some o) (o6:cR it=none) (wd:∀h:Ap,(∀b o,cR b=some o->h.get? b=some o)->X.W.Wd h)
  (T:ax X [] [] K env A s₀ g N F s) (e:nM true (.ref x) fi (.ref it) ic fb g=some (g',fl)):
  Al (Af X.W.prog X.W.w) A (exec (.For (.Name zc pc) (.Name zf pf) body [] fp) env) (jf X [] [] cR env A s₀ g' fl) E s:=
 RM Y Z hf uq hc hb p gk (fun _=>o6) wd T e
end
section
variable{R:bX}{C N₀ fI fR fG fP:Addr}{X:Ctx}{K:Addr->Option Obj}{env:Dy}{A:Am}{s₀ s s':Ab}{g:Sg}{N:Nat->List Addr}{F:List Addr}
theorem ZP(Y:fg R C N₀ fI fR fG fP X)(Z:mx R C fR X){zs zf:Str}{i fi k:Nat}{pf pi pa ps kp cp ap:B0}(hz:X.C.Γ.lookup zs=some i)(bH:bad zs=false)(hf:X.C.Γ.lookup zf=some fi)(hk:X.C.kn.lookup ("iter" :Str)=some .globalImplicit) (hg:X.W.mg "iter" =none) (hb:X.W.mb "iter" =some (.builtin "iter"))
  (T:ax X [] [] K env A s₀ g N F s) {x:Addr} {b:aj} (bu:g.σ[i]?=some (some (.obj (.ref x)))) (bW:g.β=some (.ref x,b)) {Q:Mb->Ab->Prop} {E:Value->Ab->Prop}
  (h:∀it m eL N' s',ax X [] [] eL env A s₀ (g.set fi (.obj (.ref it))) N' F s'->lL fR it m x eL->(∀a o,K a=some o->eL a=some o)->K it=none->Q .next s'):
  Al (Af X.W.prog X.W.w) A (exec (.Assign [.Name zf pf] (.Call (.Name "iter" pi) [.Attribute (.Name zs ps) "_read_char" pa, .Constant (.str "") k kp] [] cp) ap) env) Q E s:=by
 obtain⟨x',dx,st,ds,lam,cc,cell,sg,pb,hx,hF,L,nK⟩:=T.lex Y bW
 cases hx
 obtain⟨⟨nm,q,bs,sn,sub,col,dd,k0,k1,k2,k3,k5,hC⟩,mN,hN,_,hR,_,_,w5,LS,_⟩:=Y.cls _ T.pre.wd
 refine qW L.inst fun mA I jL _ _ _ dD=>?_
 refine aH jL fun tl r5=>?_
 refine da (Z.ob _ T.pre.wd) fun of fd ho nH gu=>?_
 refine Hk ?_ rfl
 refine Er rfl ?_
 refine A6 T.kind (by unfold Be;refine af T.names ?_;exact hk) (C1 (mg:=X.W.mg) (mb:=X.W.mb) ?_ hg ?_ hb ?_) (by decide)
 ·refine af T.gl ?_;exact X.W.g T.pre.wd
 ·refine af T.bl ?_;exact X.W.b T.pre.wd
 refine callWith_builtin1 ?_ (zF rfl _ env) rfl
 refine af (zF rfl _ env) ?_
 refine af (zF rfl [] env) ?_
 refine A8 ?_
 refine Gl (Bq (zS T.kind (T.self hz bu) ?_ (wP bH)) (wD bH))
 refine YK hC hN w5 LS hR ho nH Rq I (dD _ (by decide)) ⟨"lineno",by refine af r5 ?_;simp⟩ (by decide) ?_
 refine A8 (Dt (pos:=kp) (k:=k) (B4 ?_))
 have RN:(s.heap.push (nG fR x)).get? s.heap.objs.size=some (nG fR x):=Av _ rfl
 refine Y1 (m:=s.heap.objs.size) (f:=fR) (x:=x) RN ?_
 generalize hH:(s.heap.push (nG fR x))=H at*
 have HN:Sub s.heap H:=fun a o e=>hH▸Ag _ e
 have RO:H.objs.size=s.heap.objs.size+1:=by(refine cw hH ?_;exact af (Ez ..) rfl)
 generalize hit:H.objs.size=it at*
 generalize hm:s.heap.objs.size=m at*
 have ZQ:s.heap.get? m=none:=hm▸yP 0
 have xj:s.heap.get? it=none:=by
  have:=yP (h:=s.heap) 1
  rw[hm]at this;refine af RO ?_;exact this
 have cY:m≠it:=by refine af RO ?_;exact Br (Bk _)
 have sr:(H.push {cls:= .type "callable_iterator",data:= .fields #[.ref m, .str ⟨#[]⟩ (s.toks+1), .bool false]}).get? it=some {cls:= .type "callable_iterator",data:= .fields #[.ref m, .str ⟨#[]⟩ (s.toks+1), .bool false]}:=hit▸Av _ rfl
 have aR:=T.kg (jH s (H.push {cls:= .type "callable_iterator",data:= .fields #[.ref m, .str ⟨#[]⟩ (s.toks+1), .bool false]}) (s.toks+1+1) fun a o e=>Ag _ (HN a o e))
 have Kn:∀a,s.heap.get? a=none->K a=none:=fun a e=>by
  cases q:K a with
  |none=>rfl
  |some o=>rw[T.kept a o q]at e;cases e
 have off:∀a o,s.heap.get? a=some o->a∉ [it,m]:=fun a o e qb=>by
  simp only[Ay,Aq,or_false]at qb
  rcases qb with rfl|rfl
  ·rw[xj]at e;exact nn e
  ·rw[ZQ]at e;exact nn e
 have aw:=aR.freeze (fp:=[it,m])
  {loc:=by obtain⟨_,o,_,_,e,_⟩:=T.loc;exact off _ o e
   cls:=fun y c e1 e2=>by obtain⟨⟨v,o,e,_⟩,_⟩:=T.cls y c e1 e2;exact off _ o e
   f:=fun a ha=>by obtain⟨_,⟨o,e⟩,_⟩:=T.foot a ha;exact off _ o e
   t:=fun j hj=>nomatch hj
   d:=fun j hj=>nomatch hj}
 refine zE (aw.store hf (.obj (.ref it)) (ew.nil (own:=true)) (.inl rfl)) fun _ ak aN=>?_
 refine h it m _ _ ak aN ⟨⟨_,s.toks+1,(lD (Aj ..)).trans sr,rfl,rfl⟩,(lD (by simp)).trans (Ag _ RN)⟩ (fun a o e=>?_) (Kn _ xj)
 refine af (wS (off a o (T.kept a o e))) ?_;exact e
end
noncomputable def ZR(i c:Nat):Den:=zZ (yX c (xi i)) aA
noncomputable def ur(i c:Nat)(U:Uc):Den:=kO (fun g=>aZ U (.cmp .Eq (.var c) (.lit (.str [92]))) g.σ) (ZR i c) aA
noncomputable def Ms(U:Uc)(t:Nat):Den:=zZ (vB (fD U (.var t))) aA
noncomputable def CY(U:Uc)(t c:Nat):Den:=zZ (ou U .Add t (.var c)) aA
noncomputable def ZS(U:Uc)(i t c:Nat):Den:=zZ (kO (fun g=>aZ U (.cmp .Eq (.var c) (.lit (.str [34]))) g.σ) (Ms U t) (zZ (ur i c U) aA)) (CY U t c)
noncomputable def qz(U:Uc)(i t c:Nat):Den:=zZ (kO (uo i c) (Ms U t) (zZ (ur i c U) aA)) (CY U t c)
noncomputable def qA(U:Uc)(i t f c:Nat)(x it:Value):Den:=
 zZ (kO (uo i c) (zZ (fun g=>some (g, .cont)) aA) aA)
  (zZ (kO (fun g=>aZ U (.cmp .Eq (.var c) (.lit (.str [34]))) g.σ) (zZ (nM false x f it c (ZS U i t c)) aA)
   (zZ (ur i c U) (zZ (ou U .Add t (.var c)) (zZ (nM false x f it c (qz U i t c)) aA)))) aA)
noncomputable def Mt(U:Uc)(x it:Value):Den:=zZ (nM true x 2 it 3 (qA U 0 1 2 3 x it)) (zZ (vB (fD U (.var 1))) aA)
noncomputable def jP(U:Uc)(b b':aj)(r:List Nat):Prop:=∀v:Value,
 um 0 ⟨[some (.obj v),none,none,none],some (v,b)⟩=some (⟨[some (.obj v),none,none,none],some (v,b')⟩, .ret (.str r))\/
 (b.push=[]/\∀it:Value,∃aJ,Mt U v it ⟨[some (.obj v),some (.str []),some (.obj it),none],some (v,b)⟩=some (⟨aJ,some (v,b')⟩, .ret (.str r)))
section
variable{zs zt zf zc:Str}
noncomputable abbrev ZT(zs zc:Str)(p1 p ap cp q:B0):Stmt:= .Assign [.Name zc p1] (.Call (.Attribute (.Name zs p) "_read_char" ap) [] [] cp) q
noncomputable abbrev CZ(zc x:Str)(k:Nat)(p1 p2 q:B0):Expr:= .Compare (.Name zc p1) [.Eq] [.Constant (.str x) k p2] q
noncomputable abbrev RP(zs zc:Str)(p1 p2 ap q:B0):Expr:= .Compare (.Name zc p1) [.In] [.Attribute (.Name zs p2) "whitespace" ap] q
noncomputable abbrev DA(zt zc:Str)(p1 p2 q:B0):Stmt:= .AugAssign (.Name zt p1) .Add (.Name zc p2) q
noncomputable abbrev DB(zt:Str)(p q:B0):Stmt:= .Return (some (.Name zt p)) q
noncomputable abbrev DC(zs zc:Str)(a1:Nat)(a2 a3 a4 a5 a6 a7 a8 a9 o8:B0):Stmt:= .If (CZ zc "\\" a1 a2 a3 a4) [ZT zs zc a5 a6 a7 a8 a9] [] o8
structure uu(X:Ctx)(zs zt zf zc:Str):Prop where
 s:X.C.Γ.lookup zs=some 0/\bad zs=false/\X.C.kn.lookup zs=some .local
 t:X.C.Γ.lookup zt=some 1/\bad zt=false/\X.C.kn.lookup zt=some .local
 f:X.C.Γ.lookup zf=some 2/\bad zf=false/\X.C.kn.lookup zf=some .local
 c:X.C.Γ.lookup zc=some 3/\bad zc=false/\X.C.kn.lookup zc=some .local
 n:X.C.n=4
 ki:X.C.kn.lookup ("iter" :Str)=some .globalImplicit
 gi:X.W.mg "iter" =none
 bi:X.W.mb "iter" =some (.builtin "iter")
variable{R:bX}{C N₀ fI fR fG fP:Addr}{X:Ctx}{P:(Addr->Option Obj)->Prop}
theorem du.eqc(O:uu X zs zt zf zc){x:Str}{k:Nat}{p1 p2 q:B0}{l:List Nat}(h:x=mkStr l):o5 X [] [] (CZ zc x k p1 p2 q) (fun g=>aZ X.W.U (.cmp .Eq (.var 3) (.lit (.str l))) g.σ):=
 o5.of (du.cmp (av.var O.c.2.2 rfl O.c.1 (wD O.c.2.1) (wP O.c.2.1)) (av.cStr h) rfl)
theorem fh.dJ(Y:fg R C N₀ fI fR fG fP X)(Z:mx R C fR X)(O:uu X zs zt zf zc){a1:Nat}{a2 a3 a4 a5 a6 a7 a8 a9 o8:B0}(hl:(a7.endLine==a8.line)=true):fh X [] [] P (DC zs zc a1 a2 a3 a4 a5 a6 a7 a8 a9 o8) (ur 0 3 X.W.U):=
 fh.kP (du.eqc O rfl) (yW.cons (fh.of (zN.assign O.c.1 (.inl rfl) (dm.my Y Z O.s.1 O.s.2.1 hl) fun env _=>rfl)) yW.nil) yW.nil
theorem yW.add(O:uu X zs zt zf zc){p1 p2 q:B0}:yW X [] [] P [DA zt zc p1 p2 q] (CY X.W.U 1 3):=
 yW.cons (fh.of (zN.aug O.t.1 (av.var O.c.2.2 rfl O.c.1 (wD O.c.2.1) (wP O.c.2.1)) (wP O.t.2.1))) yW.nil
theorem yW.xk(O:uu X zs zt zf zc){p q:B0}:yW X [] [] P [DB zt p q] (Ms X.W.U 1):=
 yW.cons (fh.of (zN.ret (dm.pure (av.var O.t.2.2 rfl O.t.1 (wD O.t.2.1) (wP O.t.2.1))))) yW.nil
end
noncomputable def ZU(X:Ctx)(fR:Addr)(fi:Nat)(st:Stmt):Prop:=∀{K:Addr->Option Obj} {env:Dy} {A:Am} {s₀ s:Ab} {g:Sg} {N:Nat->List Addr} {F:List Addr} {x:Addr} {b:aj},ax X [] [] K env A s₀ g N F s->g.σ[0]?=some (some (.obj (.ref x)))->g.β=some (.ref x,b)->∀{Q:Mb->Ab->Prop} {E:Value->Ab->Prop},
 (∀it m eL N' s',ax X [] [] eL env A s₀ (g.set fi (.obj (.ref it))) N' F s'->lL fR it m x eL->(∀a o,K a=some o->eL a=some o)->K it=none->Q .next s')->Al (Af X.W.prog X.W.w) A (exec st env) Q E s
noncomputable def ZV(X:Ctx)(fR:Addr)(st:Stmt)(D:Value->Value->Den):Prop:=∀{K cR:Addr->Option Obj} {env:Dy} {A:Am} {s₀ s:Ab} {g g':Sg} {fl:Fl} {N:Nat->List Addr} {F:List Addr} {it m x:Addr} {E:Value->Ab->Prop},lL fR it m x K->(∀b o,cR b=some o->K b=some o)->cR it=none->(∀h:Ap,(∀b o,cR b=some o->h.get? b=some o)->X.W.Wd h)->
 ax X [] [] K env A s₀ g N F s->D (.ref x) (.ref it) g=some (g',fl)->Al (Af X.W.prog X.W.w) A (exec st env) (jf X [] [] cR env A s₀ g' fl) E s
theorem Mu{R:bX}{C:Addr}{W:bx}{Cc:Cx}{F:List Addr}{s s':Ab}{env:Dy}{A:Am}{aJ:List (Option PV)}{v:Value}{b':aj}{r:List Nat}{fw:Mb}(h:jf ⟨W,wI R C F,Cc⟩ [] [] (fE s.heap F) env A s ⟨aJ,some (v,b')⟩ (.ret (.str r)) fw s'):
  ∃u,fw= .ret u/\LW R C v b' r F s (.ok (.ret u)) s':=by
 obtain⟨⟨u,ms,rfl,ru,_⟩,N',F',T'⟩:=h
 refine aB ru.inv fun t aM _=>?_
 subst aM
 refine aq (T'.book _ _ rfl) fun aG gI=>?_
 subst aG
 exact⟨_,rfl,t,rfl,T'.same,fun a o h1 h2=>T'.kept a o (jN h1 h2),gI⟩
theorem ZW{R:bX}{C N₀ fI fR fG fP:Addr}{W:bx}{scope:Scope}{params:Arguments}{name qual zs:Str}{s1 s2 s3 s4 s5:Stmt}{D:Value->Value->Den}{d5:Den}
  (hY:∀bC,fg R C N₀ fI fR fG fP ⟨W,wI R C bC,xY scope [zs]⟩) (hn:(xY scope [zs]).n=4)
  (hm:∀h,W.Wd h->lH h fG name qual params [s1,s2,s3,s4,s5] scope) (h1:∀F,zN ⟨W,wI R C F,xY scope [zs]⟩ [] [] s1 (um 0)) (h2:∀F,zN ⟨W,wI R C F,xY scope [zs]⟩ [] [] s2 (yX 1 (fD W.U (.lit (.str [])))))
  (h3:∀F,ZU ⟨W,wI R C F,xY scope [zs]⟩ fR 2 s3) (h4:∀F,ZV ⟨W,wI R C F,xY scope [zs]⟩ fR s4 D) (h5:∀F,zP ⟨W,wI R C F,xY scope [zs]⟩ [] [] [] [] [s5] d5) (hD:∀v it,Mt W.U v it=zZ (D v it) d5)
  (bj:ji scope [zs]=true) (iW:scope.names.all (fun y=>y.2 != .cell)=true) (br:∀pm cd doc u body,Fc (Ig name qual params body scope pm cd doc .none) ⟨[u],[]⟩=pure [(zs,u)]):mu W R C (W.D+1) fG (jP W.U):=by
 intro A s v b b' r F aP dj eS gB
 have jO:W.Wd s.heap:=eS _ fun a o _ e=>e
 refine Rm (X:=⟨W,wI R C F,xY scope [zs]⟩) (xs:=[zs]) (ps:=[.obj v]) (vs:=[v]) (β:=some (v,b)) (K:=fE s.heap F) (F:=F) rfl bj iW (hm _ jO) ((hY F).lim _ jO) aP (fun a o e=>(xd e).2) (fun h k=>eS h fun a o h1 h2=>k a o (jN h1 h2))
  (fun u c e=>sp e ⟨rfl,dj⟩) (fun a ha=>⟨by exact xT ha rfl,dj.bV a ha⟩) (fun pm cd doc=>br pm cd doc v _) (ao.one (.obj v)) rfl fun env aa T=>?_
 rw[show eI (xY scope [zs]) [.obj v] (some (v,b))=⟨[some (.obj v),none,none,none],some (v,b)⟩by unfold eI;rw[hn];rfl]at T
 rcases gB v with e1|⟨hp,e2⟩
 ·refine Bd (zE (h1 F _ env _ _ _ _ _ F _ _ _ T e1) fun fw s₂ ai=>?_)
  refine aB (Mu ai) fun u aM h=>?_
  subst aM
  exact h
 ·refine Bd (zE (h1 F _ env _ _ _ _ _ F _ ⟨[some (.obj v),none,none,none],some (v,b)⟩ .next T ?_) fun fw s₂ ai=>?_)
  ·simp[um,ia,hp]
  obtain⟨hf,rQ,oR,aw⟩:=ai
  obtain rfl:fw= .next:=hf
  refine Bd (zE (h2 F _ env _ _ _ _ _ oR _ ⟨[some (.obj v),some (.str []),none,none],some (v,b)⟩ .next aw rfl) fun fw ak au=>?_)
  obtain⟨hf,fF,kF,aN⟩:=au
  obtain rfl:fw= .next:=hf
  obtain⟨x,dx,st,ds,lam,cc,cell,sg,pb,rfl,hF,L,nK⟩:=aN.lex (hY F) rfl
  refine Bd (h3 F aN rfl rfl fun it m eL gM aU bS xm gk o6=>?_)
  refine aH (e2 (.ref it)) fun aJ e2=>?_
  rw[hD]at e2
  obtain⟨⟨ZX,xn⟩,Mv,o9⟩:=wG e2
  refine Bd (zE (h4 F xm gk o6 (fun h k=>eS h fun a o h1 h2=>k a o (jN h1 h2)) bS Mv) fun fw cN dQ=>?_)
  cases xn with
  |next=>
   obtain⟨hf,ZY,Mw,dE⟩:=dQ
   obtain rfl:fw= .next:=hf
   refine zE (h5 F _ env _ _ _ _ _ Mw _ _ _ dE o9) fun fw s₆ eE=>?_
   refine aB (Mu eE) fun u aM h=>?_
   subst aM
   exact h
  |ret p=>
   refine aq (Bh (Aa o9)) fun aG q=>?_
   subst aG
   obtain rfl:=Fl.ret.inj q
   refine aB (Mu dQ) fun u aM h=>?_
   subst aM
   exact h
  |brk=>exact Fl.noConfusion (Bh (Aa o9)).2
  |cont=>exact Fl.noConfusion (Bh (Aa o9)).2
section
variable{zs zt zf zc:Str}{j1 j2 j3 j4 j5 j6 j7 j8:Nat}{q1 q2 q3 q4 q5 q6 q7 q8 q9 ZZ aH aB lh j9 pQ qW Z0 Z1 Z2 Z3 fT dZ da u1 FY u2 Z4 Z5 Z6 Z7 AP qX nT i5 AQ FZ Z8 Z9 q39 q40 q41 tL qY tM u3 u4 RQ q48 q49 q50 q51 q52 AR q54 q55 q56 q57 q58 q59 q60 q61 q62 GC q64 q65 q66 q67 q68 RU RV q71 q72 q73 q74 q75 q76 q77 q78 q79 q80 q81 q82 q83 q84 q85 q86 q87 q88 q89 q90 q91 q92 q93 q94 q95 q96:B0}
theorem yAp{R:bX}{C N₀ fI fR fG fP:Addr}{W:bx}{scope:Scope}{params:Arguments}{name qual:Str}
  (hY:∀bC,fg R C N₀ fI fR fG fP ⟨W,wI R C bC,xY scope [zs]⟩) (hZ:∀bC,mx R C fR ⟨W,wI R C bC,xY scope [zs]⟩) (hO:∀bC,uu ⟨W,wI R C bC,xY scope [zs]⟩ zs zt zf zc)
  (hm:∀h,W.Wd h->lH h fG name qual params [.If (.Attribute (.Name zs q78) "pushback" q79) [.Return (some (.Call (.Attribute (.Attribute (.Name zs q80) "pushback" q81) "pop" RU) [.Constant (.int 0) j6 q82] [] RV)) q83] [] q84,
   .Assign [.Name zt q85] (.Constant (.str "") j7 q86) q87,
   .Assign [.Name zf q88] (.Call (.Name "iter" q89) [.Attribute (.Name zs q90) "_read_char" q91, .Constant (.str "") j8 q92] [] q93) q94,
   .For (.Name zc q66) (.Name zf q67) [.If (RP zs zc q56 q57 q58 q59) [.Continue q60] [] q61, .If (CZ zc "\"" j5 q62 GC q64) [.For (.Name zc Z2) (.Name zf Z3) [.If (CZ zc "\"" j1 q1 q2 q3) [DB zt q4 q5] [DC zs zc j2 q6 q7 q8 q9 ZZ aH aB lh j9] pQ,DA zt zc qW Z0 Z1] [] fT] [DC zs zc j4 q41 tL qY tM u3 u4 RQ q48 q49,DA zt zc q50 q51 q52, .For (.Name zc AR) (.Name zf q54) [.If (RP zs zc dZ da u1 FY) [DB zt u2 Z4] [DC zs zc j3 Z5 Z6 Z7 AP qX nT i5 AQ FZ] Z8,DA zt zc Z9 q39 q40] [] q55] q65] [] q68,
   DB zt q95 q96] scope)
  (hl:(RU.endLine==RV.line)=true/\(aH.endLine==aB.line)=true/\(nT.endLine==i5.line)=true/\(u4.endLine==RQ.line)=true)
  (bj:ji scope [zs]=true) (iW:scope.names.all (fun y=>y.2 != .cell)=true)
  (br:∀pm cd doc u body,Fc (Ig name qual params body scope pm cd doc .none) ⟨[u],[]⟩=pure [(zs,u)]):mu W R C (W.D+1) fG (jP W.U):=by
 exact ZW (D:=fun v it=>nM true v 2 it 3 _) hY (hO []).n hm (fun F=>zN.sj (hY F) (hO F).s.1 (hO F).s.2.1 hl.1) (fun F=>zN.assign (hO F).t.1 (.inl rfl) (dm.pure (av.cStr (l:=[]) rfl)) (fun env _=>rfl))
  (fun F=>fun T bu bW _ _ h=>ZP (hY F) (hZ F) (hO F).s.1 (hO F).s.2.1 (hO F).f.1 (hO F).ki (hO F).gi (hO F).bi T bu bW h)
  (fun F=>fun p gk o6 wd T e=>ZO (hY F) (hZ F) (hO F).f.1 (hO F).f.2.1 (hO F).c.1
   (yW.cons (fh.kP (o5.ws (hY F) (hO F).s.1 (hO F).s.2.1 (hO F).c.1 (hO F).c.2.1) (yW.cons (fh.of zN.cont) yW.nil) yW.nil)
    (yW.cons (fh.kP (du.eqc (hO F) (l:=[34]) rfl) (yW.cons (fh.mC (hY F) (hZ F) (hO F).f.1 (hO F).f.2.1 (hO F).c.1 (yW.cons (fh.kP (du.eqc (hO F) (l:=[34]) rfl) (yW.xk (hO F)) (yW.cons (fh.dJ (hY F) (hZ F) (hO F) hl.2.1) yW.nil)) (yW.add (hO F)))) yW.nil)
     (yW.cons (fh.dJ (hY F) (hZ F) (hO F) hl.2.2.2) (yW.cons (fh.of (zN.aug (hO F).t.1 (av.var (hO F).c.2.2 rfl (hO F).c.1 (wD (hO F).c.2.1) (wP (hO F).c.2.1)) (wP (hO F).t.2.1))) (yW.cons (fh.mC (hY F) (hZ F) (hO F).f.1 (hO F).f.2.1 (hO F).c.1 (yW.cons (fh.kP (o5.ws (hY F) (hO F).s.1 (hO F).s.2.1 (hO F).c.1 (hO F).c.2.1) (yW.xk (hO F)) (yW.cons (fh.dJ (hY F) (hZ F) (hO F) hl.2.2.1) yW.nil)) (yW.add (hO F)))) yW.nil)))) yW.nil))
   p gk o6 wd T e)
  (fun F=>zP.cons (tv₁:=[]) (dv₁:=[]) (zN.ret (dm.pure (av.var (hO F).t.2.2 rfl (hO F).t.1 (wD (hO F).t.2.1) (wP (hO F).t.2.1)))) (zP.nil rfl rfl) rfl rfl rfl rfl) (fun v it=>rfl) bj iW br
end
section
variable{R:bX}{C N₀ fI fR fG fP:Addr}{W:bx}
end
section
variable{prog:Program}{w:Co}{A:Am}{E:Value->Ab->Prop}{s:Ab}{C N fI fR fG fP:Addr}
noncomputable def Mx(st pb:Addr)(t1 t3:Js):Str->Option Value:=fun y=>if y= "pushback" then some (.ref pb)else if y= "whitespace" then some (.str ⟨#[10,9,13,32]⟩ t3)else if y= "instream" then some (.ref st)else if y= "lineno" then some (.int 1 t1)else none
structure su(s:Ab)(L C N fI fR fG fP x dx:Addr)(m mA:Str->Option Value)(h:Ap):Prop where
 I:lJ h C x dx mA
 c:fY h C N fI fR fG fP
 ns:h.Ns L m
 k:∀a o,a≠x->a≠dx->s.heap.get? a=some o->h.get? a=some o
theorem su.step{L x dx:Addr}{m mA RW:Str->Option Value}{h h':Ap}(S:su s L C N fI fR fG fP x dx m mA h)(qB:L≠x)(qC:L≠dx)(mD:x≠N/\dx≠N/\x≠C/\dx≠C)(I':lJ h' C x dx RW)(hk:∀a o,a≠x->a≠dx->h.get? a=some o->h'.get? a=some o):su s L C N fI fR fG fP x dx m RW h':=
 ⟨I',S.c.at' (fun o=>hk C o mD.2.2.1.symm mD.2.2.2.symm) (fun o=>hk N o mD.1.symm mD.2.1.symm),S.ns.at' fun o e=>hk _ o qB qC e,fun a o h1 h2 e=>hk a o h1 h2 (S.k a o h1 h2 e)⟩
theorem DD{env:Dy}{x dx:Addr}{m mA:Str->Option Value}{h:Ap}{tk:Nat}{zs:Str}{p:B0}{ns:List Str}{name:Str}{v:Value}{Q:Unit->Ab->Prop}(S:su s env.locals C N fI fR fG fP x dx m mA h)(sv:env.scope.kind= .function)(kz:env.kindOf zs=some .local)(mz:m zs=some (.ref x))(mE:bad zs=false)
  (qB:env.locals≠x) (qC:env.locals≠dx) (mD:x≠N/\dx≠N/\x≠C/\dx≠C) (iJ:∀mN:Str->Option Value,mN "lineno" =none->mN "instream" =none->mN "whitespace" =none->mN "pushback" =none->mN name=none) (hB:Cq (.type "object") name=pure none) (hw:Within mA ns) (cb:ns.length<=100)
  (hq:∀h' xo,su s env.locals C N fI fR fG fP x dx m (fun y=>if y=name then some v else mA y) h'->(∀a o,a≠x->a≠dx->h.get? a=some o->h'.get? a=some o)->Q () {s with heap:=h',toks:=xo}):
  Al (Af prog w) A (eval (.Name zs p) env) (fun o aa=>Al (Af prog w) A (setAttr o name v) Q E aa) E {s with heap:=h,toks:=tk}:=
 Bq (zS sv (.inl ⟨kz,m,S.ns,mz⟩) (Ry (s:={s with heap:=h,toks:=tk}) S.I S.c iJ hB hw cb fun h' xo I' RX=>hq h' xo (S.step qB qC mD I' RX) RX) (wP mE)) (wD mE)
theorem zRm{x dx st:Addr}{scope:Scope}{params:Arguments}{name qual zs zp:Str}{a1 a2 a3 a4 b1 b2 b3 b4 b5 c1 c2 c3 c4 c5 c6 d1:B0}{k1 k2:Nat}
  (hm:lH s.heap fI name qual params [.Assign [.Attribute (.Name zs a1) "lineno" a2] (.Constant (.int 1) k1 a3) a4, .Assign [.Attribute (.Name zs b1) "instream" b2] (.Name zp b3) b4,
   .Assign [.Attribute (.Name zs b5) "whitespace" c1] (.Constant (.str "\n\t\r ") k2 c2) c3, .Assign [.Attribute (.Name zs c4) "pushback" c5] (.List [] c6) d1] scope)
  (aP:A.depth<recursionLimit) (cA:s.heap.NoLimit) (c:fY s.heap C N fI fR fG fP) (I:lJ s.heap C x dx (fun _=>none))
  (hn:scope.names=[(zs, .local),(zp, .local)]) (cY:(zp==zs)=false) (hk:scope.kind= .function) (ja:scope.isCoroutine=false) (gO:scope.isGenerator=false) (mE:bad zs=false) (uv:bad zp=false)
  (mD:x≠N/\dx≠N/\x≠C/\dx≠C)
  (br:∀pm cd doc u v body,Fc (Ig name qual params body scope pm cd doc .none) ⟨[u,v],[]⟩=pure [(zs,u),(zp,v)])
  {Rr:D6->Ab->Prop}
  (h:∀s' pb t1 t3,s.heap.get? pb=none->yZ s s'->(∀a o,a≠x->a≠dx->s.heap.get? a=some o->s'.heap.get? a=some o)->lJ s'.heap C x dx (Mx st pb t1 t3)->s'.heap.PlainList pb (En ([]:List Value))->Rr (.ok (.ret .none)) s'):
  Ca (Af prog w) A (.call (.ref fI) ⟨[.ref x, .ref st],[]⟩) Rr s:=by
 obtain⟨o,pm,cd,doc,ho,mq,dP,gN⟩:=hm
 have kl:∀y∈([(zs,Hy x),(zp,Hy st)]:List (Str×Value)),scope.names.lookup y.1=some .local:=fun y hy=>by
  simp only[Ay,Aq,or_false]at hy
  rcases hy with rfl|rfl
  ·refine af hn ?_;simp
  ·(refine af hn ?_;refine af A7 ?_;refine af cY ?_);simp
 refine call_methW_ret aP ho dP cA gN (.of_eq (br pm cd doc _ _ _)) kl (fun ah Fm=>?_) ja gO hk (by refine af hn ?_;intro y hy;simp at hy;rcases hy with rfl|rfl<;>simp)
 have up:Sub s.heap ah:=Fm.keep
 generalize bM:envOf qual scope s.heap.objs.size fI cd=env
 have eJ:env.scope=scope:=by refine cw bM ?_;rfl
 have bg:env.locals=s.heap.objs.size:=by refine cw bM ?_;rfl
 have sv:env.scope.kind= .function:=by refine af eJ ?_;exact hk
 have kz:env.kindOf zs=some .local:=by unfold Be;refine af eJ ?_;exact kl (zs, .ref x) (by simp)
 have kp:env.kindOf zp=some .local:=by unfold Be;refine af eJ ?_;exact kl (zp, .ref st) (by simp)
 clear bM
 have hL:s.heap.get? env.locals=none:=by refine af bg ?_;exact yP 0
 obtain⟨m,cb,m1,m2⟩:∃m:Str->Option Value,ah.Ns env.locals m/\m zs=some (.ref x)/\m zp=some (.ref st):=by
  refine GD _ (by refine af bg ?_;exact Fm.ns) ?_ ?_
  ·have:(zs==zp)=false:=by
    cases q:(zs==zp)with
    |false=>rfl
    |true=>
     have:zs=zp:=by exact eq_of_beq q
     rw[this]at cY;simp at cY
   refine(?_:Fs zs [(zp,Hy st),(zs,Hy x)]=_)
   (refine af A7 ?_;refine af this ?_);simp
  ·refine(?_:Fs zp [(zp,Hy st),(zs,Hy x)]=_)
   simp
 have qB:env.locals≠x:=fun q=>I.o.bV.elim fun o e=>nn (hL.symm.trans (q▸e))
 have qC:env.locals≠dx:=fun q=>by obtain⟨o,_,_,e,_⟩:=I.d;exact nn (hL.symm.trans (q▸e))
 have My:su s env.locals C N fI fR fG fP x dx m (fun _=>none) ah:=⟨I.up up,c.keeps up,cb,fun a o _ _ e=>up a o e⟩
 refine Bd (C0 (Fv (DD (s:=s) (ns:=[]) My sv kz m1 mE qB qC mD (fun _ h _ _ _=>h) LR (Ja fun _=>rfl) (by decide) fun ai bU ec aD=>?_)) rfl)
 refine Bd (C0 (Bq (zS sv (.inl ⟨kp,m,ec.ns,m2⟩) (DD (s:=s) (ns:=["lineno"]) ec sv kz m1 mE qB qC mD (fun _ _ h _ _=>h) Rn (G8 _ _ (Ja fun _=>rfl)) (by decide) fun au dw oj RY=>?_) (wP uv)) (wD uv)) rfl)
 refine Bd (C0 (Dt (DD (s:=s) (ns:=["instream", "lineno"]) oj sv kz m1 mE qB qC mD (fun _ _ _ h _=>h) Ro (G8 _ _ (G8 _ _ (Ja fun _=>rfl))) (by decide) fun aW RZ gc R0=>?_)) rfl)
 refine Bd (C0 ?_ rfl)
 refine List_ (B4 (Cb ?_ (by refine(?_:(#[]:Array Value).size<=_);refine af Bo ?_;decide)))
 have sr:=Av (h:=aW) (o:={cls:= .type "list",data:= .seq ([]:List Value).toArray}) rfl
 have xq:Sub aW (aW.push {cls:= .type "list",data:= .seq ([]:List Value).toArray}):=fun a o e=>Ag _ e
 have n4:aW.get? aW.objs.size=none:=yP 0
 generalize aW.push {cls:= .type "list",data:= .seq ([]:List Value).toArray}=Mz at sr xq⊢
 generalize aW.objs.size=pb at sr n4⊢
 have px:pb≠x:=(xU gc.I.o.bV n4).symm
 have pd:pb≠dx:=(xU (by obtain⟨o,_,_,e,_⟩:=gc.I.d;exact⟨o,e⟩) n4).symm
 have MA:su s env.locals C N fI fR fG fP x dx m _ Mz:=⟨gc.I.up xq,gc.c.keeps xq,gc.ns.keeps xq,fun a o h1 h2 e=>xq a o (gc.k a o h1 h2 e)⟩
 refine DD (s:=s) (ns:=["whitespace", "instream", "lineno"]) MA sv kz m1 mE qB qC mD (fun _ _ _ _ h=>h) Rp (G8 _ _ (G8 _ _ (G8 _ _ (Ja fun _=>rfl)))) (by decide) fun eE R1 xt xu=>?_
 have uw:s.heap.get? pb=none:=by
  cases e:s.heap.get? pb with
  |none=>rfl
  |some o=>exact nn (n4.symm.trans (gc.k pb o px pd e))
 exact Ek (h _ pb _ _ uw ⟨eE,_,s.gens,rfl, .rfl' _⟩ xt.k xt.I ⟨_,xu pb _ px pd sr⟩)
end
noncomputable def qD(P:Addr)(ps:Array Value):t9 where
 is _ _ F h:=F=[P]/\h.get? P=some (G4 ps)
 frame:=fun h k=>⟨h.1,k P (by rw[h.1];simp) _ h.2⟩
 bV:=fun h a ha=>by rw[h.1]at ha;rw[Ae.mp ha];exact⟨_,h.2⟩
theorem R2{α:Type}(L:List α):∀n:Nat,(Au n).filterMap (L[·]?)=L.take n
 |0=>by simp
 |n+1=>by(refine af List.range_succ ?_;refine af List.filterMap_append ?_;refine af (R2 L n) ?_;refine af List.take_add_one ?_);cases h:L[n]?<;>simp[h]
theorem zLa(l:List Nat):(Cz none none (-1) l.length).filterMap (l[·]?)=l.reverse:=by
 have h1:Cz none none (-1) l.length=(Au l.length).map fun k=>l.length-1-k:=by
  unfold Cz Gz
  have a1:¬((-1:Int)>0):=by decide
  simp only[if_neg a1]
  have hc:(if((l.length:Int)-1)> -1 then(((l.length:Int)-1)-(-1)-(-1)-1)/(-(-1))else 0).toNat=l.length:=by
   have e:((l.length:Int)-1-(-1)-(-1)-1)/(-(-1))=l.length:=by
    rw[show(-(-1:Int))=1 by decide,Int.ediv_one];lia
   refine af e ?_
   split<;>lia
  refine af hc ?_
  refine Cv fun k hk=>?_
  have:=B7.mp hk
  lia
 refine af h1 ?_
 refine af List.filterMap_map ?_
 have h2:=R2 l.reverse l.length
 rw[show l.reverse.take l.length=l.reverse by rw[<-Dj,Jt]]at h2
 refine cw h2 ?_
 have key:∀ks:List Nat,(∀k∈ks,k<l.length)->ks.filterMap ((fun x=>l[x]?)∘fun k=>l.length-1-k)=ks.filterMap (l.reverse[·]?):=by
  intro ks
  induction ks with
  |nil=>intro _;rfl
  |cons k r ih=>
   intro h
   have hk:=h k (Aj ..)
   rw[Dh,Dh,ih fun a ha=>h a (Ai _ ha)]
   have e:((fun x=>l[x]?)∘fun k=>l.length-1-k) k=l.reverse[k]?:=by
    refine(?_:l[l.length-1-k]?=_)
    rw[List.getElem?_reverse hk]
   exact af e rfl
 exact key _ fun k hk=>B7.mp hk
theorem R3{h:Ap}:∀{cs:List Nat} {vs:List Value},vs.length=cs.length->(∀(j:Nat) v,vs[j]?=some v->∃c u,cs[j]?=some c/\v= .str ⟨#[c]⟩ u)->ao h (dG cs) vs []
 |[],[],_,_=> .nil
 |[],_::_,h,_=>by cases h
 |_::_,[],h,_=>by cases h
 |c::cs,v::vs,hl,hg=>by
  refine dZ (hg 0 v rfl) fun c' u e gJ=>?_
  subst gJ
  obtain rfl:=Aa e
  refine ao.cons (n:=[]) (.str [c] u) (R3 (by simpa using hl) fun j v e=>?_)
  refine dZ (hg (j+1) v (by exact e)) fun c' u' e1 e2=>?_
  exact nV c' u' (by exact e1) e2
section
variable{X:Ctx}{tv dv:List Nat}
noncomputable def sD(i:Nat):dC:=fun g=>match g.σ[i]? with
 |some (some (.str l))=>if l.length<=ag then some (g, .list (dG l.reverse))else none
 |_=>none
theorem zUi{i:Nat}{g g':Sg}{p:PV}(e:sD i g=some (g',p)):∃l,g.σ[i]?=some (some (.str l))/\l.length<=ag/\g=g'/\PV.list (dG l.reverse)=p:=by
 unfold sD at e
 cases h:g.σ[i]? with
 |none=>rw[h]at e;exact nn e
 |some o=>
  rw[h]at e
  cases o with
  |none=>exact nn e
  |some q=>
   cases q with
   |str l=>
    refine oI e fun hl e=>?_
    refine aq (Bh (Aa e)) fun aG aM=>?_
    subst aG
    subst aM
    exact GF l rfl hl rfl rfl
   |_=>exact nn e
theorem dm.listRev{zt:Str}{i k:Nat}{p1 p2 p3 p4 p5 p6 p7:B0}(hz:X.C.Γ.lookup zt=some i)(hb:bad zt=false)(hk:X.C.kn.lookup ("list" :Str)=some .globalImplicit) (hg:X.W.mg "list" =none) (lZ:X.W.mb "list" =some (.type "list")):
  dm X tv dv true (.Call (.Name "list" p1) [.Subscript (.Name zt p2) (.Slice none none (some (.UnaryOp .USub (.Constant (.int 1) k p3) p4)) p5) p6] [] p7) (sD i):=fun K env A E s₀ g N F s g' p T e=>by
 refine j9 (zUi e) fun l hl hsz gJ iv=>?_
 subst gJ
 subst iv
 obtain⟨v,acc,r⟩:=T.rd zt i _ hz hl
 generalize N i=nn at r
 cases r
 rename_i t
 refine Er rfl ?_
 refine A6 T.kind (by unfold Be;refine af T.names ?_;exact hk) (C1 (mg:=X.W.mg) (mb:=X.W.mb) ?_ hg ?_ lZ ?_) (by decide)
 ·refine af T.gl ?_;exact X.W.g T.pre.wd
 ·refine af T.bl ?_;exact X.W.b T.pre.wd
 refine Cn ?_ (zF rfl [] env) rfl
 refine af (zF rfl [] env) ?_
 refine A8 (Ls (Bq (zS T.kind acc ?_ (wP hb)) (wD hb)))
 refine wpAny_Slice ?_
 refine zE (kj.no env A _ s g.σ none T.pre rfl) fun vl s₂ ai=>?_
 refine aq ai fun pl k₂=>?_
 refine zE (kj.no env A _ s₂ g.σ none (T.pre.kp k₂) rfl) fun vh ak au=>?_
 refine aq au fun ph bh=>?_
 refine zE (kj.yes (av.neg av.cInt) env A _ ak g.σ (some (-1)) ((T.pre.kp k₂).kp bh) rfl) fun vk aU aW=>?_
 refine aq aW fun pk cn=>?_
 have kk:KG s aU:=zI (zI k₂ bh) cn
 refine aB (vi pl) fun ql aM hql=>?_
 subst aM
 refine aB (vi ph) fun qh aM hqh=>?_
 subst aM
 refine aB (vi pk) fun qk aM R4=>?_
 subst aM
 refine t6 (Ht _ _ _) PySem.F.slot_str_getitem.lookup ?_ ⟨_,rfl⟩
 refine wpAny_getItem_str_slice (l:=ql) (u:=qh) (st:=qk) ⟨_,Av _ rfl,rfl,rfl⟩ (by refine af R4 ?_;rfl) ?_
 have xw:sliceMade ⟨l.toArray⟩ t ql qh qk= .str ⟨l.reverse.toArray⟩:=by
  unfold sliceMade Kw
  refine af hql ?_
  refine af hqh ?_
  refine af R4 ?_
  refine eV (by simp) ?_
  refine congrArg Made.str (congrArg Str.mk (congrArg En ?_))
  refine(?_:List.filterMap (fun x=>l.toArray[x]?) (Cz none none (-1) (Cf ⟨l.toArray⟩))=_)
  have:Cf ⟨l.toArray⟩=l.length:=by simp[Cf]
  refine af this ?_
  have h2:(fun x:Nat=>l.toArray[x]?)=(l[·]?):=by funext x;simp
  refine af h2 ?_
  exact zLa l
 refine af xw ?_
 have hlen:Cf ⟨l.reverse.toArray⟩=l.length:=by simp[Cf]
 refine bZ (by(refine af hlen ?_;refine af Bo ?_);exact hsz) (B4 ?_)
 generalize hH:aU.heap.push {cls:= .type "slice",data:= .fields #[partValue ql,partValue qh,partValue qk]}=H
 have kH:KG s {aU with heap:=H,toks:=aU.toks+1}:=zI kk (jH _ H _ fun a o e=>hH▸Ag _ e)
 refine call_list_str (s:={aU with heap:=H,toks:=aU.toks+1}) T.room.hh _ _ (fun h' tk lY c' hk hS hit=>?_) (by refine(?_:l.reverse.toArray.size<=_);refine af Bo ?_;unfold ag at hsz;simpa using hsz)
 have k':KG s {aU with heap:=h',toks:=tk}:=zI kH (jH _ h' tk hk)
 have hv:ao h' (dG l.reverse) lY.toList []:=R3 (by have:=hit.1;exact this) fun j v e=>by
  refine dZ (hit.2 j v (by simpa using e)) fun c u e1 e2=>?_
  exact nV c u (by simpa using e1) e2
 have hn:s.heap.get? H.objs.size=none:=wV kH (yP (h:=H) 0)
 exact⟨N,F,[H.objs.size],T.kg k', .list ⟨c',by simpa using hS⟩ hv,T.held ⟨by simp,fun a ha=>by refine af (Ae.mp ha) ?_;exact hn⟩⟩
end
section
variable{X:Ctx}{tv dv:List Nat}{K:Addr->Option Obj}{env:Dy}{A:Am}{s₀ s s':Ab}{g:Sg}{N:Nat->List Addr}{F:List Addr}
theorem ax.js(T:ax X tv dv K env A s₀ g N F s){BK:t9}{β:Option (Value×aj)}(h:∀v b,β=some (v,b)->BK.is v b F s.heap):ax ⟨X.W,BK,X.C⟩ tv dv K env A s₀ {g with β:=β} N F s:=
 {T with book:=h}
noncomputable def odd(o:Obj):Bool:=match o.data with
 | .fields _=>true
 | .func _=>true
 |_=>false
theorem ax.sE(T:ax X tv dv K env A s₀ g N F s){a:Addr}(hK:K a=none)(hF:a∉F)(ho:∃o,s.heap.get? a=some o/\odd o=true)(hs:yZ s s')(hk:∀b o,b≠a->s.heap.get? b=some o->s'.heap.get? b=some o):ax X tv dv K env A s₀ g N F s':=by
 refine aB ho fun oa nF dI=>?_
 have hl:env.locals≠a:=fun q=>by
  refine qY T.loc fun m o es ep e1 e2 _=>?_
  rw[q,nF]at e1;obtain rfl:=Aa e1;unfold odd at dI;rw[e2]at dI;exact ft dI
 have aT:∀c v,s.heap.IsCell c v->c≠a:=fun c v h q=>by
  refine aB h fun o e1 e2=>?_
  rw[q,nF]at e1;obtain rfl:=Aa e1;unfold odd at dI;rw[e2]at dI;exact ft dI
 have hn:∀j b,b∈N j->b≠a:=fun j b hb q=>by
  refine fT (T.nd j b hb) fun items n e=>?_
  rw[q,nF]at e;obtain rfl:=Aa e;exact ft dI
 have up:∀j b,b∈N j->∀o,s.heap.get? b=some o->s'.heap.get? b=some o:=fun j b hb o e=>hk b o (hn j b hb) e
 exact
  {T with
   loc:=by obtain⟨m,h⟩:=T.loc;exact⟨m,h.at' fun o e=>hk _ o hl e⟩
   cls:=fun x c e1 e2=>by
    refine aq (T.cls x c e1 e2) fun bJ h5=>?_
    refine dZ bJ fun u o h3 h4=>?_
    exact bZ ⟨u,o,hk c o (aT c _ ⟨o,h3,h4⟩) h3,h4⟩ h5
   rd:=fun x i p e1 e2=>by
    obtain⟨u,ac,r⟩:=T.rd x i p e1 e2
    refine⟨u,?_,r.on fun b hb o e=>up i b hb o e⟩
    rcases ac with⟨h1,m,h2,h3⟩|⟨h1,c,h2,o,h3,h4⟩
    ·exact .inl ⟨h1,m,h2.at' fun o e=>hk _ o hl e,h3⟩
    ·exact .inr ⟨h1,c,h2,o,hk c o (aT c _ ⟨o,h3,h4⟩) h3,h4⟩
   nd:=fun j b hb=>by obtain⟨items,n,e⟩:=T.nd j b hb;exact⟨items,n,up j b hb _ e⟩
   kept:=fun b o e=>hk b o (fun q=>by rw[q,hK]at e;exact nn e) (T.kept b o e)
   same:=T.same.trans hs
   book:=fun u b e=>X.BK.frame (T.book u b e) fun c hc o e=>hk c o (fun q=>hF (q▸hc)) e
   foot:=fun b hb=>by
    refine dY (T.foot b hb) fun h1 gL h3=>?_
    refine aH gL fun o h2=>?_
    exact⟨h1,⟨o,hk b o (fun q=>hF (q▸hb)) h2⟩,h3⟩}
theorem zG6{pos:B0}{a b:Int}{c:Value}(h:(a==(pos.line:Int)&&b==(pos.col:Int))=false):codeAmong pos [Hl a,Hl b,c]=none:=by
 unfold Hl codeAmong
 refine eV (by rw[h];decide) ?_
 rfl
end
noncomputable def fc:aj:=⟨[],0,[]⟩
noncomputable def pg(P:Addr):t9 where
 is _ _ F h:=F=[P]/\∃o,h.get? P=some o
 frame:=fun h k=>⟨h.1,by obtain⟨o,e⟩:=h.2;exact⟨o,k P (by rw[h.1];simp) _ e⟩⟩
 bV:=fun h a ha=>by rw[h.1]at ha;rw[Ae.mp ha];exact h.2
noncomputable def xx(o:Obj):Nat:=match o.data with
 | .func _=>if o.dict.isSome then 0 else 1
 | .fields _=>2
 | .cell _=>3
 | .seq _ _=>4
 | .dict _ _=>5
 |_=>6
structure DE(W:bx)(P c i6:Addr):Prop where
 code:∀h,W.Wd h->∃o fd,h.get? i6=some o/\o.data= .func fd/\fd.code= .ref c
 hd:∀h,W.Wd h->Mn h c P
 bm:∀h,W.Wd h->h.BuiltinsAt W.mg P
 gP:mainGlobals≠P
 lim:∀h,W.Wd h->h.NoLimit
inductive DH(R:bX)(C P:Addr)(text:List Nat)(s:Ab)(res:D6)(s':Ab):Prop
 |mk (v:Value) (F:List Addr) (ps:Array Value) (e:res= .ok (.ret v)) (sm:yZ s s') (k:∀a o,a≠P->s.heap.get? a=some o->s'.heap.get? a=some o) (hP:s'.heap.get? P=some (G4 ps)) (l:iI R C v ⟨text,1,[]⟩ F s'.heap) (n:∀a∈F,s.heap.get? a=none):DH R C P text s res s'
noncomputable def sF(W:bx)(R:bX)(C:Addr)(D:Nat)(f P:Addr):Prop:=∀(A:Am) (s:Ab) (u:Value) (text:List Nat),wO D A->VR s.heap (.str text) u []->s.heap.get? P=some (G4 #[])->text.length<=ag->
 (∀h:Ap,(∀a o,a∉ [P]->s.heap.get? a=some o->h.get? a=some o)->W.Wd h)->
 Ca (Af W.prog W.w) A (.call (.ref f) ⟨[u],[]⟩) (DH R C P text s) s
inductive R5(s:Ab)(P:Addr)(tr:Array Value)(pos:B0)(ob:Addr->Value->Obj)(qual:Str)(f:Addr)(s':Ab):Prop
 |mk (c':Addr) (fX:Value) (sm:yZ s s') (k:∀a o,a≠P->s.heap.get? a=some o->s'.heap.get? a=some o) (ho:s'.heap.get? f=some (ob c' fX)) (hP:s'.heap.get? P=some (G4 (tr++ #[Hl pos.line,Hl pos.col, .ref c']))) (rc:s'.heap.CodeRec (.ref c') qual)
  (nf:s.heap.get? f=none) (nc:s.heap.get? c'=none):R5 s P tr pos ob qual f s'
theorem R6{h:Ap}{a:Addr}(q:h.objs.size<=a):h.get? a=none:=by
 cases e:h.get? a with
 |none=>rfl
 |some o=>exact absurd (Bm e) (Ew.mpr q)
section
variable{R:bX}{C N₀ fI fR fG fP fM P c:Addr}{W:bx}{Cc:Cx}{tv dv:List Nat}{K:Addr->Option Obj}{env:Dy}{A:Am}{E:Value->Ab->Prop}{s₀ s s':Ab}{σ:List (Option PV)}{N:Nat->List Addr}
theorem R7{params:Arguments}{body:Expr}{scope:Scope}{pos:B0}{tr:Array Value}{cl:List (Str×Addr)}{Q:Value->Ab->Prop}(T:ax ⟨W,pg P,Cc⟩ tv dv K env A s₀ ⟨σ,some (.none,fc)⟩ N [P] s)(hM:DE W P c fM)(gN:env.code= .ref c)(hP:s.heap.get? P=some (G4 tr))(ht:TriplesOk tr.toList)(ux:codeAmong pos tr.toList=none)
  (hd:Ke params env=([],[])) (hc:Lx scope env=pure cl)
  (h:∀f s',R5 s P tr pos (fun c' fX=>kla_obj "<lambda>" (env.qual++ "<lambda>") params body scope cl ((W.mg "__name__").getD .none) c' fX) (env.qual++ "<lambda>") f s'->ax ⟨W,pg P,Cc⟩ tv dv K env A s₀ ⟨σ,some (.none,fc)⟩ N [P] s'->Q (.ref f) s'):
  Al (Af W.prog W.w) A (eval (.Lambda params body scope pos) env) Q E s:=by
 have wd:=T.pre.wd
 refine kla_eval hd (kla_makeFunction hc T.gl (W.g wd) gN (hM.hd _ wd) hP ht ux hM.gP (hM.bm _ wd) fun c' fX h' tk hx xy aX MB x3=>?_)
 have up:Sub h' (h'.push (kla_obj "<lambda>" (env.qual++ "<lambda>") params body scope cl ((W.mg "__name__").getD .none) c' fX)):=fun a o e=>Ag _ e
 have ho:=Av (h:=h') (o:=kla_obj "<lambda>" (env.qual++ "<lambda>") params body scope cl ((W.mg "__name__").getD .none) c' fX) rfl
 generalize h'.push (kla_obj "<lambda>" (env.qual++ "<lambda>") params body scope cl ((W.mg "__name__").getD .none) c' fX)=H at up ho⊢
 have sm:=(yZ.refl s).heap H tk
 have kk:∀a o,a≠P->s.heap.get? a=some o->H.get? a=some o:=fun a o h e=>up a o (hx a o h e)
 exact h _ _ ⟨c',fX,sm,kk,ho,up _ _ x3,MB.keeps up,R6 (Ad xy (Cj aX)),R6 xy⟩ (ax.uk T sm (fun a o h e=>kk a o (fun q=>h (q▸ .head _)) e) (v:= .none) (b':=fc) ⟨rfl,_,up _ _ x3⟩)
inductive jQ(h:Ap):List Addr->List Nat->Prop
 |nil:jQ h [] []
 |cons {a:Addr} {t:Nat} {l:List Addr} {ts:List Nat} (e:∃o,h.get? a=some o/\xx o=t) (r:jQ h l ts):jQ h (a::l) (t::ts)
theorem jQ.app{h:Ap}{l k:List Addr}{ts us:List Nat}(x:jQ h l ts)(y:jQ h k us):jQ h (l++k) (ts++us):=by
 induction x with
 |nil=>exact y
 |cons e _ ih=>exact .cons e ih
theorem jQ.mem{h:Ap}{l:List Addr}{ts:List Nat}(x:jQ h l ts):∀a∈l,∃o,h.get? a=some o/\xx o∈ts:=by
 induction x with
 |nil=>exact dO
 |cons e r ih=>exact fa (e.elim fun o q=>⟨o,q.1,q.2▸ .head _⟩) fun b hb=>(ih b hb).elim fun o q=>⟨o,q.1, .tail _ q.2⟩
theorem jQ.nodup{h:Ap}{l:List Addr}{ts:List Nat}(x:jQ h l ts)(n:ts.Nodup):l.Nodup:=by
 induction x with
 |nil=>exact Eu
 |cons e r ih=>
  have n:=Cs.mp n
  refine Cs.mpr ⟨fun hm=>?_,ih n.2⟩
  refine aB (r.mem _ hm) fun o e1 e2=>?_
  refine aB e fun o' e3 e4=>?_
  obtain rfl:=Aa (e1.symm.trans e3)
  exact n.1 (e4▸e2)
structure R8(R:bX)(h:Ap)(f ds lam cc cell sg:Addr)(text:List Nat):Prop where
 MC:oY h f ds
 x4:nI h ds lam
 sH:mn R h lam cc cell
 x5:h.IsCell cell (some (.ref sg))
 ysg:kL h sg text
 tags:jQ h [f,ds,lam,cc,cell,sg] [0,5,1,2,3,4]
theorem zU1{h6 h7 h8:Ap}{x dx f ds lam cc cell sg pb:Addr}{t1 t3:Js}{text:List Nat}(Y:R8 R h6 f ds lam cc cell sg text)(pw:Sub h6 h7)(keep:Sub h6 h8)(nx:h6.get? x=none)(nd:h6.get? dx=none)(I7:lJ h7 C x dx fun _=>none)(I8:lJ h8 C x dx (Mx f pb t1 t3))(uw:h7.get? pb=none)(nJ:h8.PlainList pb (En ([]:List Value)))(hsz:text.length<=ag):
  wA R C h8 ⟨text,1,[]⟩ x dx f ds lam cc cell sg pb:=by
 have MD:∀a∈[x,dx,f,ds,lam,cc,cell,sg],∃o,h7.get? a=some o:=fa I7.o.bV (fa (by obtain⟨o,_,_,e,_⟩:=I7.d;exact⟨o,e⟩) fun a ha=>(Y.tags.mem a ha).elim fun o e=>⟨o,pw _ _ e.1⟩)
 have n6:∀a∈[f,ds,lam,cc,cell,sg],∀b,h6.get? b=none->b≠a:=fun a ha b hb q=>(Y.tags.mem a ha).elim fun o e=>nn (hb.symm.trans (q▸e.1))
 refine⟨I8.o,⟨_,I8.d,⟨t1,by(refine eV (by decide) ?_;refine eV (by decide) ?_;refine eV (by decide) ?_;exact xT rfl rfl)⟩,by(refine eV (by decide) ?_;refine eV (by decide) ?_;exact xT rfl rfl),⟨t3,by(refine eV (by decide) ?_;exact xT rfl rfl)⟩,if_pos rfl,fun n hn=>?_⟩,Y.MC.up (keep _),Y.x4.up (keep _),Y.sH.up (keep _) (keep _),IsCell.up Y.x5 (keep _),Y.ysg.at' (keep _),⟨[],nJ, .nil⟩,?_,hsz⟩
 ·unfold Mx
  have ne:∀z∈(["lineno", "instream", "whitespace", "pushback"]:List Str),n≠z:=fun z hz q=>hn (q▸hz)
  (refine eV (ne _ (by decide)) ?_;refine eV (ne _ (by decide)) ?_;refine eV (ne _ (by decide)) ?_;exact eV (ne _ (by decide)) rfl)
 ·have m:=Y.tags.nodup (by decide)
  refine Hf (l₁:=[x,dx,f,ds,lam,cc,cell,sg]) (l₂:=[pb])|>.mpr ⟨Cs.mpr ⟨fun h=>(Ay.mp h).elim (fun q=>I7.ne q.symm) fun h=>n6 x h x nx rfl,Cs.mpr ⟨fun h=>n6 dx h dx nd rfl,m⟩⟩,Cs.mpr ⟨Aq,Eu⟩,fun a ha b hb=>?_⟩
  exact Ae.mp hb▸xU (MD a ha) uw
end
section
variable{R:bX}{C N₀ fI fR fG fP fM P c:Addr}{W:bx}{Cc:Cx}{tv:List Nat}{env:Dy}{A:Am}{E:Value->Ab->Prop}{s s₆:Ab}{N:Nat->List Addr}{text:List Nat}{f:Addr}{p0:Option PV}
theorem ME{a:Addr}(T:ax ⟨W,pg P,Cc⟩ tv [] (fE s.heap [P]) env A s ⟨[p0,some (.obj (.ref f)),some (.list (dG text.reverse))],some (.none,fc)⟩ N [P] s₆)(h:s₆.heap.get? a=none)(hP:a≠P):s.heap.get? a=none:=by
 cases e:s.heap.get? a with
 |none=>rfl
 |some o=>exact nn (h.symm.trans (T.kept a o (jN (fun q=>hP (Ae.mp q)) e)))
theorem R9{a:Addr}(h:fE s.heap [P] a=none)(hP:a≠P):s.heap.get? a=none:=by
 unfold fE at h
 rwa[if_neg fun q=>hP (Ae.mp q)]at h
set_option maxHeartbeats 1000000 in
theorem zZv{scopeI:Scope}{paramsI:Arguments}{nameI iK zs zp zst:Str}{d1 d2 d3 d4 e1 e2 e3 e4 e5 f1 f2 f3 f4 f5 f6 g1 c1 c2 c3:B0}{j1 j2:Nat}{ds lam cc cell:Addr}{ps:Array Value}{Q:Value->Ab->Prop}
  (mq:∀h,W.Wd h->fY h C N₀ fI fR fG fP) (cA:∀h,W.Wd h->h.NoLimit)
  (MF:∀h,W.Wd h->lH h fI nameI iK paramsI [.Assign [.Attribute (.Name zs d1) "lineno" d2] (.Constant (.int 1) j1 d3) d4, .Assign [.Attribute (.Name zs e1) "instream" e2] (.Name zp e3) e4,
   .Assign [.Attribute (.Name zs e5) "whitespace" f1] (.Constant (.str "\n\t\r ") j2 f2) f3, .Assign [.Attribute (.Name zs f4) "pushback" f5] (.List [] f6) g1] scopeI)
  (MG:scopeI.names=[(zs, .local),(zp, .local)]) (sI:(zp==zs)=false) (MH:scopeI.kind= .function) (sJ:scopeI.isCoroutine=false) (mF:scopeI.isGenerator=false) (mE:bad zs=false) (uv:bad zp=false)
  (jt:∀pm cd doc u v body,Fc (Ig nameI iK paramsI body scopeI pm cd doc .none) ⟨[u,v],[]⟩=pure [(zs,u),(zp,v)])
  (T:ax ⟨W,pg P,Cc⟩ tv [] (fE s.heap [P]) env A s ⟨[p0,some (.obj (.ref f)),some (.list (dG text.reverse))],some (.none,fc)⟩ N [P] s₆) (h2:2∈tv) (fU:Cc.Γ.lookup zst=some 1) (iX:Cc.Γ.lookup R.sg=some 2) (ju:Cc.kn.lookup R.sg=some .cell) (xf:Cc.kn.lookup ("_netrclex" :Str)=some .globalImplicit)
  (mh:W.mg "_netrclex" =some (.ref C)) (iL:bad zst=false) (oT:A.depth+1<recursionLimit) (hsz:text.length<=ag) (hP:s₆.heap.get? P=some (G4 ps)) (dh:env.cells.lookup R.sg=some cell)
  (MC:oY s₆.heap f ds) (x4:nI s₆.heap ds lam) (sH:mn R s₆.heap lam cc cell) (x6:jQ s₆.heap [f,ds,lam,cc] [0,5,1,2]) (fresh:∀a∈[f,ds,lam,cc],s.heap.get? a=none)
  (hQ:∀v s',DH R C P text s (.ok (.ret v)) s'->Q v s'):Al (Af W.prog W.w) A (eval (.Call (.Name "_netrclex" c1) [.Name zst c2] [] c3) env) Q E s₆:=by
 have wd:=T.pre.wd
 obtain⟨vst,ast,MI⟩:=T.rd zst 1 (.obj (.ref f)) fU rfl
 refine aq MI.inv fun aG _=>?_
 subst aG
 obtain⟨vsg,asg,rsg⟩:=T.rd R.sg 2 (.list (dG text.reverse)) iX rfl
 refine i5 rsg.inv fun sg us ns cj bf l6 hN=>?_
 subst l6
 obtain rfl:=bf.aC (LB _)
 have aT:s₆.heap.IsCell cell (some (.ref sg)):=by
  rcases asg with⟨h1,_⟩|⟨_,c0,h2,h3⟩
  ·rw[show env.kindOf R.sg=some .cell by unfold Be;rw[T.names];exact ju]at h1;cases h1
  ·exact Aa (h2.symm.trans dh)▸h3
 have Y:R8 R s₆.heap f ds lam cc cell sg text:=⟨MC,x4,sH,aT,⟨us,cj,bf⟩,by
  refine aB aT fun o e1 e2=>?_
  refine aH cj fun n e3=>?_
  exact x6.app (.cons ⟨o,e1,by unfold xx;exact af e2 rfl⟩ (.cons ⟨_,e3,rfl⟩ .nil))⟩
 have MJ:sg≠P:=fun q=>(T.foot P (.head _)).2.2.1 2 (hN▸q▸ .head _)
 have sL:cell≠P:=fun q=>(T.foot P (.head _)).2.2.2.2 _ _ dh q.symm
 have fr6:∀a∈[f,ds,lam,cc,cell,sg],s.heap.get? a=none:=fa (fresh _ (.head _)) (fa (fresh _ (.tail _ (.head _))) (fa (fresh _ (.tail _ (.tail _ (.head _)))) (fa (fresh _ (.tail _ (.tail _ (.tail _ (.head _))))) (fa (R9 (T.cls _ _ ju dh).2 sL) (fa (R9 (T.bL 2 h2 sg [] hN).1 MJ) dO)))))
 refine Er rfl ?_
 refine A6 T.kind (by unfold Be;refine af T.names ?_;exact xf) (Dk (mg:=W.mg) (T.gl▸W.g wd) mh ?_) (by decide)
 have c6:fY s₆.heap C N₀ fI fR fG fP:=mq _ wd
 obtain⟨⟨nm,q,bs,sn,sub,col,dd,k0,k1,k2,k3,k5',hC⟩,mN,vO,hI,_⟩:=id c6
 refine callWith_cls (h₀:=s₆.heap) (N:=N₀) (mN:=mN) ⟨⟨nm,q,bs,sn,sub,col,dd,k0,k1,k2,k3,k5',hC⟩,vO⟩ ?_ (zF rfl [] env) rfl
 refine af (zF rfl [] env) ?_
 refine A8 (Bq (zS T.kind ast (B4 ⟨fun _ _ e=>e,?_⟩) (wP iL)) (wD iL))
 obtain⟨oI,pmI,cdI,MK,Sa,Sb,hdI,ML⟩:=MF _ wd
 refine wpAny_call_obj_init PySem.F.objNew hC vO hI Sa Sb fun h7 x dx Mk=>?_
 have pw:Sub s₆.heap h7:=Mk.keeps
 have nx:s₆.heap.get? x=none:=Mk.newX
 have nd:s₆.heap.get? dx=none:=Mk.newD
 have I7:lJ h7 C x dx (fun _=>none):=by
  refine j9 Mk.inst fun o e1 e2 e3 e4=>?_
  have hd:=Mk.dict o e1
  rcases e4 with⟨hn,_⟩|⟨d',mr,cY,cb⟩
  ·exact nn (hn.symm.trans hd)
  ·obtain rfl:=Aa (hd.symm.trans mr)
   exact⟨⟨o,e1,e2,e3,hd⟩,cb,cY⟩
 have Sd:∃o,s₆.heap.get? C=some o:=⟨_,hC⟩
 have Se:∃o,s₆.heap.get? N₀=some o:=by obtain⟨o,_,_,e,_⟩:=vO;exact⟨o,e⟩
 have off:∀a,(∃o,s₆.heap.get? a=some o)->a≠x/\a≠dx:=fun a h=>⟨xU h nx,xU h nd⟩
 refine Gd (zRm (fI:=fI) (x:=x) (dx:=dx) (st:=f) (C:=C) (N:=N₀) (fR:=fR) (fG:=fG) (fP:=fP) ⟨oI,pmI,cdI,MK,pw _ _ Sa,Sb,hdI,ML.keeps pw⟩ oT ((cA _ wd).keeps pw) (c6.keeps pw) I7 MG sI MH sJ mF mE uv ⟨(off _ Se).1.symm,(off _ Se).2.symm,(off _ Sd).1.symm,(off _ Sd).2.symm⟩ jt fun s8 pb t1 t3 uw hs8 hk8 I8 MN=>?_)
 have keep:Sub s₆.heap s8.heap:=fun a o e=>hk8 a o (off a ⟨o,e⟩).1 (off a ⟨o,e⟩).2 (pw a o e)
 have x7:s₆.heap.get? pb=none:=by
  cases e:s₆.heap.get? pb with
  |none=>rfl
  |some o=>exact nn ((show h7.get? pb=none from uw).symm.trans (pw _ _ e))
 have MO:∃o,s₆.heap.get? P=some o:=⟨_,hP⟩
 exact⟨rfl,hQ _ _ ⟨.ref x,[x,dx,f,ds,lam,cc,cell,sg,pb],ps,rfl,(T.same.trans ((yZ.refl _).heap h7 _)).trans hs8,fun a o h e=>keep a o (T.kept a o (jN (fun q=>h (Ae.mp q)) e)),keep _ _ hP,⟨x,dx,f,ds,lam,cc,cell,sg,pb,rfl,rfl,zU1 Y pw keep nx nd I7 I8 uw MN hsz⟩,
  fa (ME T nx (off _ MO).1.symm) (fa (ME T nd (off _ MO).2.symm) (fap (l:=[f,ds,lam,cc,cell,sg]) fr6 (fa (ME T x7 (xU MO x7).symm) dO)))⟩⟩
end
theorem zXp{text:List Nat}{β:Option (Value×aj)}(hsz:text.length<=ag):yX 2 (sD 0) ⟨[some (.str text),none,none],β⟩=some (⟨[some (.str text),none,some (.list (dG text.reverse))],β⟩, .next):=by
 refine(?_:(sD 0 _).bind _=_)
 unfold sD
 refine af (show([some (PV.str text),none,none]:List (Option PV))[0]?=some (some (.str text))from rfl) ?_
 dsimp only
 refine af (if_pos hsz) ?_
 rfl
section
variable{R:bX}{C N₀ fI fR fG fP fM P c:Addr}{W:bx}
set_option maxHeartbeats 1000000 in
theorem yA7{scope ay:Scope}{params ei:Arguments}{name zt zst:Str}{x8:Expr}{b1 b3 b4 b5 b6 b7 b8 c4:B0}{s1:Stmt}{e4:Expr}
  (hM:DE W P c fM)
  (dI:∀h,W.Wd h->lE h fM name params [s1, .Assign [.Name zst b1] (.Lambda ei x8 ay b3) b4, .Assign [.Attribute (.Name zst b5) "read" b6] (.Lambda R.params R.body R.ay b7) b8, .Return (some e4) c4] scope)
  (h1:zN ⟨W,qD P #[],xY scope [zt]⟩ [2] [] s1 (yX 2 (sD 0)))
  (bj:ji scope [zt]=true) (fU:(xY scope [zt]).Γ.lookup zst=some 1) (iX:(xY scope [zt]).Γ.lookup R.sg=some 2) (hn:(xY scope [zt]).n=3)
  (iL:bad zst=false) (ju:(xY scope [zt]).kn.lookup R.sg=some .cell)
  (rJ:ay.names=[]) (MP:∀env,Ke ei env=([],[])) (MQ:∀env,Ke R.params env=([],[])) (MR:R.ay.names=[(R.sz, .local),(R.sg, .free)]) (jv:(((b3.line:Int))==(b7.line:Int)&&((b3.col:Int))==(b7.col:Int))=false)
  (br:∀pm cd doc u body,Fc (F0 name params body scope pm cd doc) ⟨[u],[]⟩=pure [(zt,u)])
  (h4:∀{s s₆:Ab} {env:Dy} {A:Am} {E:Value->Ab->Prop} {N:Nat->List Addr} {text:List Nat} {f ds lam cc cell:Addr} {p0:Option PV} {ps:Array Value} {Q:Value->Ab->Prop},ax ⟨W,pg P,xY scope [zt]⟩ [2] [] (fE s.heap [P]) env A s ⟨[p0,some (.obj (.ref f)),some (.list (dG text.reverse))],some (.none,fc)⟩ N [P] s₆->text.length<=ag->s₆.heap.get? P=some (G4 ps)->env.cells.lookup R.sg=some cell->
   oY s₆.heap f ds->nI s₆.heap ds lam->mn R s₆.heap lam cc cell->jQ s₆.heap [f,ds,lam,cc] [0,5,1,2]->(∀a∈[f,ds,lam,cc],s.heap.get? a=none)->(∀v s',DH R C P text s (.ok (.ret v)) s'->Q v s')->Al (Af W.prog W.w) A (eval e4 env) Q E s₆):sF W R C (W.D+1) fM P:=by
 intro A s u text aP hu hP hsz eS
 have jO:W.Wd s.heap:=eS _ fun a o _ e=>e
 refine LO (X:=⟨W,qD P #[],xY scope [zt]⟩) (tv:=[2]) (dv:=[]) (xs:=[zt]) (ps:=[.str text]) (vs:=[u]) (ns:=[]) (β:=some (.none,fc)) (K:=fE s.heap [P]) (F:=[P]) rfl bj (dI _ jO) (hM.lim _ jO) aP (fun a o e=>(xd e).2) (fun h k=>eS h fun a o h1 h2=>k a o (jN h1 h2))
  (fun v b e=>⟨rfl,hP⟩) (fun a ha=>⟨by exact xT ha rfl,by refine af (Ae.mp ha) ?_;exact⟨_,hP⟩,(fun h=>(Aq h).elim)⟩) (fun pm cd doc=>br pm cd doc u _) (ao.one hu) rfl (by intro i hi;simp at hi;subst hi;exact Cj (D7 Nat.one_lt_two (Bv _))) fun env cd aa N mG hq gu _ T=>?_
 have gN:env.code= .ref c:=by
  refine da gu fun o fd e1 e2 e3=>?_
  refine da (hM.code _ jO) fun o' r4 e4 e5 e6=>?_
  obtain rfl:=Aa (e1.symm.trans e4)
  obtain rfl:=Data.func.inj (e2.symm.trans e5)
  refine af mG ?_
  refine cw e3 ?_
  exact af e6 rfl
 rw[show eI (xY scope [zt]) [.str text] (some (.none,fc))=⟨[some (.str text),none,none],some (.none,fc)⟩by unfold eI;rw[hn];rfl]at T
 refine Bd (zE (h1 _ env _ _ _ _ _ [P] _ ⟨[some (.str text),none,some (.list (dG text.reverse))],some (.none,fc)⟩ .next T (zXp hsz)) fun fw s₂ ai=>?_)
 obtain⟨hf,rQ,oR,aw⟩:=ai
 obtain rfl:fw= .next:=hf
 refine aq (aw.book _ _ rfl) fun aG jR=>?_
 subst aG
 have aw:=aw.js (BK:=pg P) (β:=some (.none,fc)) fun v b e=>⟨rfl,_,jR⟩
 refine Bd (Hk (R7 aw hM gN jR trivial rfl (MP env) (cl:=[]) (by unfold Lx;refine af rJ ?_;rfl) fun f ak I aN=>?_) rfl)
 refine zE (aN.eH fU (.obj (.ref f)) (ew.nil (own:=true)) (.inl rfl)) fun _ aU aW=>?_
 refine dY aW fun bS Sf cn=>?_
 obtain⟨c',fX,sm,kk,ho,x9,_,nf,nc⟩:=I
 have ya:∃o,s₂.heap.get? env.locals=some o:=by obtain⟨_,o,_,_,e,_⟩:=aw.loc;exact⟨o,e⟩
 have yb:∀y d,(xY scope [zt]).kn.lookup y=some .cell->env.cells.lookup y=some d->∃o,s₂.heap.get? d=some o:=fun y d e1 e2=>by obtain⟨⟨v,o,e,_⟩,_⟩:=aw.cls y d e1 e2;exact⟨o,e⟩
 have qE:=cn f _ (xU ya nf).symm (fun y d e1 e2=>(xU (yb y d e1 e2) nf).symm) ho
 have fP:=(aN.foot P (.head _)).2.2.2
 have mH:aU.heap.get? P=_:=cn P _ fP.1 (fun y d _ e2=>fP.2 y d e2) x9
 refine aH (bS.eP R.sg _ ju (.inl rfl)) fun cell dh=>?_
 refine Bd (C0 (R7 bS hM gN mH (by exact trivial) (zG6 jv) (MQ env) (cl:=[(R.sg,cell)]) (by unfold Lx;refine af MR ?_;simp only[Gx,List.forIn_nil,cellOf,dh];rfl) fun lam cN J dE=>?_) rfl)
 obtain⟨c5,aaa,sm5,kk5,ho5,qF,rc5,Sh,Si⟩:=J
 obtain⟨vst,ast,MI⟩:=dE.rd zst 1 (.obj (.ref f)) fU rfl
 refine aq MI.inv fun aG _=>?_
 subst aG
 refine Bq (zS dE.kind ast ?_ (wP iL)) (wD iL)
 have MS:f≠P:=(xU ⟨_,jR⟩ nf).symm
 have qG:=kk5 f _ MS qE
 refine Yy (s:=cN) qG rfl rfl rfl Rt fun h6 MT DI MU MV=>?_
 have Sj:cN.heap.get? cN.heap.objs.size=none:=yP 0
 generalize cN.heap.objs.size=ds at MU MV Sj
 have fr:∀{a:Addr} {σ:List (Option PV)} {N:Nat->List Addr} {s':Ab},ax ⟨W,pg P,xY scope [zt]⟩ [2] [] (fE s.heap [P]) env (A.deeper env) s ⟨σ,some (.none,fc)⟩ N [P] s'->(∃ps,s'.heap.get? P=some (G4 ps))->s'.heap.get? a=none->s.heap.get? a=none:=fun {a _ _ s'} T' mI h=>by
  cases e:s.heap.get? a with
  |none=>rfl
  |some o=>exact nn (h.symm.trans (T'.kept a o (jN (fun q=>mI.elim fun _ e=>nn (h.symm.trans (Ae.mp q▸e))) e)))
 have hKf:fE s.heap [P] f=none:=by
  cases q:fE s.heap [P] f with
  |none=>rfl
  |some o=>exact nn (nf.symm.trans (aw.kept f o q))
 have dU:=dE.sE (s':={cN with heap:=h6,toks:=MT}) hKf (fun h=>MS (Ae.mp h)) ⟨_,qG,rfl⟩ ((yZ.refl _).heap h6 MT) DI
 have Sk:∃o,aU.heap.get? f=some o:=⟨_,qE⟩
 refine tM rc5 fun cc' occ vcc tcc HR MW yc MX=>?_
 obtain rfl:=Gu HR
 have qH:=DI lam _ (xU Sk Sh).symm ho5
 have yd:=DI c5 _ (xU Sk Si).symm MW
 have x4:nI h6 ds lam:=⟨_,MV.ns,by simp⟩
 refine nT MV fun ods esd epd MY MZ _=>?_
 refine Bd (Ga (h4 (s₆:={cN with heap:=h6,toks:=MT}) dU hsz (DI P _ MS.symm qF) dh ⟨_,_,MU,rfl,rfl,rfl⟩ x4 ⟨_,_,_,_,_,qH,rfl,c5,occ,vcc,tcc,rfl,yd,yc,MX⟩
  (.cons ⟨_,MU,rfl⟩ (.cons ⟨_,MY,by unfold xx;exact af MZ rfl⟩ (.cons ⟨_,qH,rfl⟩ (.cons ⟨_,yd,by unfold xx;exact af yc rfl⟩ .nil))))
  (fa (fr aw ⟨_,jR⟩ nf) (fa (fr dE ⟨_,qF⟩ Sj) (fa (fr bS ⟨_,mH⟩ Sh) (fa (fr bS ⟨_,mH⟩ Si) dO)))) fun v s' h=>h))
end
section
variable{R:bX}{C N₀ fI fR fG fP fM P c:Addr}{W:bx}
set_option maxHeartbeats 1000000 in
theorem yCw{scope ay:Scope}{params ei:Arguments}{name zt zst:Str}{k1 k2:Nat}{a1 a2 a3 a4 a5 a6 a7 a8 a9 b1 b2 b3 b4 b5 b6 b7 b8 c1 c2 c3 c4:B0}
  {scopeI:Scope} {paramsI:Arguments} {nameI iK zs zp:Str} {d1 d2 d3 d4 e1 e2 e3 e4 e5 f1 f2 f3 f4 f5 f6 g1:B0} {j1 j2:Nat}
  (mq:∀h,W.Wd h->fY h C N₀ fI fR fG fP) (hM:DE W P c fM)
  (dI:∀h,W.Wd h->lE h fM name params [.Assign [.Name R.sg a1] (.Call (.Name "list" a2) [.Subscript (.Name zt a3) (.Slice none none (some (.UnaryOp .USub (.Constant (.int 1) k1 a4) a5)) a6) a7] [] a8) a9,
   .Assign [.Name zst b1] (.Lambda ei (.Constant .none k2 b2) ay b3) b4, .Assign [.Attribute (.Name zst b5) "read" b6] (.Lambda R.params R.body R.ay b7) b8,
   .Return (some (.Call (.Name "_netrclex" c1) [.Name zst c2] [] c3)) c4] scope)
  (MF:∀h,W.Wd h->lH h fI nameI iK paramsI [.Assign [.Attribute (.Name zs d1) "lineno" d2] (.Constant (.int 1) j1 d3) d4, .Assign [.Attribute (.Name zs e1) "instream" e2] (.Name zp e3) e4,
   .Assign [.Attribute (.Name zs e5) "whitespace" f1] (.Constant (.str "\n\t\r ") j2 f2) f3, .Assign [.Attribute (.Name zs f4) "pushback" f5] (.List [] f6) g1] scopeI)
  (MG:scopeI.names=[(zs, .local),(zp, .local)]) (sI:(zp==zs)=false) (MH:scopeI.kind= .function) (sJ:scopeI.isCoroutine=false) (mF:scopeI.isGenerator=false) (mE:bad zs=false) (uv:bad zp=false)
  (jt:∀pm cd doc u v body,Fc (Ig nameI iK paramsI body scopeI pm cd doc .none) ⟨[u,v],[]⟩=pure [(zs,u),(zp,v)])
  (bj:ji scope [zt]=true) (ht:(xY scope [zt]).Γ.lookup zt=some 0) (fU:(xY scope [zt]).Γ.lookup zst=some 1) (iX:(xY scope [zt]).Γ.lookup R.sg=some 2) (hn:(xY scope [zt]).n=3)
  (hbt:bad zt=false) (iL:bad zst=false) (aab:(xY scope [zt]).kn.lookup zst=some .local) (ju:(xY scope [zt]).kn.lookup R.sg=some .cell) (pY:(xY scope [zt]).kn.lookup ("list" :Str)=some .globalImplicit) (xf:(xY scope [zt]).kn.lookup ("_netrclex" :Str)=some .globalImplicit)
  (rf:W.mg "list" =none) (lZ:W.mb "list" =some (.type "list")) (mh:W.mg "_netrclex" =some (.ref C))
  (rJ:ay.names=[]) (MP:∀env,Ke ei env=([],[])) (MQ:∀env,Ke R.params env=([],[])) (MR:R.ay.names=[(R.sz, .local),(R.sg, .free)]) (jv:(((b3.line:Int))==(b7.line:Int)&&((b3.col:Int))==(b7.col:Int))=false)
  (hD:2<=W.D) (br:∀pm cd doc u body,Fc (F0 name params body scope pm cd doc) ⟨[u],[]⟩=pure [(zt,u)]):sF W R C (W.D+1) fM P:=by
 exact yA7 hM dI (zN.assign iX (.inl rfl) (dm.listRev ht hbt pY rf lZ) (fun env hnm=>rfl)) bj fU iX hn iL ju rJ MP MQ MR jv br
  fun {s s₆ env A E N text f ds lam cc cell p0 ps Q} T hsz hP dh y1 y2 y3 y4 y5 hQ=>zZv mq hM.lim MF MG sI MH sJ mF mE uv jt T (.head _) fU iX ju xf mh iL (by
   have:=T.room.depth
   have h2:W.D=(⟨W,pg P,xY scope [zt]⟩:Ctx).W.D:=rfl
   lia) hsz hP dh y1 y2 y3 y4 y5 hQ
end
end Internal
namespace Internal
open PySem PySem.Sre
noncomputable def eB:Array Nat:= #[14,4,0,1,1,6,1,16,46,1]
noncomputable def cC:Array Nat:= #[14,9,4,1,2,16,10,16,13,0,7,7,16,13,16,10,15,18,5,16,10,15,13,11,16,13,5,5,0,16,10,1,15,2,0,1]
noncomputable def mk(cd t:Array Nat)(lim start ls pc pos handed:Nat)(om:Bool)(fr:List I0)(w:Nat)(ans:Option Bool)(seen:Seen):M:=
 {code:=cd,text:=t,lim,start,lastStart:=ls,pc,pos,handed,outermost:=om,marks:= #[],frames:=fr,weight:=w,answer:=ans,seen}
noncomputable def fN(pc pos:Nat)(om:Bool):I0:={wait:= .nextStart,pc,pos,outermost:=om}
noncomputable def fB(pc pos:Nat)(om:Bool):I0:={wait:= .nextBranch,pc,pos,outermost:=om,kept:={lastmark:= -1,lastindex:= -1,whole:=false,marks:= #[]} }
noncomputable def fL(pc pos:Nat)(om:Bool):I0:={wait:= .lookNot,pc,pos,outermost:=om,kept:={lastmark:= -1,lastindex:= -1,whole:=false,marks:= #[]} }
section
variable{t:Array Nat}{lim s ls p h:Nat}{om om':Bool}{fr:List I0}{seen:Seen}
theorem M0:∃sn,(mk cC t lim s ls 10 p h om [fN 10 s om'] 1 none seen).step=mk cC t lim s ls 12 p p om [fB 11 p om,fN 10 s om'] 2 none sn:=⟨_,rfl⟩
theorem uy{cd:Array Nat}{pc w c:Nat}(gB:ops[cd.getD pc 0]?=some .LITERAL)(cq:∀c' sn,accepts cd pc c' sn= .ok (c'==c,sn))(M1:pc<cd.size)(ux:p>=lim\/(t.getD p 0==c)=false):
  ∃sn,(mk cd t lim s ls pc p h om fr w none seen).step=mk cd t lim s ls pc p h om fr w (some false) sn:=by
 unfold M.step
 rw[if_neg (by simp[mk])]
 refine(?_:∃sn,(if pc<cd.size then M.exec (mk cd t lim s ls pc p h om fr w none seen)else _)=_)
 refine af (if_pos M1) ?_
 unfold M.exec
 have:(mk cd t lim s ls pc p h om fr w none seen).word 0=cd.getD pc 0:=rfl
 refine af this ?_
 refine af gB ?_
 refine cu (seen.add (cd.getD pc 0)) ?_
 by_cases uz:lim<=p
 ·simp[mk,M.say,uz]
 ·rcases ux with hp|hp
  ·exact absurd hp uz
  ·simp only[mk,M.say,cq,hp]
   split
   ·rfl
   ·rfl
theorem uA{cd:Array Nat}{pc w c:Nat}(gB:ops[cd.getD pc 0]?=some .LITERAL)(cq:∀c' sn,accepts cd pc c' sn= .ok (c'==c,sn))(hw:itemWidth cd pc=2)(M1:pc<cd.size)(uz:p<lim)(hp:(t.getD p 0==c)=true):
  ∃sn,(mk cd t lim s ls pc p h om fr w none seen).step=mk cd t lim s ls (pc+2) (p+1) h om fr w none sn:=by
 unfold M.step
 rw[if_neg (by simp[mk])]
 refine(?_:∃sn,(if pc<cd.size then M.exec (mk cd t lim s ls pc p h om fr w none seen)else _)=_)
 refine af (if_pos M1) ?_
 unfold M.exec
 have:(mk cd t lim s ls pc p h om fr w none seen).word 0=cd.getD pc 0:=rfl
 refine af this ?_
 refine af gB ?_
 refine cu (seen.add (cd.getD pc 0)) ?_
 simp only[mk,M.say,cq,hp,hw]
 split
 ·rename_i h;exact absurd uz (Ew.mpr h)
 ·rfl
end
theorem M3:∀c' sn,accepts cC 12 c' sn= .ok (c'==13,sn):=fun _ _=>rfl
theorem Sl:∀c' sn,accepts cC 14 c' sn= .ok (c'==10,sn):=fun _ _=>rfl
theorem Sm:∀c' sn,accepts cC 19 c' sn= .ok (c'==10,sn):=fun _ _=>rfl
theorem zYp:∀c' sn,accepts cC 24 c' sn= .ok (c'==13,sn):=fun _ _=>rfl
theorem zYy:∀c' sn,accepts cC 29 c' sn= .ok (c'==10,sn):=fun _ _=>rfl
theorem M4:∀c' sn,accepts eB 7 c' sn= .ok (c'==46,sn):=fun _ _=>rfl
section
variable{t:Array Nat}{lim s ls p h:Nat}{om om':Bool}{fr:List I0}{seen:Seen}
theorem zZk{w:Nat}:∃sn,(mk cC t lim s ls 16 p h om fr w none seen).step=mk cC t lim s ls 35 p h om fr w none sn:=⟨_,rfl⟩
theorem yAb{w:Nat}:∃sn,(mk cC t lim s ls 21 p h om fr w none seen).step=mk cC t lim s ls 35 p h om fr w none sn:=⟨_,rfl⟩
theorem zZx{w:Nat}:∃sn,(mk cC t lim s ls 32 p h om fr w none seen).step=mk cC t lim s ls 35 p h om fr w none sn:=⟨_,rfl⟩
theorem yAc{w:Nat}:∃sn,(mk cC t lim s ls 35 p h om fr w none seen).step=mk cC t lim s ls 35 p p om fr w (some true) sn:=by
 cases om<;>exact⟨_,rfl⟩
theorem So{pc p' h':Nat}:(mk cC t lim s ls pc p' h' om [fB 11 p true,fN 10 s om'] 2 (some false) seen).step=mk cC t lim s ls 19 p p true [fB 18 p true,fN 10 s om'] 2 none seen:=rfl
theorem zTf{pc p' h':Nat}:(mk cC t lim s ls pc p' h' om [fB 18 p true,fN 10 s om'] 2 (some false) seen).step=mk cC t lim s ls 24 p p true [fB 23 p true,fN 10 s om'] 2 none seen:=rfl
theorem zU8{q pc p' h':Nat}:(mk cC t lim s ls pc p' h' om [fB q p true,fN 10 s om'] 2 (some true) seen).step=mk cC t lim s ls q p h' true [fN 10 s om'] 1 (some true) seen:=rfl
theorem zS1{pc p' h':Nat}:(mk cC t lim s ls pc p' h' om [fN 10 s om'] 1 (some true) seen).step=mk cC t lim s ls 10 s h' om' [] 0 (some true) seen:=rfl
theorem Sq{cd:Array Nat}{pc w:Nat}:(mk cd t lim s ls pc p h om [] w (some true) seen).step={mk cd t lim s ls pc p h om [] w (some true) seen with outcome:=some .matched}:=rfl
theorem zWj{cd:Array Nat}{pc w:Nat}:(mk cd t lim s ls pc p h om [] w (some false) seen).step={mk cd t lim s ls pc p h om [] w (some false) seen with outcome:=some .failed}:=rfl
theorem yAr:∃sn,(mk cC t lim s ls 26 p h true [fB 23 s true,fN 10 s om'] 2 none seen).step=mk cC t lim s ls 29 p p false [fL 26 p true,fB 23 s true,fN 10 s om'] 3 none sn:=⟨_,rfl⟩
theorem zW8{pc p' h':Nat}:(mk cC t lim s ls pc p' h' om [fL 26 p true,fB 23 s true,fN 10 s om'] 3 (some false) seen).step=mk cC t lim s ls 32 p h' true [fB 23 s true,fN 10 s om'] 2 none seen:=rfl
end
noncomputable def cG:Nat->M->M
 |0,m=>m
 |n+1,m=>cG n m.step
theorem zR8{m:M}(h:m.outcome.isSome=true):m.step=m:=by exact xT h rfl
theorem ye{m:M}(h:m.outcome.isSome=true):∀n,cG n m=m
 |0=>rfl
 |n+1=>by unfold cG;rw[zR8 h];exact ye h n
theorem DJ(a b:Nat)(m:M):cG (a+b) m=cG b (cG a m):=by
 induction a generalizing m with
 |zero=>rw[Cp];rfl
 |succ a ih=>rw[Nat.succ_add];exact ih m.step
theorem Sr:∀(n:Nat) (m:M),M.runFor n m=cG n m
 |0,_=>rfl
 |n+1,m=>by
  unfold M.runFor
  split
  ·rename_i h;exact(ye h _).symm
  ·exact Sr n m.step
theorem zVl{m:M}{a b:Nat}(ha:(cG a m).outcome.isSome=true)(hb:(cG b m).outcome.isSome=true):cG a m=cG b m:=by
 rcases Nat.le_total a b with h|h
 ·refine aH (K6 h) fun d aM=>?_
  subst aM
  refine af (DJ ..) ?_
  exact af (ye ha ..) rfl
 ·refine aH (K6 h) fun d aM=>?_
  subst aM
  refine af (DJ ..) ?_
  exact af (ye hb ..) rfl
open PySem.Builtin.Re in
theorem Ss{MM:Mo}{A:Am}{E:Value->Ab->Prop}{s:Ab}{Q:M->Ab->Prop}:∀(turns:Nat) (m:M) (k:Nat),(cG k m).outcome.isSome=true->k<=4*turns->Q (cG k m) s->Al MM A (reDrive (turns+1) m) Q E s
 |turns,m,k,hk,hle,hQ=>by
  unfold reDrive
  refine af (Sr ..) ?_
  refine(?_:Al MM A (if(cG 4 m).outcome.isSome=true then _ else _) Q E s)
  split
  ·rename_i h4
   refine(?_:Al MM A (pure (cG 4 m)) Q E s)
   refine af (zVl h4 hk) ?_;exact Ak hQ
  ·rename_i h4
   refine Ac (G3 ?_)
   have hk4:4<k:=by
    apply De
    intro hn
    refine aH (K6 (Ci hn)) fun d hd=>?_
    refine h4 ?_
    (refine cw hd ?_;refine af (DJ ..) ?_;refine af (ye hk ..) ?_);exact hk
   refine aH (K6 (Cj hk4)) fun d aM=>?_
   subst aM
   rw[DJ]at hk hQ
   cases turns with
   |zero=>lia
   |succ turns=>exact Ss turns _ d hk (by lia) hQ
open PySem.Builtin.Re in
theorem Su{MM:Mo}{A:Am}{E:Value->Ab->Prop}{s:Ab}{Q:Option M->Ab->Prop}{m:M}{k:Nat}(hle:k<=2^60)(ho:((cG k m).outcome=some .matched/\Q (some (cG k m)) s)\/((cG k m).outcome=some .failed/\Q none s)):Al MM A (reRunToEnd m) Q E s:=by
 have hs:(cG k m).outcome.isSome=true:=by rcases ho with⟨h,_⟩|⟨h,_⟩<;>refine af h ?_<;>rfl
 refine Ac (Ss (2^64-1) m k hs (by exact zB) ?_)
 have loop:∀(l:List Nat) (Q':PUnit->Ab->Prop),Q' ⟨⟩ s->Al MM A (forIn l Mr fun i _=>do
   if(cG k m).seen.has i=true then do
    rule (Sre.names.getD i "")
    pure (B2 Mr)
   else pure (B2 Mr)) Q' E s:=by
  intro l
  induction l with
  |nil=>intro Q' h;exact Ak h
  |cons i r ih=>
   intro Q' h
   refine af (Gx ..) ?_
   refine Ac ?_
   split
   ·exact Ac (G3 (Ak (ih Q' h)))
   ·exact Ak (ih Q' h)
 refine Ac (loop _ _ ?_)
 rcases ho with⟨h,hq⟩|⟨h,hq⟩
 ·refine af h ?_;exact Ak hq
 ·refine af h ?_;exact Ak hq
theorem yI{P:M->Prop}{m m':M}{k:Nat}(h:m.step=m')(h2:∃j≤k,P (cG j m')):∃j≤k+1,P (cG j m):=by
 refine aB h2 fun j hj hp=>?_
 exact i12 (j+1) (by lia) (by unfold cG;rw[h];exact hp)
theorem yB{P:M->Prop}{m:M}{f:Seen->M}{k:Nat}(h:∃sn,m.step=f sn)(h2:∀sn,∃j≤k,P (cG j (f sn))):∃j≤k+1,P (cG j m):=by
 refine aH h fun sn h=>?_
 exact yI h (h2 sn)
noncomputable def kQ(s e:Nat)(m:M):Prop:=m.outcome=some .matched/\m.start=s/\m.handed=e
section
variable{t:Array Nat}{lim s ls:Nat}{om':Bool}{seen:Seen}
theorem M5{q p h:Nat}:∃j≤4,kQ s p (cG j (mk cC t lim s ls 35 p h true [fB q s true,fN 10 s om'] 2 none seen)):=
 yB yAc fun _=>yI zU8 (yI zS1 (yI Sq ⟨0,Bv _,rfl,rfl,rfl⟩))
theorem zWx(h0:s+1<lim)(h1:(t.getD s 0==13)=true)(h2:(t.getD (s+1) 0==10)=true){h:Nat}:∃j≤8,kQ s (s+2) (cG j (mk cC t lim s ls 10 s h true [fN 10 s om'] 1 none seen)):=
 yB M0 fun _=>yB (uA (pc:=12) (c:=13) rfl M3 rfl (by decide) (by exact Nat.lt_of_succ_lt ‹_›) h1) fun _=>yB (uA (pc:=14) (c:=10) rfl Sl rfl (by decide) h0 h2) fun _=>yB zZk fun _=>M5
theorem zZr(h0:s<lim)(h1:(t.getD s 0==13)=true)(gC:(t.getD s 0==10)=false)(h2:s+1>=lim\/(t.getD (s+1) 0==10)=false){h:Nat}:∃j≤15,kQ s (s+1) (cG j (mk cC t lim s ls 10 s h true [fN 10 s om'] 1 none seen)):=
 yB M0 fun _=>yB (uA (pc:=12) (c:=13) rfl M3 rfl (by decide) h0 h1) fun _=>yB (uy (pc:=14) (c:=10) rfl Sl (by decide) h2) fun _=>yI So
  (yB (uy (pc:=19) (c:=10) rfl Sm (by decide) (.inr gC)) fun _=>yI zTf (yB (uA (pc:=24) (c:=13) rfl zYp rfl (by decide) h0 h1) fun _=>yB yAr fun _=>
   yB (uy (pc:=29) (c:=10) rfl zYy (by decide) h2) fun _=>yI zW8 (yB zZx fun _=>M5)))
theorem yA4(h0:s<lim)(h1:(t.getD s 0==13)=false)(gC:(t.getD s 0==10)=true){h:Nat}:∃j≤9,kQ s (s+1) (cG j (mk cC t lim s ls 10 s h true [fN 10 s om'] 1 none seen)):=
 yB M0 fun _=>yB (uy (pc:=12) (c:=13) rfl M3 (by decide) (.inr h1)) fun _=>yI So (yB (uA (pc:=19) (c:=10) rfl Sm rfl (by decide) h0 gC) fun _=>yB yAb fun _=>M5)
noncomputable def iM(t:Array Nat)(lim:Nat):Nat->Nat->Option Nat
 |0,_=>none
 |n+1,i=>if i>=lim then none else if(t.getD i 0==10)||(t.getD i 0==13)then some i else iM t lim n (i+1)
noncomputable def s0(t:Array Nat)(lim start:Nat):M:=mk cC t lim start lim 10 start start true [] 0 none (({}:Seen).add 14)
theorem yAn(c:Nat)(sn:Seen):∃pA,inSet cC c cC.size 5 true sn= .ok ((c==10)||(c==13),pA):=by
 refine(?_:∃pA,inSet cC c (35+1) 5 true sn=_)
 refine(?_:∃pA,(if(c==10)=true then _ else inSet cC c (34+1) 7 true _)=_)
 by_cases h:(c==10)=true
 ·(refine af (if_pos h) ?_;refine af h ?_);exact⟨_,rfl⟩
 ·refine af (if_neg h) ?_
  have h':(c==10)=false:=by simpa using h
  refine(?_:∃pA,(if(c==13)=true then _ else inSet cC c (33+1) 9 true _)=_)
  by_cases h2:(c==13)=true
  ·(refine af (if_pos h2) ?_;refine af h2 ?_;refine af h' ?_);exact⟨_,rfl⟩
  ·refine af (if_neg h2) ?_
   have vW:(c==13)=false:=by simpa using h2
   refine af h' ?_
   refine af vW ?_
   exact cu _ rfl
theorem M6{t:Array Nat}{lim:Nat}{m:M}(hc:m.code=cC)(ht:m.text=t)(hl:m.lim=lim):∀(n i:Nat) (sn:Seen),∃pA,M.admitted m n i sn= .ok (iM t lim n i,pA)
 |0,_,sn=>⟨sn,rfl⟩
 |n+1,i,sn=>by
  unfold M.admitted iM
  refine af hc ?_
  refine af ht ?_
  refine af hl ?_
  by_cases h:i>=lim
  ·(refine af (if_pos h) ?_;refine af (if_pos h) ?_);exact⟨_,rfl⟩
  ·refine af (if_neg h) ?_
   refine af (if_neg h) ?_
   refine aH (yAn (t.getD i 0) sn) fun pA e=>?_
   refine af e ?_
   cases hq:((t.getD i 0==10)||(t.getD i 0==13))with
   |true=>exact⟨pA,by simp⟩
   |false=>
    refine aH (M6 hc ht hl n (i+1) pA) fun M7 e2=>?_
    exact cu M7 (by exact e2)
theorem zPi{t:Array Nat}{lim start:Nat}:Eo cC t 0 start lim false=if(decide (start>lim)||decide (lim-start<1))=true then M.say {s0 t lim start with lastStart:=0} false else(s0 t lim start).attemptFrom start true:=rfl
noncomputable def lM(t:Array Nat)(lim s:Nat):Nat:=if(t.getD s 0==13)&&decide (s+1<lim)&&(t.getD (s+1) 0==10)then s+2 else s+1
theorem DK{t:Array Nat}{lim:Nat}:∀{n i s:Nat},iM t lim n i=some s->s<lim/\((t.getD s 0==10)||(t.getD s 0==13))=true
 |0,_,_,h=>by exact nn h
 |n+1,i,s,h=>by
  unfold iM at h
  split at h
  ·exact nn h
  ·rename_i hl
   split at h
   ·rename_i hc;obtain rfl:=Aa h;exact⟨Gr hl,hc⟩
   ·exact DK h
theorem zV8{t:Array Nat}{lim start:Nat}:match iM t lim (lim+1-start) start with
  |some s=>∃j≤20,kQ s (lM t lim s) (cG j (Eo cC t 0 start lim false))
  |none=>∃j≤20,(cG j (Eo cC t 0 start lim false)).outcome=some .failed:=by
 refine af zPi ?_
 split
 ·rename_i s hs
  refine aq (DK hs) fun h1 h2=>?_
  have fU:start<=s/\start<lim:=by
   have:∀n i,iM t lim n i=some s->i<=s:=by
    intro n
    induction n with
    |zero=>intro i h;exact nn h
    |succ n ih=>
     intro i h
     unfold iM at h
     split at h
     ·exact nn h
     ·split at h
      ·obtain rfl:=Aa h;exact Bv _
      ·exact Cy (ih _ h)
   have:=this _ _ hs
   lia
  rw[if_neg (by simp;lia)]
  unfold M.attemptFrom
  have hf:(s0 t lim start).hasFirstSet=true:=rfl
  rw[if_neg (by rw[hf];decide)]
  refine aH (M6 (t:=t) (lim:=lim) (m:=s0 t lim start) rfl rfl rfl ((s0 t lim start).lim+1-start) start (s0 t lim start).seen) fun sn e=>?_
  rw[show(s0 t lim start).admitted ((s0 t lim start).lim+1-start) start (s0 t lim start).seen= .ok (some s,sn)by rw[e];exact congrArg (fun z=>Except.ok (z,sn)) hs]
  refine(?_:∃j≤20,kQ s (lM t lim s) (cG j (mk cC t lim s lim 10 s s true [fN 10 s true] 1 none sn)))
  unfold lM
  cases mJ:(t.getD s 0==13)with
  |false=>
   have gC:(t.getD s 0==10)=true:=by rw[mJ,Bool.or_false]at h2;exact h2
   refine aB (yA4 (t:=t) (lim:=lim) (ls:=lim) (om':=true) (seen:=sn) h1 mJ gC (h:=s)) fun j hj hh=>?_
   exact i12 j (by exact zB) (by exact hh)
  |true=>
   have gC:(t.getD s 0==10)=false:=by
    have:t.getD s 0=13:=by exact eq_of_beq mJ
    refine af this ?_;rfl
   by_cases hq:s+1<lim/\(t.getD (s+1) 0==10)=true
   ·refine aB (zWx (t:=t) (lim:=lim) (ls:=lim) (om':=true) (seen:=sn) hq.1 mJ hq.2 (h:=s)) fun j hj hh=>?_
    exact i12 j (by exact zB) (by refine af hq.2 ?_;simpa[hq.1]using hh)
   ·have ux:s+1>=lim\/(t.getD (s+1) 0==10)=false:=by
     by_cases a:s+1<lim
     ·right
      cases b:(t.getD (s+1) 0==10)with
      |false=>rfl
      |true=>exact absurd ⟨a,b⟩ hq
     ·left;exact Ci ‹_›
    refine aB (zZr (t:=t) (lim:=lim) (ls:=lim) (om':=true) (seen:=sn) h1 mJ gC ux (h:=s)) fun j hj hh=>?_
    refine i12 j (by exact zB) ?_
    have:(true&&decide (s+1<lim)&&(t.getD (s+1) 0==10))=false:=by
     rcases ux with a|a
     ·have:¬(s+1<lim):=by exact Hs ‹_›
      simp[this]
     ·refine af a ?_;simp
    refine af this ?_;exact hh
 ·rename_i hs
  split
  ·exact i12 1 (by exact Ei _ _) rfl
  ·unfold M.attemptFrom
   have hf:(s0 t lim start).hasFirstSet=true:=rfl
   rw[if_neg (by rw[hf];decide)]
   refine aH (M6 (t:=t) (lim:=lim) (m:=s0 t lim start) rfl rfl rfl ((s0 t lim start).lim+1-start) start (s0 t lim start).seen) fun sn e=>?_
   rw[show(s0 t lim start).admitted ((s0 t lim start).lim+1-start) start (s0 t lim start).seen= .ok (none,sn)by rw[e];exact congrArg (fun z=>Except.ok (z,sn)) hs]
   exact i12 1 (by exact Ei _ _) rfl
end
section
variable{t:Array Nat}{lim s ls p h i:Nat}{om om':Bool}{fr:List I0}{seen:Seen}{w:Nat}
noncomputable def bol(t:Array Nat)(i:Nat):Bool:=(i==0)||(t.getD (i-1) 0==10)
theorem Sv:∃sn,(mk eB t lim s ls 5 p h om fr w none seen).step=if bol t p then mk eB t lim s ls 7 p h om fr w none sn else mk eB t lim s ls 5 p h om fr w (some false) sn:=by
 refine cu ((seen.add 6).add 44) ?_
 refine(?_:(if bol t p=true then _ else _)=_)
 cases bol t p<;>rfl
theorem yCa:∃sn,(mk eB t lim s ls 9 p h om fr w none seen).step=mk eB t lim s ls 9 p p om fr w (some true) sn:=by
 cases om<;>exact⟨_,rfl⟩
theorem yDr{pc p' h':Nat}:(mk eB t lim s ls pc p' h' om [fN 5 s om'] 1 (some true) seen).step=mk eB t lim s ls 5 s h' om' [] 0 (some true) seen:=rfl
theorem Sw{pc p' h':Nat}(hi:i<lim):(mk eB t lim i lim pc p' h' om [fN 5 i om'] 1 (some false) seen).step=mk eB t lim (i+1) lim 5 (i+1) (i+1) false [fN 5 (i+1) false] 1 none seen:=by
 refine(?_:(if i<lim then _ else _)=_)
 refine xT hi ?_;rfl
theorem yCr{pc p' h':Nat}(hi:¬i<lim):(mk eB t lim i lim pc p' h' om [fN 5 i om'] 1 (some false) seen).step=mk eB t lim i lim 5 i h' om' [] 0 (some false) seen:=by
 refine(?_:(if i<lim then _ else _)=_)
 refine eV hi ?_;rfl
end
noncomputable def nN(m:M):Prop:=m.outcome=some .failed
noncomputable def jw(t:Array Nat)(lim:Nat):Nat->Nat->Option Nat
 |0,_=>none
 |n+1,i=>if i>=lim then none else if bol t i&&(t.getD i 0==46)then some i else jw t lim n (i+1)
theorem Sx{t:Array Nat}{lim:Nat}:∀(n i:Nat) (h:Nat) (om om':Bool) (seen:Seen),n=lim+1-i->i<=lim->match jw t lim n i with
  |some s=>∃j≤4*n+8,kQ s (s+1) (cG j (mk eB t lim i lim 5 i h om [fN 5 i om'] 1 none seen))
  |none=>∃j≤4*n+8,nN (cG j (mk eB t lim i lim 5 i h om [fN 5 i om'] 1 none seen))
 |0,i,_,_,_,_,hn,hi=>absurd hn (Br (Gb (Hm hi)))
 |n+1,i,h,om,om',seen,hn,hi=>by
  unfold jw
  by_cases hl:i>=lim
  ·refine af (if_pos hl) ?_
   have fin:∀{pc p' h':Nat} {sn:Seen},∃j≤3,nN (cG j (mk eB t lim i lim pc p' h' om [fN 5 i om'] 1 (some false) sn)):=fun {pc p' h' sn}=>
    by obtain⟨j,hj,hp⟩:=yI (P:=nN) (yCr (Ew.mpr hl)) (yI zWj ⟨0,Bv 0,rfl⟩);exact⟨j,by exact zB,hp⟩
   refine aH (Sv (t:=t) (lim:=lim) (s:=i) (ls:=lim) (p:=i) (h:=h) (om:=om) (fr:=[fN 5 i om']) (w:=1) (seen:=seen)) fun sn e=>?_
   cases hb:bol t i with
   |false=>
    rw[hb,if_neg (by decide)]at e
    refine aB (yI (P:=nN) e fin) fun j hj hp=>?_
    exact i12 j (by exact zB) hp
   |true=>
    rw[hb,if_pos rfl]at e
    refine aB (yI (P:=nN) e (yB (uy (pc:=7) (c:=46) rfl M4 (by decide) (.inl hl)) fun _=>fin)) fun j hj hp=>?_
    exact i12 j (by exact zB) hp
  ·refine af (if_neg hl) ?_
   have aX:i<lim:=Gr hl
   refine aH (Sv (t:=t) (lim:=lim) (s:=i) (ls:=lim) (p:=i) (h:=h) (om:=om) (fr:=[fN 5 i om']) (w:=1) (seen:=seen)) fun sn e=>?_
   have Sy:∀{pc p' h':Nat} {sn:Seen},match jw t lim n (i+1)with
     |some s=>∃j≤4*n+9,kQ s (s+1) (cG j (mk eB t lim i lim pc p' h' om [fN 5 i om'] 1 (some false) sn))
     |none=>∃j≤4*n+9,nN (cG j (mk eB t lim i lim pc p' h' om [fN 5 i om'] 1 (some false) sn)):=fun {pc p' h' sn}=>by
    have ih:=Sx (t:=t) (lim:=lim) n (i+1) (i+1) false false sn (congrArg Nat.pred hn) aX
    split
    ·rename_i s hs
     rw[hs]at ih
     exact yI (Sw aX) ih
    ·rename_i hs
     rw[hs]at ih
     exact yI (P:=nN) (Sw aX) ih
   have go:∀(P:M->Prop),(∃j≤4*n+11,P (cG j (mk eB t lim i lim 5 i h om [fN 5 i om'] 1 none seen)))->∃j≤4*(n+1)+8,P (cG j (mk eB t lim i lim 5 i h om [fN 5 i om'] 1 none seen)):=fun P ⟨j,hj,hp⟩=>⟨j,by lia,hp⟩
   cases hb:bol t i with
   |false=>
    rw[hb,if_neg (by decide)]at e
    rw[Gj,if_neg (by decide)]
    have nx:=Sy (pc:=5) (p':=i) (h':=h) (sn:=sn)
    split
    ·rename_i s hs
     rw[hs]at nx
     refine aB (yI e nx) fun j hj hp=>?_
     exact go _ ⟨j,by lia,hp⟩
    ·rename_i hs
     rw[hs]at nx
     refine aB (yI e nx) fun j hj hp=>?_
     exact go _ ⟨j,by lia,hp⟩
   |true=>
    rw[hb,if_pos rfl]at e
    refine af (H9 ..) ?_
    cases hc:(t.getD i 0==46)with
    |true=>
     refine af (if_pos rfl) ?_
     obtain⟨j,hj,hp⟩:=yI e (yB (P:=kQ i (i+1)) (k:=4) (uA (pc:=7) (c:=46) (s:=i) (ls:=lim) (h:=h) (om:=om) (fr:=[fN 5 i om']) (w:=1) (seen:=sn) rfl M4 rfl (by decide) aX hc) fun _=>by
      obtain⟨j,hj,hp⟩:=yB (P:=kQ i (i+1)) (k:=3) (yCa (t:=t) (lim:=lim) (s:=i) (ls:=lim) (p:=i+1) (h:=h) (om:=om) (fr:=[fN 5 i om']) (w:=1)) fun _=>by
       obtain⟨j,hj,hp⟩:=yI (P:=kQ i (i+1)) (yDr (t:=t) (lim:=lim)) (yI Sq ⟨0,Bv 0,rfl,rfl,rfl⟩)
       exact i12 j (by exact zB) hp
      exact⟨j,by assumption,hp⟩)
     exact go _ ⟨j,by exact zB,hp⟩
    |false=>
     rw[if_neg (by decide)]
     refine aH (uy (cd:=eB) (t:=t) (lim:=lim) (pc:=7) (c:=46) (s:=i) (ls:=lim) (p:=i) (h:=h) (om:=om) (fr:=[fN 5 i om']) (w:=1) (seen:=sn) rfl M4 (by decide) (.inr hc)) fun M7 e2=>?_
     have nx:=Sy (pc:=7) (p':=i) (h':=h) (sn:=M7)
     split
     ·rename_i s hs
      rw[hs]at nx
      refine aB (yI e (yI e2 nx)) fun j hj hp=>?_
      exact go _ ⟨j,by assumption,hp⟩
     ·rename_i hs
      rw[hs]at nx
      refine aB (yI (P:=nN) e (yI e2 nx)) fun j hj hp=>?_
      exact go _ ⟨j,by assumption,hp⟩
theorem zNt{t:Array Nat}{lim start:Nat}:Eo eB t 0 start lim false=if(decide (start>lim)||decide (lim-start<1))=true then M.say (mk eB t lim start 0 5 start start true [] 0 none (({}:Seen).add 14)) false else mk eB t lim start lim 5 start start true [fN 5 start true] 1 none (({}:Seen).add 14):=rfl
theorem zXk{t:Array Nat}{lim start:Nat}:match jw t lim (lim+1-start) start with
  |some s=>∃j≤4*lim+20,kQ s (s+1) (cG j (Eo eB t 0 start lim false))
  |none=>∃j≤4*lim+20,nN (cG j (Eo eB t 0 start lim false)):=by
 rw[zNt]
 by_cases h:start<lim
 ·rw[if_neg (by simp;lia)]
  have r:=Sx (t:=t) (lim:=lim) (lim+1-start) start start true true (({}:Seen).add 14) rfl (by exact Cj ‹_›)
  split
  ·rename_i s hs
   rw[hs]at r
   refine aB r fun j hj hp=>?_
   exact i12 j (by lia) hp
  ·rename_i hs
   rw[hs]at r
   refine aB r fun j hj hp=>?_
   exact i12 j (by lia) hp
 ·rw[if_pos (by simp;lia)]
  have:jw t lim (lim+1-start) start=none:=by
   cases q:lim+1-start with
   |zero=>rfl
   |succ n=>exact xT (by exact Ci ‹_›) rfl
  rw[this]
  exact i12 1 (by exact Ei _ _) rfl
end Internal
namespace Internal
open PySem PySem.W PySem.Calls PyProof.Rows PySem.Builtin.Re
theorem zOu:J0 table "re.Pattern.sub.loop" =some Builtin.«re.Pattern.sub.loop» :=Fp (by kernel_rfl)
theorem Sz(a:Args):(Code.builtin "re.Pattern.sub.loop" a).quiet=true:=Code.quiet_builtin _ (by decide+kernel)
inductive mM(h:Ap)(a:Addr)(cd:Array Nat):Prop
 |mk (o:Obj) (ps:Array Value) (ta:Addr) (to:Obj) (items:Array Value) (n:Nat) (e1:h.get? a=some o) (e2:o.cls= .type "re.Pattern") (e3:o.dict=none) (e4:o.data= .fields ps) (e5:reRawNat (ps.getD 2 .none)=0) (e6:ps.getD 5 .none= .ref ta) (e7:reRawNat (ps.getD 6 .none)=0)
   (e8:h.get? ta=some to) (e9:to.data= .seq items n) (qI:(items.map reRawOf).map (·.toNat)=cd):mM h a cd
theorem mM.sub{h h':Ap}{a:Addr}{cd:Array Nat}(x:mM h a cd)(k:Sub h h'):mM h' a cd:=by
 obtain⟨o,ps,ta,to,items,n,e1,e2,e3,e4,e5,e6,e7,e8,e9,qI⟩:=x
 exact⟨o,ps,ta,to,items,n,k _ _ e1,e2,e3,e4,e5,e6,e7,k _ _ e8,e9,qI⟩
noncomputable def DM(pa:Addr)(cd:Array Nat)(t:Str)(tk:Js):ReTarget:={pattern:= .ref pa,string:= .str t tk,code:=cd,text:=t.cps,kind:=0,groups:=0,pos:=0,lim:=t.cps.size}
section
variable{prog:Program}{w:Co}{A:Am}{E:Value->Ab->Prop}{s:Ab}
theorem SA{pa:Addr}{cd:Array Nat}{t:Str}{tk:Js}{Q:ReTarget->Ab->Prop}(hp:mM s.heap pa cd)
  (hQ:Q (DM pa cd t tk) s):Al (Af prog w) A (reWholeTarget (.ref pa) (.str t tk)) Q E s:=by
 obtain⟨o,ps,ta,to,items,n,e1,e2,e3,e4,e5,e6,e7,e8,e9,qI⟩:=hp
 refine Ac (wpAny_fieldsOf e1 e4 ?_)
 refine Ac (B5 (show reTextOf (.str t tk)=pure (t.cps,0)from rfl) ?_)
 refine af e7 ?_
 refine Ac (B5 (show reNoCollectionInside (.str t tk) 0=pure ()from rfl) ?_)
 refine af e6 ?_
 refine Ac (Ac (wpAny_seqItems e8 e9 (Ak ?_)))
 refine af e5 ?_
 refine(?_:Al _ _ (pure _) _ _ _)
 refine Ak ?_
 have:(((some items).getD #[]).map reRawOf).map (·.toNat)=cd:=qI
 refine af this ?_
 exact hQ
noncomputable def yf(cd:Array Nat)(t:Array Nat)(Sp:Nat->Option (Nat×Nat)):Prop:=∀start,start<=t.size->match Sp start with
 |some (a,e)=>start<=a/\a<e/\e<=t.size/\∃j≤2^60,kQ a e (cG j (Eo cd t 0 start t.size false))
 |none=>∃j≤2^60,nN (cG j (Eo cd t 0 start t.size false))
theorem zOc{cd:Array Nat}{t:Str}{tk:Js}{pa:Addr}{Sp:Nat->Option (Nat×Nat)}(F:yf cd t.cps Sp){start:Nat}(hs:start<=t.cps.size){Q:Option Sre.M->Ab->Prop}
  (hS:∀m:Sre.M,Sp start=some (m.start,m.handed)->start<=m.start->m.start<m.handed->m.handed<=t.cps.size->Q (some m) s) (hN:Sp start=none->Q none s):
  Al (Af prog w) A (reNextFound (DM pa cd t tk) start false) Q E s:=by
 have f:=F start hs
 cases q:Sp start with
 |some ae=>
  rw[q]at f
  refine tK f fun f1 f2 f3 f4=>?_
  refine aB f4 fun j hj f5=>?_
  refine dY f5 fun h1 h2 h3=>?_
  have k:=hS (cG j (Eo cd t.cps 0 start t.cps.size false))
  rw[h2,h3]at k
  exact Su hj (.inl ⟨h1,k q f1 f2 f3⟩)
 |none=>
  rw[q]at f
  exact aB f fun j hj h1=>Su hj (.inr ⟨h1,hN q⟩)
noncomputable def pB(Sp:Nat->Option (Nat×Nat))(t rp:List Nat):Nat->Nat->List (List Nat)
 |0,_=> []
 |n+1,i=>match Sp i with
  |some (a,e)=>(if i<a then [(t.drop i).take (a-i)]else [])++[rp]++pB Sp t rp n e
  |none=>if i<t.length then [t.drop i]else []
theorem SD(t:List Nat)(a b:Nat):t.toArray.extract a b=((t.drop a).take (b-a)).toArray:=by simp
structure uB(L:Addr)(h₀:Ap)(s s':Ab)(vs:List Value)(ps:List (List Nat)):Prop where
 pl:s'.heap.PlainList L vs.toArray
 vr:ao s'.heap (ps.map PV.str) vs []
 sm:yZ s s'
 kp:Cd L h₀ s'.heap
theorem SE{s₀:Ab}{h₀:Ap}{L:Addr}{vs:List Value}{ps:List (List Nat)}{x:List Nat}{tx:Js}{Q:Unit->Ab->Prop}(P:uB L h₀ s₀ s vs ps)(hsz:ps.length<ag)
  (hQ:∀s',uB L h₀ s₀ s' (vs++[Value.str ⟨x.toArray⟩ tx]) (ps++[x])->Q () s'):
  Al (Af prog w) A (updateSeq L (·.push (.str ⟨x.toArray⟩ tx))) Q E s:=by
 refine aH P.pl fun n ho=>?_
 have hz:vs.length<ag:=by rw[P.vr.length,An];exact hsz
 refine wpAny_updateSeq ho rfl ?_ (Bo▸Cj hz) (by rw[Array.size_push,Bo];exact Jg hz)
 have hx:Cd L s.heap (s.heap.update L (Ly fun x_1=>x_1.push (Value.str ⟨x.toArray⟩ tx))):=(El ..).extBut
 refine hQ _ ⟨?_,?_,P.sm.trans ((yZ.refl _).heap _ _),fun b o h e=>hx b o h (P.kp b o h e)⟩
 ·have q:=Gp ho (fun xs=>xs.push (.str ⟨x.toArray⟩ tx))
  rw[Jh]at q
  exact cu _ q
 ·rw[D5]
  exact ao.append (P.vr.on fun a ha=>nomatch ha) (ao.one (.str x tx))
theorem SF:∀ps:List (List Nat),PV.strs (ps.map PV.str)=some ps
 |[]=>rfl
 |p::r=>by refine(?_:(PV.strs (r.map PV.str)).map _=_);rw[SF r];rfl
theorem M8:∀ps:List (List Nat),lj [] ps=ps.flatten
 |[]=>rfl
 |[x]=>by simp[lj]
 |x::y::r=>by
  refine(?_:x++[]++lj [] (y::r)=_)
  rw[M8 (y::r)];simp
noncomputable def M9(pa L:Addr)(t rp:Str)(tk tr:Js)(k e:Int)(b:Bool):Code:= .builtin "re.Pattern.sub.loop" ⟨[.ref pa, .str t tk, .str rp tr,Hl 0,Hl 0,Hl k,Hl e,Hl e, .bool b, .ref L, .bool false],[]⟩
noncomputable def SG(L:Addr)(g:ReTarget):Ks Fin:=reSlice g.text g.kind 0 0>>=fun x=>seqItems? (.ref L)>>=fun v=>if(v.getD #[]).isEmpty=true then pure x>>=fun y=>ret y else call (.builtin (if(g.kind==0)=true then "str.join" else "bytes.join")) [x, .ref L]>>=fun y=>ret y
noncomputable def yA9(pa L:Addr)(t rp:Str)(tk tr:Js)(k:Int)(m:Sre.M):Ks Fin:=pure (.str rp tr)>>=fun x=>if(x != .none)=true then updateSeq L (·.push x)>>=fun _=>again (M9 pa L t rp tk tr (k+1) m.handed (m.handed==m.start))else again (M9 pa L t rp tk tr (k+1) m.handed (m.handed==m.start))
noncomputable def Na(L:Addr)(g:ReTarget)(i b:Nat)(r:Ks Fin):Ks Fin:=if i<b then reSlice g.text g.kind i b>>=fun v=>updateSeq L (·.push v)>>=fun _=>r else r
noncomputable def yDj(pa L:Addr)(t rp:Str)(tk tr:Js)(k:Int)(i:Nat)(g:ReTarget):Ks Fin:=reLiteralCannotBeTurned (.str rp tr)>>=fun _=>reNextFound g i false>>=fun r=>
 Option.casesOn (motive:=fun _=>Ks Fin) r (Na L g i g.lim (SG L g)) fun m=>Na L g i m.start (yA9 pa L t rp tk tr k m)
theorem SH{s₀:Ab}{h₀:Ap}{L:Addr}{vs:List Value}{ps:List (List Nat)}{t:List Nat}{i b:Nat}{body:Ks Fin}{pa:Addr}{cd:Array Nat}{tk:Js}{Q:Fin->Ab->Prop}(P:uB L h₀ s₀ s vs ps)(hsz:ps.length<ag)(mO:t.length<=1000000)
  (hQ:∀s' ud,uB L h₀ s₀ s' ud (ps++(if i<b then [(t.drop i).take (b-i)]else []))->Al (Af prog w) A body Q E s'):
  Al (Af prog w) A (Na L (DM pa cd ⟨t.toArray⟩ tk) i b body) Q E s:=by
 by_cases DN:i<b
 ·rw[if_pos DN]at hQ
  refine tO DN (Ac ?_)
  refine(?_:Al _ _ (PySem.mkStr ⟨t.toArray.extract i b⟩) _ _ _)
  rw[SD]
  refine wpAny_mkStr (Ac ?_) (Bo▸Ad (K7 ..) (Ad (Bw▸Hr ..) (Ad mO (by decide))))
  exact SE (s:={s with toks:=s.toks+1}) ⟨P.pl,P.vr,P.sm.trans ((yZ.refl _).heap _ _),P.kp⟩ hsz fun s' P'=>hQ s' _ P'
 ·rw[if_neg DN,Bx]at hQ
  exact iU DN (hQ s vs P)
theorem SI(t:List Nat)(ps:List (List Nat))(i b:Nat):(ps++if i<b then [(t.drop i).take (b-i)]else []).length<=ps.length+1:=by split<;>simp
theorem SJ(t:List Nat)(ps:List (List Nat))(i b:Nat):((ps++if i<b then [(t.drop i).take (b-i)]else []).map B3).sum<=(ps.map B3).sum+(b-i):=by
 split
 ·simp;exact Il _ _
 ·simp
theorem zU9{s₀:Ab}{h₀:Ap}{L:Addr}{vs:List Value}{ps:List (List Nat)}{t:List Nat}{pa:Addr}{cd:Array Nat}{tk:Js}{Q:Fin->Ab->Prop}(P:uB L h₀ s₀ s vs ps)(hs:(ps.map B3).sum<=16000000)
  (hQ:∀(s':Ab) (tx:Js),yZ s₀ s'->Cd L h₀ s'.heap->Q (.done (.ret (.str ⟨ps.flatten.toArray⟩ tx))) s'):
  Al (Af prog w) A (SG L (DM pa cd ⟨t.toArray⟩ tk)) Q E s:=by
 refine Ac ?_
 refine(?_:Al _ _ (PySem.mkStr ⟨t.toArray.extract 0 0⟩) _ _ _)
 rw[SD,Nat.sub_zero,K8]
 refine wpAny_mkStr ?_ (C2 _)
 refine aH P.pl fun n ho=>?_
 refine Ac (wpAny_seqItems ho rfl ?_)
 by_cases Nb:vs.toArray.isEmpty=true
 ·refine tO Nb (Ac (Ak (Ak ?_)))
  have hv:vs.length=0:=by rw[Array.isEmpty_iff.mp Nb|>fun e=>(show vs=[]by simpa using e)];rfl
  have e:=hQ {s with toks:=s.toks+1} (s.toks) (P.sm.trans ((yZ.refl _).heap _ _)) P.kp
  rw[It.mp (Ec (P.vr.length.symm.trans hv))]at e
  exact e
 ·refine iU Nb (Ac ?_)
  refine He (s:={s with toks:=s.toks+1}) (x:=mkStr []) P.pl.isList (P.vr.strs (SF _)) ?_ fun t' k'=>?_
  ·have h1:(Cf∘mkStr)=B3:=funext fun z=>rfl
   refine(?_:_+_*0<=_)
   rw[A9]
   refine(?_:(List.map (Cf∘mkStr) ps).sum<=_)
   rw[h1]
   exact Ad hs (by decide)
  ·rw[GW,M8]
   exact Ak (hQ {s with toks:=k'} _ (P.sm.trans ((yZ.refl _).heap _ _)) P.kp)
theorem yB4{x y i a e r:Nat}(h:x<=y+(a-i))(k:y<=11*i)(f1:i<=a)(f2:a<e)(hr:r<=10):x+r<=11*e:=
 have q:11*i+(a-i)<=11*a:=Ad (Dg (Nat.le_mul_of_pos_left _ (Ha 10)) _) (by rw[<-Nat.mul_add,Nat.add_sub_cancel' f1];exact Bv _)
 Ad (Hn (Ad h (Ad (By k _) q)) hr) (Ad (Ft (11*a+10)) (D2 11 f2))
theorem zZu(pa L:Addr)(t rp:Str)(tk tr:Js)(k:Int)(i:Nat):
 (Builtin.«re.Pattern.sub.loop» <|⟨[.ref pa, .str t tk, .str rp tr,Hl 0,Hl 0,Hl k,Hl i,Hl i, .bool false, .ref L, .bool false],[]⟩)=(reWholeTarget (.ref pa) (.str t tk)>>=yDj pa L t rp tk tr k i):=by
 kernel_rfl
theorem zUz{cd:Array Nat}{t rp:List Nat}{tk tr:Js}{pa L:Addr}{Sp:Nat->Option (Nat×Nat)}{s₀:Ab}{h₀:Ap}(F:yf cd t.toArray Sp)(mO:t.length<=1000000)(Nc:rp.length<=10)
  (hp:∀h:Ap,Cd L h₀ h->mM h pa cd) {R:D6->Ab->Prop}:
  ∀(n:Nat) (s:Ab) (vs:List Value) (ps:List (List Nat)) (i:Nat) (k:Int) (b:Bool),b=false->i<=t.length->t.length<i+n->uB L h₀ s₀ s vs ps->ps.length<=2*i->(ps.map B3).sum<=11*i->
   (∀(s':Ab) (tx:Js),yZ s₀ s'->Cd L h₀ s'.heap->R (.ok (.ret (.str ⟨(ps++pB Sp t rp n i).flatten.toArray⟩ tx))) s')->
   Ca (Af prog w) A (M9 pa L ⟨t.toArray⟩ ⟨rp.toArray⟩ tk tr k i b) R s:=by
 intro n
 induction n with
 |zero=>intro s vs ps i k b hb h1 h2;exact absurd h1 (Nat.not_le_of_lt h2)
 |succ n ih=>
  intro s vs ps i k b hb h1 h2 P g8 yg hR
  subst hb
  have hi:i<=1000000:=Ad h1 mO
  have yh:ps.length<=2000000:=Ad g8 (D2 2 hi)
  have cj:ps.length<ag:=Ds yh (by decide)
  refine codeAny_builtin zOu (af (zZu ..) ?_)
  refine Ac (SA (hp _ P.kp) ?_)
  refine Ac (B5 (show reLiteralCannotBeTurned (.str ⟨rp.toArray⟩ tr)=pure ()from rfl) ?_)
  refine Ac (zOc (tk:=tk) F h1 (fun m q f1 f2 f3=>?_) fun q=>?_)
  ·refine SH P cj mO fun aa yi sM=>?_
   refine Ac (Ak ?_)
   refine tO rfl (Ac ?_)
   have f3:m.handed<=t.length:=f3
   have el:(ps++if i<m.start then [(t.drop i).take (m.start-i)]else []).length<=ps.length+1:=SI ..
   have es:((ps++if i<m.start then [(t.drop i).take (m.start-i)]else []).map B3).sum<=(ps.map B3).sum+(m.start-i):=SJ ..
   have jM:i+1<=m.handed:=Ds f1 f2
   refine SE sM (Ds (Ad el (Du yh)) (by decide)) fun s₂ Nd=>?_
   refine Ak ⟨Sz _,ih s₂ _ _ m.handed (k+1) _ (beq_eq_false_iff_ne.mpr (Hi f2)) f3 (D7 h2 (Nat.succ_add_eq_add_succ i n▸By jM n)) Nd (Ah▸Ad (Du (Ad el (Du g8))) (D2 2 jM)) (by rw[D5,Gy,List.map_singleton,List.sum_singleton];exact yB4 es yg f1 f2 Nc) fun s' tx h1 h2=>?_⟩
   have e:=hR s' tx h1 h2
   unfold pB at e
   rw[q,<-Bf,<-Bf]at e
   exact e
  ·refine SH (b:=t.length) P cj mO fun aa yi sM=>?_
   have el:(ps++if i<t.length then [(t.drop i).take (t.length-i)]else []).length<=ps.length+1:=SI ..
   have es:((ps++if i<t.length then [(t.drop i).take (t.length-i)]else []).map B3).sum<=(ps.map B3).sum+(t.length-i):=SJ ..
   refine zU9 sM (Ad es (Ad (Hn (Ad yg (D2 11 hi)) (Ad (Hr ..) mO)) (by decide))) fun s' tx h1 h2=>?_
   have e:=hR s' tx h1 h2
   unfold pB at e
   rw[q]at e
   rw[Fw (Bw▸Bv _)]
   exact e
end
theorem DO:Slot "re.Pattern" "sub" "re.Pattern.sub" := .of (owner:= "re.Pattern") (n:= "sub") (by rw[Bi,A1];kernel_rfl) (by decide+kernel) (by decide+kernel) (by decide+kernel)
  (by first|exact .inl (by decide+kernel)|exact .inr (by decide+kernel)) (by rw[Fn];kernel_rfl)
theorem SK:typeOf (.builtin "re.Pattern.sub")=pure (.type "method_descriptor"):=by refine(?_:builtinType _=_);rw[builtinType_eq_fast];kernel_rfl
theorem zI2:J0 table "re.Pattern.sub" =some Builtin.«re.Pattern.sub» :=Fp (by kernel_rfl)
theorem zKg(a b c:Value):Mm "re.Pattern.sub" ⟨[a,b,c],[]⟩:=by kernel_rfl
theorem SM:PlainAttrs "re.Pattern" :=⟨⟨"object.__getattribute__",by(refine af (Bi ..) ?_;refine af A1 ?_);kernel_rfl,by decide+kernel⟩,by(refine af (Bi ..) ?_;refine af A1 ?_);kernel_rfl⟩
theorem zMa:Cq (.type "str") "__call__" =pure none:=by rw[Bi,A1];kernel_rfl
section
variable{prog:Program}{w:Co}{A:Am}{E:Value->Ab->Prop}{s:Ab}
theorem SN{cd:Array Nat}{t rp:List Nat}{tk tr:Js}{pa:Addr}{Sp:Nat->Option (Nat×Nat)}{Q:Value->Ab->Prop}(F:yf cd t.toArray Sp)(hp:mM s.heap pa cd)(mO:t.length<=1000000)(Nc:rp.length<=10)(h92:rp.contains 92=false)
  (hQ:∀(s':Ab) (tx:Js),KG s s'->Q (.str ⟨((pB Sp t rp (t.length+1) 0).flatten).toArray⟩ tx) s'):
  Al (Af prog w) A (call (.builtin "re.Pattern.sub") [.ref pa, .str ⟨rp.toArray⟩ tr, .str ⟨t.toArray⟩ tk]) Q E s:=by
 obtain⟨o,ps,ta,to,items,n,e1,e2,e3⟩:=id hp
 have hT:s.TypeIs (.ref pa) "re.Pattern" :=⟨o,e1,e2⟩
 refine Gd (codeAny_call_builtin DO.plain zI2 (DO.check _ _ _ _ _ _ _ _ hT (zKg _ _ _) ?_))
 unfold Builtin.«re.Pattern.sub»reSubstitute
 refine Ac (B5 (show reNamed "re.Pattern.sub" "sub" ["repl", "string", "count"] 2 [.str ⟨rp.toArray⟩ tr, .str ⟨t.toArray⟩ tk] []=pure [some (.str ⟨rp.toArray⟩ tr),some (.str ⟨t.toArray⟩ tk),none]by first|rfl|kernel_rfl) ?_)
 refine Ac (Ak ?_)
 refine Ac (D4 (Ht _ _ _) zMa ?_)
 refine iU (by decide) ?_
 refine Ac (B5 (show asStr? (.str ⟨rp.toArray⟩ tr)=pure (some ⟨rp.toArray⟩)from rfl) ?_)
 refine Ac (Ak ?_)
 refine iU (by decide) ?_
 have Nf:(!(rp.toArray.contains 92))=true:=by simpa using h92
 refine af Nf ?_
 refine af (if_pos rfl) ?_
 refine Ac (Ak ?_)
 dsimp only
 refine Ac (Ea (SA hp ?_))
 refine iU (by decide) ?_
 refine Ac (Cb ?_ (by refine(?_:(#[]:Array Value).size<=_);refine af Bo ?_;decide))
 refine Ak ⟨Sz _,?_⟩
 have kM:s.heap.get? s.heap.objs.size=none:=yP (h:=s.heap) 0
 generalize hL:s.heap.objs.size=L at*
 have sr:(s.heap.push {cls:= .type "list",data:= .seq ([]:List Value).toArray}).get? L=some {cls:= .type "list",data:= .seq ([]:List Value).toArray}:=hL▸Av _ rfl
 have up:Sub s.heap (s.heap.push {cls:= .type "list",data:= .seq ([]:List Value).toArray}):=fun b o e=>Ag _ e
 have old:∀{h:Ap},(∀b o,b≠L->s.heap.get? b=some o->h.get? b=some o)->Sub s.heap h:=fun {h} k b o e=>k b o (fun q=>by rw[q,kM]at e;exact nn e) e
 refine zUz (h₀:=s.heap) (s₀:=s) F mO Nc (fun h k=>hp.sub (old k)) (t.length+1) {s with heap:=s.heap.push {cls:= .type "list",data:= .seq ([]:List Value).toArray} } [] [] 0 0 false rfl (C2 _) (Cp _▸Bk _) ⟨⟨_,sr⟩, .nil,(yZ.refl s).heap _ _,fun b o _ e=>up b o e⟩ (C2 _) (C2 _) fun s' tx h1 h2=>?_
 refine hQ s' tx ?_
 obtain⟨h',xo,g',e,xg⟩:=h1
 exact⟨h',xo,g',e,fun b o eb=>by
  have hb:b≠L:=fun q=>by rw[q,kM]at eb;exact nn eb
  have:=h2 b o hb eb
  rw[e]at this;exact this,xg⟩
end
end Internal
namespace Internal
open PySem
noncomputable def cH:Bool->List Nat->List Nat
 |_,[]=> []
 |cr,c::r=>if c==13 then 13::10::cH true r else if c==10 then(if cr then cH false r else 13::10::cH false r)else c::cH false r
noncomputable def dbl:Bool->List Nat->List Nat
 |_,[]=> []
 |b,c::r=>(if b&&c==46 then [46,46]else [c])++dbl (c==10) r
noncomputable def uC(t:Array Nat)(start:Nat):Option (Nat×Nat):=(iM t t.size (t.size+1-start) start).map fun s=>(s,lM t t.size s)
noncomputable def uD(t:Array Nat)(start:Nat):Option (Nat×Nat):=(jw t t.size (t.size+1-start) start).map fun s=>(s,s+1)
theorem DP{t:Array Nat}{lim:Nat}:∀{n i s:Nat},iM t lim n i=some s->i<=s
 |0,_,_,h=>by exact nn h
 |n+1,i,s,h=>by
  unfold iM at h
  split at h
  ·exact nn h
  ·split at h
   ·obtain rfl:=Aa h;exact Bv _
   ·exact Cy (DP h)
theorem yj{t:Array Nat}{lim:Nat}:∀{n i s:Nat},jw t lim n i=some s->i<=s/\s<lim
 |0,_,_,h=>by exact nn h
 |n+1,i,s,h=>by
  unfold jw at h
  split at h
  ·exact nn h
  ·rename_i hl
   split at h
   ·obtain rfl:=Aa h;exact⟨Bv _,Gr hl⟩
   ·exact bZ (Cy (yj h).1) ((yj h).2)
theorem SO{t:Array Nat}{lim s:Nat}(h:s<lim):s<lM t lim s/\lM t lim s<=lim:=by
 unfold lM
 split
 ·rename_i h2
  simp only[Az,decide_eq_true_eq]at h2
  lia
 ·lia
theorem zZi(t:Array Nat):yf cC t (uC t):=fun start hs=>by
 have h:=zV8 (t:=t) (lim:=t.size) (start:=start)
 unfold uC
 cases q:iM t t.size (t.size+1-start) start with
 |some s=>
  rw[q]at h
  refine aB h fun j hj hh=>?_
  have h1:=DK q
  have h2:=SO (t:=t) h1.1
  exact⟨DP q,h2.1,h2.2,j,Ad hj (by decide),hh⟩
 |none=>
  rw[q]at h
  refine aB h fun j hj hh=>?_
  exact i12 j (Ad hj (by decide)) hh
theorem yBr(t:Array Nat)(ht:t.size<=1000000000):yf eB t (uD t):=fun start hs=>by
 have h:=zXk (t:=t) (lim:=t.size) (start:=start)
 unfold uD
 cases q:jw t t.size (t.size+1-start) start with
 |some s=>
  rw[q]at h
  refine aB h fun j hj hh=>?_
  have h1:=yj q
  exact⟨h1.1,Bk _,h1.2,j,by exact xX,hh⟩
 |none=>
  rw[q]at h
  refine aB h fun j hj hh=>?_
  exact i12 j (by exact xX) hh
theorem pC{l:List Nat}{i:Nat}(h:i<l.length):l.drop i=l.toArray.getD i 0::l.drop (i+1):=by
 rw[A5 h]
 congr 1
 simp[h]
theorem SP{l:List Nat}:∀(n i:Nat),n=l.length+1-i->i<=l.length->match iM l.toArray l.length n i with
  |some a=>cH false (l.drop i)=(l.drop i).take (a-i)++cH false (l.drop a)
  |none=>cH false (l.drop i)=l.drop i
 |0,i,hn,hi=>absurd hn (Br (Gb (Hm hi)))
 |n+1,i,hn,hi=>by
  unfold iM
  by_cases h:i>=l.length
  ·refine af (if_pos h) ?_
   have:l.drop i=[]:=Ed.mpr h
   refine af this ?_;rfl
  ·refine af (if_neg h) ?_
   have aX:i<l.length:=Gr h
   cases hc:((l.toArray.getD i 0==10)||(l.toArray.getD i 0==13))with
   |true=>rw[if_pos rfl];simp
   |false=>
    rw[if_neg (by decide)]
    have ih:=SP (l:=l) n (i+1) (congrArg Nat.pred hn) aX
    simp only[E7]at hc
    have e:cH false (l.drop i)=l.toArray.getD i 0::cH false (l.drop (i+1)):=by
     refine af (pC aX) ?_
     conv=>lhs;unfold cH
     (refine eV (by refine af hc.2 ?_;decide) ?_;exact eV (by refine af hc.1 ?_;decide) rfl)
    split
    ·rename_i a ha
     rw[ha]at ih
     have xy:=DP ha
     rw[e,ih,pC aX,show a-i=(a-(i+1))+1 by lia,Lh]
     rfl
    ·rename_i ha
     rw[ha]at ih
     refine af e ?_
     refine af ih ?_
     exact cw (pC aX) rfl
theorem zZn{r:List Nat}(h:r.head?≠some 10):cH true r=cH false r:=by
 cases r with
 |nil=>rfl
 |cons c r=>
  have hc:(c==10)=false:=by
   cases q:(c==10)with
   |false=>rfl
   |true=>exact absurd (by exact q) (by simpa using h)
  unfold cH
  rw[hc]
  rfl
theorem yAl{l:List Nat}{a:Nat}(h:a<l.length)(hc:((l.toArray.getD a 0==10)||(l.toArray.getD a 0==13))=true):cH false (l.drop a)=[13,10]++cH false (l.drop (lM l.toArray l.length a)):=by
 unfold lM
 refine af (pC h) ?_
 cases mJ:(l.toArray.getD a 0==13)with
 |false=>
  rw[mJ,Bool.or_false]at hc
  simp only[Gj]
  refine af (if_neg Bt) ?_
  conv=>lhs;unfold cH
  (refine af mJ ?_;refine af hc ?_);rfl
 |true=>
  have e:cH false (l.toArray.getD a 0::l.drop (a+1))=13::10::cH true (l.drop (a+1)):=by
   conv=>lhs;unfold cH
   refine af mJ ?_;rfl
  refine af e ?_
  by_cases hq:a+1<l.length/\(l.toArray.getD (a+1) 0==10)=true
  ·refine af hq.2 ?_
   simp only[hq.1,decide_true,Bool.and_self,if_true]
   refine af (pC hq.1) ?_
   have:cH true (l.toArray.getD (a+1) 0::l.drop (a+1+1))=cH false (l.drop (a+2)):=by
    have gC:l.toArray.getD (a+1) 0=10:=by exact eq_of_beq hq.2
    refine af gC ?_;rfl
   refine af this ?_;rfl
  ·have hf:(true&&decide (a+1<l.length)&&(l.toArray.getD (a+1) 0==10))=false:=by
    cases q:(true&&decide (a+1<l.length)&&(l.toArray.getD (a+1) 0==10))with
    |false=>rfl
    |true=>
     simp only[H9,Az,decide_eq_true_eq]at q
     exact absurd q hq
   rw[hf,if_neg Bt,zZn]
   ·rfl
   ·intro hh
    by_cases hl:a+1<l.length
    ·rw[pC hl]at hh
     have:l.toArray.getD (a+1) 0=10:=by simpa using hh
     exact hq ⟨hl,by refine af this ?_;rfl⟩
    ·rw[Ed.mpr (by exact Ci ‹_›)]at hh;exact nn hh
theorem SQ{l:List Nat}:∀(n i:Nat),i<=l.length->l.length<i+n->(pB (uC l.toArray) l [13,10] n i).flatten=cH false (l.drop i)
 |0,i,h1,h2=>by lia
 |n+1,i,h1,h2=>by
  unfold pB
  have hsz:l.toArray.size=l.length:=by rfl
  have hf:=SP (l:=l) (l.length+1-i) i rfl h1
  unfold uC
  refine af hsz ?_
  cases q:iM l.toArray l.length (l.length+1-i) i with
  |none=>
   rw[q]at hf
   refine af hf ?_
   dsimp only[Option.map_none]
   split
   ·simp
   ·rename_i h
    refine af (Ed.mpr (Ci h)) ?_;rfl
  |some a=>
   rw[q]at hf
   have hs:=DK q
   have he:=SO (t:=l.toArray) hs.1
   have xy:=DP q
   dsimp only[Ki]
   have ih:=SQ (l:=l) n (lM l.toArray l.length a) he.2 (by lia)
   unfold uC at ih
   rw[hsz]at ih
   refine af hf ?_
   refine af (yAl hs.1 hs.2) ?_
   refine af Cw ?_
   refine af Cw ?_
   rw[show(fun start=>H6 (fun s=>(s,lM l.toArray l.length s)) (iM l.toArray l.length (l.length+1-start) start))=fun start=>H6 (fun s=>(s,lM l.toArray l.length s)) (iM l.toArray l.length (l.length+1-start) start)from rfl]
   refine af ih ?_
   split
   ·simp
   ·rename_i h
    have:a-i=0:=by lia
    refine af this ?_;simp
end Internal
namespace Internal
open PySem PySem.W PySem.Calls PyProof.Rows
theorem zVq{l:List Nat}{i:Nat}:bol l.toArray (i+1)=(l.toArray.getD i 0==10):=by
 unfold bol
 simp
theorem SS{l:List Nat}:∀(n i:Nat),n=l.length+1-i->i<=l.length->match jw l.toArray l.length n i with
  |some a=>dbl (bol l.toArray i) (l.drop i)=(l.drop i).take (a-i)++[46,46]++dbl (bol l.toArray (a+1)) (l.drop (a+1))
  |none=>dbl (bol l.toArray i) (l.drop i)=l.drop i
 |0,i,hn,hi=>absurd hn (Br (Gb (Hm hi)))
 |n+1,i,hn,hi=>by
  unfold jw
  by_cases h:i>=l.length
  ·refine af (if_pos h) ?_
   have:l.drop i=[]:=Ed.mpr h
   refine af this ?_;rfl
  ·refine af (if_neg h) ?_
   have aX:i<l.length:=Gr h
   have e:dbl (bol l.toArray i) (l.drop i)=(if bol l.toArray i&&l.toArray.getD i 0==46 then [46,46]else [l.toArray.getD i 0])++dbl (bol l.toArray (i+1)) (l.drop (i+1)):=by
    refine af (pC aX) ?_
    refine af zVq ?_
    conv=>lhs;unfold dbl
   cases hc:(bol l.toArray i&&(l.toArray.getD i 0==46))with
   |true=>
    refine af (if_pos rfl) ?_
    refine af e ?_
    refine af hc ?_
    refine af (if_pos rfl) ?_
    simp
   |false=>
    rw[if_neg (by decide)]
    have ih:=SS (l:=l) n (i+1) (congrArg Nat.pred hn) aX
    rw[hc,if_neg (by decide)]at e
    split
    ·rename_i a ha
     rw[ha]at ih
     have xy:=(yj ha).1
     rw[e,ih,pC aX,show a-i=(a-(i+1))+1 by lia,Lh]
     simp
    ·rename_i ha
     rw[ha]at ih
     refine af e ?_
     refine af ih ?_
     conv=>rhs;rw[pC aX]
     rfl
theorem SU{l:List Nat}:∀(n i:Nat),i<=l.length->l.length<i+n->(pB (uD l.toArray) l [46,46] n i).flatten=dbl (bol l.toArray i) (l.drop i)
 |0,i,h1,h2=>by lia
 |n+1,i,h1,h2=>by
  unfold pB
  have hsz:l.toArray.size=l.length:=by rfl
  have hf:=SS (l:=l) (l.length+1-i) i rfl h1
  unfold uD
  refine af hsz ?_
  cases q:jw l.toArray l.length (l.length+1-i) i with
  |none=>
   rw[q]at hf
   refine af hf ?_
   dsimp only[Option.map_none]
   split
   ·simp
   ·rename_i h
    refine af (Ed.mpr (Ci h)) ?_;rfl
  |some a=>
   rw[q]at hf
   have hs:=yj q
   dsimp only[Ki]
   have ih:=SU (l:=l) n (a+1) hs.2 (by lia)
   unfold uD at ih
   rw[hsz]at ih
   refine af hf ?_
   refine af Cw ?_
   refine af Cw ?_
   rw[show(fun start=>H6 (fun s=>(s,s+1)) (jw l.toArray l.length (l.length+1-start) start))=fun start=>H6 (fun s=>(s,s+1)) (jw l.toArray l.length (l.length+1-start) start)from rfl]
   refine af ih ?_
   split
   ·simp
   ·rename_i h
    have:a-i=0:=by lia
    refine af this ?_;simp
noncomputable def kR(l:List Nat):List Nat:=dbl true (cH false l)
theorem Ng:∀(cr:Bool) (l:List Nat),(cH cr l).length<=2*l.length
 |_,[]=>by simp[cH]
 |cr,c::r=>by
  have h1:=Ng true r
  have h2:=Ng false r
  unfold cH
  split
  ·simp;exact xK
  ·split
   ·split
    ·simp;exact xM
    ·simp;exact xK
   ·simp;exact xL
section
variable{W:bx}{C:Cx}
theorem zOs{env:Dy}{A:Am}{E:Value->Ab->Prop}{s:Ab}{σ:List (Option PV)}{p1 p2:Addr}{z1 z2 zc zd:Str}{i:Nat}{l:List Nat}{tc:Js}{a1 a2 a3 a4 a5 a6 a7 a8 a9:B0}{k:Nat}{Q:Value->Ab->Prop}(P:Pre W C env A σ s)
  (h1:mM s.heap p1 eB) (h2:mM s.heap p2 cC) (ro:C.kn.lookup z1=some .globalImplicit) (rq:C.kn.lookup z2=some .globalImplicit) (hzc:C.kn.lookup zc=some .globalImplicit) (hg1:W.mg z1=some (.ref p1)) (hg2:W.mg z2=some (.ref p2)) (mh:W.mg zc=some (.str ⟨#[13,10]⟩ tc))
  (ug:bad z1=false) (sQ:bad z2=false) (gA:bad zc=false) (CL:bad zd=false) (oE:C.kn.lookup zd=some .local) (hid:C.Γ.lookup zd=some i) (bu:σ[i]?=some (some (.str l))) (hl:l.length<=100000) (hl1:(a3.endLine==a8.line)=true) (AX:(a6.endLine==a7.line)=true)
  (hQ:∀s' t,KG s s'->Q (.str ⟨(kR l).toArray⟩ t) s'):
  Al (Af W.prog W.w) A (eval (.Call (.Attribute (.Name z1 a1) "sub" a3) [.Constant (.str "..") k a2, .Call (.Attribute (.Name z2 a4) "sub" a6) [.Name zc a5, .Name zd a9] [] a7] [] a8) env) Q E s:=by
 have kk:∀x k,C.kn.lookup x=some k->env.kindOf x=some k:=fun x k e=>by unfold Be;refine af P.names ?_;exact e
 refine Call_method2 (wJ rfl _ env _) (by(refine af (zF rfl _ env) ?_;refine af (zF rfl [] env) ?_);rfl) hl1 ?_
 refine A6 P.kind (kk _ _ ro) (Dk (mg:=W.mg) (by refine af P.gl ?_;exact W.g P.wd) hg1 ?_) (wD ug)
 obtain⟨o,ps,ta,to,items,n,e1,e2,e3,e4⟩:=id h1
 refine lU ("re.Pattern") _ SM DO SK ⟨o,e1,e2⟩ (fun c e=>by cases e;exact⟨o,e1,e3⟩) (Dc rfl (E1 (A8 (Dt (A8 ?_)))))
 refine Call_method2 (wJ rfl _ env _) (by(refine af (zF rfl _ env) ?_;refine af (zF rfl [] env) ?_);rfl) AX ?_
 have P1:=P.kp (wZ s (s.toks+1))
 refine A6 P.kind (kk _ _ rq) (Dk (mg:=W.mg) (by refine af P.gl ?_;exact W.g P1.wd) hg2 ?_) (wD sQ)
 obtain⟨o',ps',ta',to',Nh,n',f1,f2,f3,f4⟩:=id h2
 refine lU ("re.Pattern") _ SM DO SK ⟨o',f1,f2⟩ (fun c e=>by cases e;exact⟨o',f1,f3⟩) (Dc rfl (E1 (A8 ?_)))
 refine A6 P.kind (kk _ _ hzc) (Dk (mg:=W.mg) (by refine af P.gl ?_;exact W.g P1.wd) mh ?_) (wD gA)
 refine dZ (P1.rd zd i _ _ oE rfl hid bu) fun v ns acc r=>?_
 refine A8 (Bq (zS P.kind acc (B4 ?_) (wP CL)) (wD CL))
 cases r
 have SV:=SQ (l:=l) (l.length+1) 0 (C2 _) (by lia)
 rw[Dz]at SV
 refine SN (s:={s with toks:=s.toks+1}) (rp:=[13,10]) (Sp:=uC l.toArray) (zZi _) h2 (by exact zB) (by decide) (by decide) fun s₂ sq k₂=>?_
 refine af SV ?_
 refine B4 ?_
 have hlen:=Ng false l
 have Ni:=SU (l:=cH false l) ((cH false l).length+1) 0 (C2 _) (by lia)
 rw[Dz]at Ni
 have CI:bol (cH false l).toArray 0=true:=rfl
 rw[CI]at Ni
 refine SN (rp:=[46,46]) (Sp:=uD (cH false l).toArray) (yBr _ (by simp;exact xN)) (h1.sub (zV (zI (wZ s (s.toks+1)) k₂))) (by exact xN) (by decide) (by decide) fun ak Nj bh=>?_
 refine af Ni ?_
 exact hQ ak Nj (zI (wZ s (s.toks+1)) (zI k₂ bh))
end
noncomputable def enc:List (Bool×Nat)->List Nat
 |[]=> []
 |(b,c)::r=>(if b then [92,c]else [c])++enc r
noncomputable def jx(c:Nat):Bool:=([10,9,13,32]:List Nat).contains c
noncomputable def Nk(c:Nat):Prop:=jx c=false/\c≠34/\c≠92
noncomputable def nl(c:Nat)(ln:Int):Int:=if c=10 then ln+1 else ln
section
variable{U:Uc}{v it:Value}
noncomputable abbrev gS(v it:Value)(tok:List Nat)(c:Option PV)(cs:List Nat)(ln:Int):Sg:=⟨[some (.obj v),some (.str tok),some (.obj it),c],some (v,⟨cs,ln,[]⟩)⟩
theorem SW(c:Nat)(r:List Nat)(ln:Int):gz ⟨c::r,ln,[]⟩=(⟨r,nl c ln,[]⟩,[c]):=by
 unfold gz nl
 by_cases h:c=10
 ·subst h;rfl
 ·have:(([c]:List Nat)==[10])=false:=by simp[h]
  simp[h]
theorem DQ{out:Bool}{f:Den}{n:Nat}{tok:List Nat}{p:Option PV}{c:Nat}{r:List Nat}{ln:Int}:gU out v 3 f (n+1) (gS v it tok p (c::r) ln)=
  (f (gS v it tok (some (.str [c])) r (nl c ln))).bind fun q=>match q with
   |(g', .next)=>gU out v 3 f n g'
   |(g', .cont)=>gU out v 3 f n g'
   |(g', .brk)=>some (g', .next)
   |(g', .ret p)=>some (g', .ret p):=by
 refine(?_:(if v==v then _ else _)=_)
 refine xT (by simp) ?_
 refine(?_:(f _).bind _=_)
 rw[SW];rfl
theorem uE{tok:List Nat}{c:Nat}{r:List Nat}{ln:Int}:uo 0 3 (gS v it tok (some (.str [c])) r ln)=some (jx c):=by
 refine(?_:(if v==v then _ else _:Option (Value×aj)).bind _=_)
 rw[if_pos (by simp)];rfl
theorem DR{tok:List Nat}{c k:Nat}{r:List Nat}{ln:Int}:aZ U (.cmp .Eq (.var 3) (.lit (.str [k]))) (gS v it tok (some (.str [c])) r ln).σ=some (c==k):=by
 refine(?_:some (([c]:List Nat)==[k])=_)
 simp
theorem kP{c:Sg->Option Bool}{f h:Den}{g:Sg}{t:Bool}(e:c g=some t):kO c f h g=if t then f g else h g:=by unfold kO;rw[e];rfl
theorem SX{tok:List Nat}{c:Nat}{r:List Nat}{ln:Int}(h:c≠92):ur 0 3 U (gS v it tok (some (.str [c])) r ln)=some (gS v it tok (some (.str [c])) r ln, .next):=by
 refine(kP (t:=false) (DR.trans (by simpa using h))).trans ?_
 rfl
theorem SY{tok:List Nat}{c:Nat}{r:List Nat}{ln:Int}:ur 0 3 U (gS v it tok (some (.str [92])) (c::r) ln)=some (gS v it tok (some (.str [c])) r (nl c ln), .next):=by
 refine(kP (t:=true) DR).trans ?_
 refine(?_:(zZ (yX 3 (xi 0)) aA _)=_)
 have:xi 0 (gS v it tok (some (.str [92])) (c::r) ln)=some (gS v it tok (some (.str [92])) r (nl c ln), .str [c]):=by
  refine(?_:H6 _ (if v==v then _ else _:Option (Value×aj))=_)
  rw[if_pos (by simp)]
  simp only[Ki]
  rw[SW]
 refine(?_:((yX 3 (xi 0) _).bind _)=_)
 unfold yX
 rw[this];rfl
theorem S2{g:Sg}{i:Nat}{e:PE}{a b:List Nat}(hx:g.σ[i]?=some (some (.str a)))(hy:ev U e g.σ=some (.str b))(hs:a.length+b.length<=ag):ou U .Add i e g=some (g.set i (.str (a++b)), .next):=by
 unfold ou
 rw[hx]
 refine(?_:(ev U e g.σ).bind _=_)
 rw[hy]
 refine(?_:(if a.length+b.length<=ag then some (PV.str (a++b))else none:Option PV).map _=_)
 rw[if_pos hs]
 rfl
theorem S3{tok:List Nat}{c:Nat}{r:List Nat}{ln:Int}(h:tok.length+1<=ag):CY U 1 3 (gS v it tok (some (.str [c])) r ln)=some (gS v it (tok++[c]) (some (.str [c])) r ln, .next):=by
 refine(?_:(ou U .Add 1 (.var 3) _).bind _=_)
 rw[S2 (a:=tok) (b:=[c]) rfl rfl h];rfl
theorem zM{f h:Den}{g g₁:Sg}(e:f g=some (g₁, .next)):zZ f h g=h g₁:=by unfold zZ;rw[e];rfl
theorem yU{f h:Den}{g g₁:Sg}{p:PV}(e:f g=some (g₁, .ret p)):zZ f h g=some (g₁, .ret p):=by unfold zZ;rw[e];rfl
theorem zU6{f h:Den}{g g₁:Sg}(e:f g=some (g₁, .cont)):zZ f h g=some (g₁, .cont):=by unfold zZ;rw[e];rfl
theorem S4(b:Bool)(c:Nat)(l:List (Bool×Nat))(r:List Nat):enc ((b,c)::l)++r=(if b then 92 else c)::(if b then c::(enc l++r)else enc l++r):=by
 cases b<;>simp[enc]
theorem zS3(b:Bool){c:Nat}(hc:Nk c)(ln:Int):nl (if b then 92 else c) ln=ln:=by
 unfold nl;rw[if_neg];cases b with
 |true=>simp
 |false=>simp only[D8,if_false];rintro rfl;exact absurd hc.1 (by decide)
theorem Nl{out:Bool}{f:Den}{tok:List Nat}{p:Option PV}{cs:List Nat}{ln:Int}:nM out v 2 it 3 f (gS v it tok p cs ln)=gU out v 3 f (cs.length+1) (gS v it tok p cs ln):=by
 refine(?_:(if(it==it)=true then _ else _)=_)
 refine xT (by simp) ?_;rfl
theorem yBg{tok:List Nat}{c:Nat}{r:List Nat}{ln:Int}(hc:jx c=true):qA U 0 1 2 3 v it (gS v it tok (some (.str [c])) r ln)=some (gS v it tok (some (.str [c])) r ln, .cont):=by
 refine zU6 ?_
 exact(kP (t:=true) (uE.trans (by rw[hc]))).trans rfl
noncomputable def jS:List Nat->Int->Int
 |[],ln=>ln
 |c::r,ln=>jS r (nl c ln)
theorem Nm{rest:List Nat}{n:Nat}:∀(pre:List Nat) (p:Option PV) (ln:Int),pre.all jx=true->∃p',gU true v 3 (qA U 0 1 2 3 v it) (pre.length+n) (gS v it [] p (pre++rest) ln)=gU true v 3 (qA U 0 1 2 3 v it) n (gS v it [] p' rest (jS pre ln))
 |[],p,ln,_=>⟨p,by rw[F4,Cp];rfl⟩
 |c::r,p,ln,h=>by
  simp only[Lj,Az]at h
  obtain⟨p',e⟩:=Nm r (some (.str [c])) (nl c ln) h.2
  refine cu p' ?_
  rw[show(c::r).length+n=(r.length+n)+1 by simp;exact I3 _ _ _,B9,DQ,yBg h.1]
  exact e
theorem zXd{cs:List Nat}{ln:Int}{p':Option PV}{b':aj}{r:List Nat}{tok:List Nat}
  (h:gU true v 3 (qA U 0 1 2 3 v it) (cs.length+1) (gS v it [] none cs ln)=some (⟨[some (.obj v),some (.str tok),some (.obj it),p'],some (v,b')⟩, .ret (.str r))):
  Mt U v it (gS v it [] none cs ln)=some (⟨[some (.obj v),some (.str tok),some (.obj it),p'],some (v,b')⟩, .ret (.str r)):=by
 refine yU ?_
 rw[Nl];exact h
end
section
variable{U:Uc}
theorem zSf{pre:List Nat}{ln:Int}(hp:pre.all jx=true):jP U ⟨pre,ln,[]⟩ ⟨[],jS pre ln,[]⟩ []:=fun v=>by
 refine .inr ⟨rfl,fun it=>?_⟩
 refine aH (Nm (U:=U) (v:=v) (it:=it) (rest:=[]) (n:=1) pre none ln hp) fun mP fK=>?_
 rw[Bx]at fK
 refine cu ([some (.obj v),some (.str []),some (.obj it),mP]) ?_
 have eZ:nM true v 2 it 3 (qA U 0 1 2 3 v it) (gS v it [] none pre ln)=some (gS v it [] mP [] (jS pre ln), .next):=by
  rw[Nl,fK]
  refine(?_:(if(v==v)=true then _ else _)=_)
  refine xT (by simp) ?_;rfl
 exact(zM eZ).trans rfl
noncomputable def kS(U:Uc)(b:aj):Option (aj×List Nat):=open Classical in if h:∃q:aj×List Nat,jP U b q.1 q.2 then some (choose h)else none
theorem zW0{b b':aj}{r:List Nat}(h:kS U b=some (b',r)):jP U b b' r:=by
 unfold kS at h
 split at h
 ·next h'=>
  have:=Ko h'
  rw[Aa h]at this
  exact this
 ·exact nn h
theorem zQ4{b yk yl:aj}{az aY:List Nat}(ah:jP U b yk az)(ai:jP U b yl aY):yk=yl/\az=aY:=by
 rcases ah .none with ah|⟨mQ,ah⟩
 ·rcases ai .none with ai|⟨jT,ai⟩
  ·rw[ah]at ai
   simp only[Mf,Prod.mk.injEq,Sg.mk.injEq,Fl.ret.injEq,PV.str.injEq,true_and]at ai
   exact ai
  ·exfalso
   have:um 0 ⟨[some (.obj .none),none,none,none],some (H0,b)⟩=some (⟨[some (.obj .none),none,none,none],some (H0,b)⟩, .next):=by
    obtain⟨a,c,d⟩:=b
    have jT:d=[]:=jT
    subst jT;rfl
   rw[this]at ah;cases ah
 ·rcases ai .none with ai|⟨jT,ai⟩
  ·exfalso
   have:um 0 ⟨[some (.obj .none),none,none,none],some (H0,b)⟩=some (⟨[some (.obj .none),none,none,none],some (H0,b)⟩, .next):=by
    obtain⟨a,c,d⟩:=b
    have mQ:d=[]:=mQ
    subst mQ;rfl
   rw[this]at ai;cases ai
  ·refine aH (ah .none) fun cg fK=>?_
   refine aH (ai .none) fun fO eZ=>?_
   rw[fK]at eZ
   simp only[Mf,Prod.mk.injEq,Sg.mk.injEq,Fl.ret.injEq,PV.str.injEq,true_and]at eZ
   exact bZ eZ.1.2 eZ.2
theorem S5{b b':aj}{r:List Nat}(h:jP U b b' r):kS U b=some (b',r):=by
 unfold kS
 have h':∃q:aj×List Nat,jP U b q.1 q.2:=⟨(b',r),h⟩
 rw[dif_pos h']
 refine aq (zQ4 (Ko h') h) fun e1 e2=>?_
 exact congrArg some (Prod.ext e1 e2)
end
noncomputable def lN(U:Uc)(elt:PE)(σ:List (Option PV))(it:List PV):Option (Option PV):=(ev U elt (σ++it.map some)).bind fun y=>if y.ba then some (some y)else none
noncomputable def pD(l1 l2:List Nat):List (List PV):=l1.flatMap fun a=>l2.map fun b=> [PV.str [a],PV.str [b]]
theorem Nn{f:List PV->Option (Option PV)}:∀{a b:List (List PV)} {ps:List PV},zQ f (a++b)=some ps->∃p q,zQ f a=some p/\zQ f b=some q/\ps=p++q
 |[],b,ps,h=>⟨[],ps,rfl,h,rfl⟩
 |x::a,b,ps,h=>by
  rw[B9]at h
  unfold zQ at h
  split at h
  ·next y e=>
   obtain⟨r,e1,rfl⟩:=dk h
   obtain⟨p,q,e2,e3,rfl⟩:=Nn e1
   refine⟨y::p,q,?_,e3,rfl⟩
   unfold zQ
   rw[e]
   dsimp only
   rw[e2];rfl
  ·next e=>
   obtain⟨p,q,e2,e3,rfl⟩:=Nn h
   refine⟨p,q,?_,e3,rfl⟩
   unfold zQ
   rw[e]
   exact e2
  ·cases h
section
variable{prog:Program}{w:Co}{A:Am}{R:D6->Ab->Prop}{s:Ab}
noncomputable abbrev ib(elt it1:Expr)(x y:Str)(px py:B0)(s2:Str)(k2:Nat)(q2:B0)(scope:Scope)(pos:B0):Expr:= .ListComp elt [⟨.Name x px,it1,[],0⟩,⟨.Name y py, .Constant (.str s2) k2 q2,[],0⟩] scope pos
variable{elt it1:Expr}{x y:Str}{px py:B0}{s2:Str}{k2:Nat}{q2:B0}{scope:Scope}{pos:B0}
theorem zI5(it acc:Value)(env:Dy):L9 (ib elt it1 x y px py s2 k2 q2 scope pos) 1 it acc env=(Lc q2>>=fun _=>G0 it>>=fun r=>match r with
  |none=>pure (.done .next)
  |some v=>E4 (.Name y py) it v>>=fun _=>assign (.Name y py) env v>>=fun _=>
   (eval elt env>>=fun x=>call (.builtin "list.append") [acc,x]>>=fun _=>pure ())>>=fun _=>again (.compLoop (ib elt it1 x y px py s2 k2 q2 scope pos) 1 it acc env)):=rfl
theorem zJa(it acc:Value)(env:Dy):L9 (ib elt it1 x y px py s2 k2 q2 scope pos) 0 it acc env=(Lc it1.pos>>=fun _=>G0 it>>=fun r=>match r with
  |none=>pure (.done .next)
  |some v=>E4 (.Name x px) it v>>=fun _=>assign (.Name x px) env v>>=fun _=>
   (eval (.Constant (.str s2) k2 q2) env>>=fun u=>Lc q2>>=fun _=>Ef (.Constant (.str s2) k2 q2) env u>>=fun u=>holding [u] (Hu u)>>=fun it2=>
    runOwn (.compStart (ib elt it1 x y px py s2 k2 q2 scope pos) 1 it2 acc env) env>>=fun _=>again (.compLoop (ib elt it1 x y px py s2 k2 q2 scope pos) 0 it acc env))):=rfl
theorem zH1{it acc:Value}{env:Dy}
  (h0:Ca (Af prog w) A (.compLoop (ib elt it1 x y px py s2 k2 q2 scope pos) 1 it acc env) R s)
  (h:Al (Af prog w) A (Hu it) (fun Np s'=>Ca (Af prog w) A (.compLoop (ib elt it1 x y px py s2 k2 q2 scope pos) 1 Np acc env) R s')
   (Fy (Af prog w) A env fun x s'=>R (.error x) s') s):
  Ca (Af prog w) A (.compStart (ib elt it1 x y px py s2 k2 q2 scope pos) 1 it acc env) R s:=by
 refine codeAny_of_tree ?_
 show Al _ _ ((compStart (ib elt it1 x y px py s2 k2 q2 scope pos) 1 it acc env).onRaise (fun x=>do Hv x env;Lc theWindowsPlace)) _ _ s
 refine wpAny_notedAt ?_
 unfold compStart
 show Al _ _ (ask>>=_) _ _ s
 refine Ac (wpAny_askSetting (wpAny_ite ?_))
 split
 ·first
   |exact Ac (Ak (Ak (Jw rfl h0)))
   |exact Ak (Jw rfl h0)
 ·first
   |exact Ac (G3 (Ac (Cm (Ac (Bu h (fun Np s' h'=>Ak (Jw rfl h')) fun _ _ x=>x)))))
   |(refine Ac (G3 ?_);show Al _ _ (Lc q2>>=_) _ _ s;exact Ac (Cm (Ac (Bu h (fun Np s' h'=>Ak (Jw rfl h')) fun _ _ x=>x))))
end
section
variable{W:bx}{C:Cx}
theorem dH.bind{prog:Program}{w:Co}{A:Am}{target:Expr}{xs:List Str}{I:Addr}{fp wr:List Addr}{its:List (List PV)}{St:Nat->Ap->Prop}(T:dH prog w A target xs I fp wr its St){i:Nat}{it:List PV}{s:Ab}{env:Dy}{E:Value->Ab->Prop}{dn cont:Ks Fin}{sR:Fin->Ab->Prop}
  (hi:its[i]?=some it) (st:St i s.heap) (h:∀vs ns h' tk,ao h' it vs ns->(∀a∈ns,a∈fp)->it.length=xs.length->St (i+1) h'->(∀b o,b∉wr->s.heap.get? b=some o->h'.get? b=some o)->
   ri prog w A env E (fun s₂=>Al (Af prog w) A cont sR E s₂) (xs.zip vs) {s with heap:=h',toks:=tk}):
  Al (Af prog w) A (G0 (.ref I)) (fun r aa=>Al (Af prog w) A (match r with
   |none=>dn
   |some v=>E4 target (.ref I) v>>=fun _=>assign target env v>>=fun _=>cont) sR E aa) E s:=by
 refine Bu (T.item i it s env (fun s₂=>Al (Af prog w) A cont sR E s₂) E hi st h) (fun r aa ah=>?_) fun _ _ h=>h
 obtain⟨v,rfl,ah⟩:=ah
 exact Ac (Bu ah (fun _ s₂ ai=>Ac ai) fun _ _ h=>h)
structure ym(s₀:Ab)(D L:Addr)(x:Str)(vx:Option Value)(qs:List PV)(ys:List Value)(ah:Ap)(wr:List Addr)(s:Ab):Prop where
 k:KG s₀ s
 pl:s.heap.PlainList D ys.toArray
 vs:ao s.heap qs ys []
 ns:∃m,s.heap.Ns L m/\(∀v,vx=some v->m x=some v)
 kp:∀b o,b≠D->b≠L->b∉wr->ah.get? b=some o->s.heap.get? b=some o
theorem iN{n i:Nat}(h:i<n):n+1-(i+1)<n+1-i:=Nat.sub_lt_sub_left (Jf h) (Bk i)
theorem zSv{U:Uc}{pe:PE}{σ:List (Option PV)}{it:List PV}{r:List (List PV)}{rest:List PV}(h:zQ (lN U pe σ) (it::r)=some rest):∃yv iO,ev U pe (σ++it.map some)=some yv/\yv.ba=true/\zQ (lN U pe σ) r=some iO/\rest=yv::iO:=by
 unfold zQ at h
 split at h
 ·next yv e1=>
  obtain⟨r',e2,e3⟩:=dk h
  obtain⟨z,e4,e5⟩:=wG e1
  refine oI e5 fun hi e5=>?_
  obtain rfl:=Aa (Aa e5)
  exact⟨_,r',e4,hi,e2,e3.symm⟩
 ·next e1=>
  obtain⟨z,e4,e5⟩:=wG e1
  exact oI e5 fun _ e5=>nomatch e5
 ·exact nn h
theorem zSa{elt it1:Expr}{x y:Str}{px py:B0}{s2:Str}{k2:Nat}{q2:B0}{scope:Scope}{pos:B0}{pe:PE}{env:Dy}{A:Am}{σ:List (Option PV)}{s₀ s:Ab}{cl:List (Str×Addr)}
  {I D L:Addr} {fp wr:List Addr} {l2:List Nat} {St:Nat->Ap->Prop} {a:Nat} {ta:Js} {qs ps:List PV} {ys:List Value} {R:D6->Ab->Prop}
  (bj:kx C scope [x,y]=true) (P:Pre W C env A σ s₀) (dh:∀x c,env.cells.lookup x=some c->(x,Ce)∈scope.names->cl.lookup x=some c)
  (bw:av W (C.et scope [x,y]) elt pe) (sV:x≠y) (T:dH W.prog W.w A (.Name y py) [y] I fp wr (l2.map fun c=> [PV.str [c]]) St) (st:St 0 s.heap)
  (hD:D≠L) (hDs:s₀.heap.get? D=none) (hLs:s₀.heap.get? L=none) (S6:∀b∈wr,s₀.heap.get? b=none) (yn:D∉fp) (uF:L∉fp)
  (t:ym s₀ D L x (some (.str ⟨#[a]⟩ ta)) qs ys s.heap wr s) (run:zQ (lN W.U pe σ) (l2.map fun b=> [PV.str [a],PV.str [b]])=some ps) (hsz:qs.length+ps.length<=ag)
  (hR:∀s' vs,ym s₀ D L x (some (.str ⟨#[a]⟩ ta)) (qs++ps) vs s.heap wr s'->R (.ok .next) s'):
  Ca (Af W.prog W.w) A (.compLoop (ib elt it1 x y px py s2 k2 q2 scope pos) 1 (.ref I) (.ref D) (B8 scope cl L env)) R s:=by
 have aV:scope.kind= .function:=eq_of_beq (bA (bA (bA (bA bj).1).1).1).1
 have IZ:(B8 scope cl L env).kindOf y=some .local:=Gf (eq_of_beq (Ao.mp (bA (bA (bA bj).1).1).2 y (.tail _ (.head _))))
 have yo:L∉wr:=fun h=>uF (T.sub _ h)
 have yp:D∉wr:=fun h=>yn (T.sub _ h)
 refine codeAny_loop rfl (fun n s'=>∃i iP jy rest,n=l2.length+1-i/\i<=l2.length/\St i s'.heap/\ym s₀ D L x (some (.str ⟨#[a]⟩ ta)) iP jy s.heap wr s'/\zQ (lN W.U pe σ) ((l2.drop i).map fun b=> [PV.str [a],PV.str [b]])=some rest/\qs++ps=iP++rest)
  (fun n s' hI=>?_) (l2.length+1) ⟨0,qs,ys,ps,rfl,C2 _,st,t,run,rfl⟩
 show Al _ A ((L9 (ib elt it1 x y px py s2 k2 q2 scope pos) 1 (.ref I) (.ref D) (B8 scope cl L env)).onRaise (fun x=>do Hv x (B8 scope cl L env);E5 x)) _ _ s'
 refine Ky ?_
 rw[zI5]
 refine u4 hI fun i iP jy rest Nq hi i8 t' eK g8=>?_
 subst Nq
 refine Ac (Cm (Ac ?_))
 by_cases aX:i<l2.length
 ·have dN:l2.drop i=l2[i]::l2.drop (i+1):=A5 aX
  rw[dN,Dp]at eK
  refine T.bind (by rw[Bj,Aw aX];rfl) i8 fun us ms ai bU gb fv hlen cD aD=>?_
  refine aB t'.ns fun m' hn oW=>?_
  refine aH (tJ gb.length) fun u yr=>?_
  subst yr
  have gV:∀b o,s₀.heap.get? b=some o->b≠D/\b≠L/\b∉wr:=fun b o e=>⟨fun q=>nn ((q▸hDs).symm.trans e),fun q=>nn ((q▸hLs).symm.trans e),fun hb=>nn ((S6 b hb).symm.trans e)⟩
  refine BH (by simp[B8,Fg,aV]) [y] [u] _ _ rfl rfl (fun z hz=>by rw[Ae.mp hz];exact IZ) (hn.at' fun o e=>aD _ o yo e) fun au dw gf dz bF gw qJ=>?_
  replace bF:Cd L ai au:=bF
  have gW:gf x=some (.str ⟨#[a]⟩ ta):=by rw[qJ x (by simpa using sV)];exact oW _ rfl
  have bh:KG s₀ {s' with heap:=au,toks:=dw}:=lz t'.k _ _ fun b o e=>bF b o (gV b o e).2.1 (aD b o (gV b o e).2.2 (zV t'.k b o e))
  have gx:St (i+1) au:=T.frame _ _ _ cD fun b hb o e=>bF b o (fun q=>uF (q▸hb)) e
  have gX:au.PlainList D jy.toArray:=t'.pl.at fun o e=>bF D o hD (aD D o yp e)
  have jz:ao au iP jy []:=t'.vs.on fun a ha=>nomatch ha
  refine da (gb.get (i:=0) rfl) fun vv nv ro rq _=>?_
  obtain rfl:=Aa ro
  have l4:=Pn (L:=L) (m:=gf) (it:=[PV.str [a],PV.str [l2[i]]]) (vs:=[.str ⟨#[a]⟩ ta,u]) bj P bh dh dz (.cons gW gw) (ao.cons (VR.str [a] ta) (ao.one (rq.bP rfl))) rfl
  refine u1 (zSv eK) fun yv iO e1 e2 e3 Nr=>?_
  subst Nr
  refine Ac (Ac (zE (bw _ A _ _ _ yv l4 e1) fun v cN dQ=>?_))
  obtain⟨eX,ls,fZ,_⟩:=dQ
  obtain rfl:=fZ.aC e2
  have up:Sub au cN.heap:=zV eX
  have t8:jy.length<=ag:=by
   have h1:=t'.vs.length
   have h2:qs.length+ps.length=iP.length+(yv::iO).length:=by rw[<-Ah,<-Ah,g8]
   rw[h1]
   simp only[Cg]at h2
   omega
  refine Ac (Fi (hsz:=by unfold ag at t8;rw[Bo];simp;omega) (gX.at fun o e=>up D o e) fun eE fy dy=>Ak ?_)
  refine Ak ⟨rfl,l2.length+1-(i+1),iN aX,i+1,iP++[yv],jy++[v],iO,rfl,aX,?_,⟨?_,?_,?_,?_,?_⟩,e3,by rw[g8];simp⟩
  ·exact T.frame _ _ _ gx fun b hb o e=>dy.extBut b o (fun q=>yn (q▸hb)) (up b o e)
  ·obtain⟨h',t',g',rfl,kk,x⟩:=zI bh eX
   exact⟨eE,t',g',rfl,fun b o e=>dy.extBut b o (gV b o e).1 (kk b o e),x⟩
  ·simpa using fy
  ·have r6:VR eE yv v []:=fZ.on fun a ha=>nomatch ha
   have:=ao.append (jz.on (h':=eE) fun a ha=>nomatch ha) (ao.one r6)
   simpa using this
  ·exact⟨gf,(dz.keeps up).sameBut dy (Hj hD),fun v e=>Aa e▸gW⟩
  ·intro b o ug sQ S7 e
   exact dy.extBut b o ug (up b o (bF b o sQ (aD b o S7 (t'.kp b o ug sQ S7 e))))
 ·have jM:i=l2.length:=Ij hi (Ci aX)
  subst jM
  rw[Hw]at eK
  obtain rfl:=Aa eK
  refine T.done _ _ _ (by rw[An];exact i8) fun ai bU aD=>Ak ?_
  have gV:∀b o,s₀.heap.get? b=some o->b∉wr:=fun b o e hb=>nn ((S6 b hb).symm.trans e)
  refine aB t'.ns fun m' hn oW=>?_
  rw[Bx]at g8
  refine hR _ jy ⟨lz t'.k _ _ fun b o e=>aD b o (gV b o e) (zV t'.k b o e),t'.pl.at fun o e=>aD D o yp e,?_,⟨m',hn.at' fun o e=>aD _ o yo e,oW⟩,fun b o h1 h2 h3 e=>aD b o h3 (t'.kp b o h1 h2 h3 e)⟩
  rw[g8]
  exact t'.vs.on fun a ha=>nomatch ha
theorem zM5(a:Nat)(l1 l2:List Nat):pD (a::l1) l2=(l2.map fun b=> [PV.str [a],PV.str [b]])++pD l1 l2:=rfl
theorem zS8{elt it1:Expr}{x y:Str}{px py:B0}{l1 l2:List Nat}{k2:Nat}{q2:B0}{scope:Scope}{pos:B0}{pe:PE}{env:Dy}{A:Am}{E:Value->Ab->Prop}{σ:List (Option PV)}{s s₂:Ab}{cl:List (Str×Addr)}
  {I:Addr} {fp wr:List Addr} {St:Nat->Ap->Prop} {ps:List PV} {RR:Value->Addr->D6->Ab->Prop}
  (bj:kx C scope [x,y]=true) (P:Pre W C env A σ s) (dh:∀x c,env.cells.lookup x=some c->(x,Ce)∈scope.names->cl.lookup x=some c)
  (bw:av W (C.et scope [x,y]) elt pe) (sV:x≠y)
  (aI:KG s s₂) (eu:∀b∈wr,s.heap.get? b=none) (cV:∀b∈fp,∃o,s₂.heap.get? b=some o) (T:dH W.prog W.w A (.Name x px) [x] I fp wr (l1.map fun c=> [PV.str [c]]) St) (st:St 0 s₂.heap)
  (run:zQ (lN W.U pe σ) (pD l1 l2)=some ps) (hsz:ps.length<=ag)
  (gv:∀D L s' ns m',s.heap.get? L=none->KG s s'->s'.heap.Ns L m'->VR s'.heap (.list ps) (.ref D) ns->wN s.heap ns->L∉ns->RR (.ref D) L (.ok .next) s'):
  Al (Af W.prog W.w) A (Ma []) (fun acc ak=>Al (Af W.prog W.w) A (Gg scope env.globals cl [] env.qual none .none (some env)) (fun bo aU=>
   Ca (Af W.prog W.w) A (.compStart (ib elt it1 x y px py ⟨l2.toArray⟩ k2 q2 scope pos) 0 (.ref I) acc {bo with scope:=Fg scope env}) (RR acc bo.locals) aU) E ak) E s₂:=by
 have aV:scope.kind= .function:=eq_of_beq (bA (bA (bA (bA bj).1).1).1).1
 have aT:∀y∈scope.names,y.2≠ .cell:=fun y hy=>bne_iff_ne.mp (bA (bA (Ao.mp (bA bj).2 y hy)).1).1
 refine Cb (Fb aT (by intro y hy;simp at hy) (fun ah dR dA=>?_) aV)
 dsimp only at dR dA⊢
 generalize Nt:s₂.heap.push {cls:= .type "list",dict:=none,data:= .seq ([]:List Value).toArray}=H2 at dR dA⊢
 have hC:H2.objs.size=s₂.heap.objs.size+1:=by rw[<-Nt,Ez]
 have Nu:s₂.heap.objs.size≠H2.objs.size:=by rw[hC];exact Br (Bk _)
 generalize hD:s₂.heap.objs.size=D at*
 generalize hL:H2.objs.size=L at*
 have new:∀a,D<=a->s₂.heap.get? a=none:=fun a ha=>by
  cases e:s₂.heap.get? a with
  |none=>rfl
  |some o'=>exact absurd (Bm e) (Ew.mpr (hD▸ha))
 have newD:s₂.heap.get? D=none:=new D (Bv _)
 have cx:s₂.heap.get? L=none:=new L (by omega)
 have back:∀a,s₂.heap.get? a=none->s.heap.get? a=none:=fun a ha=>by
  cases e:s.heap.get? a with
  |none=>rfl
  |some o=>exact nn (ha.symm.trans (zV aI a o e))
 have yn:D∉fp:=fun hm=>aH (cV _ hm) fun o e=>nn (newD.symm.trans e)
 have uF:L∉fp:=fun hm=>aH (cV _ hm) fun o e=>nn (cx.symm.trans e)
 have old:∀b o,s₂.heap.get? b=some o->ah.get? b=some o:=fun b o e=>by
  have hb:b≠L:=fun q=>nn ((q▸cx).symm.trans e)
  exact dA.extBut b o hb (Ag _ (Nt▸Ag _ e))
 have wz:H2.get? D=some {cls:= .type "list",dict:=none,data:= .seq ([]:List Value).toArray}:=by rw[<-Nt,<-hD];exact Av _ rfl
 have cq:ah.PlainList D ([]:List Value).toArray:=⟨_,dA.extBut _ _ Nu (Ag _ wz)⟩
 have jc:(B8 scope cl L env).kindOf x=some .local:=Gf (eq_of_beq (Ao.mp (bA (bA (bA bj).1).1).2 x (.head _)))
 have yo:L∉wr:=fun h=>uF (T.sub _ h)
 have yp:D∉wr:=fun h=>yn (T.sub _ h)
 have gV:∀b o,s.heap.get? b=some o->b≠D/\b≠L/\b∉wr:=fun b o e=>⟨fun q=>nn ((q▸back _ newD).symm.trans e),fun q=>nn ((q▸back _ cx).symm.trans e),fun hb=>nn ((eu b hb).symm.trans e)⟩
 have loop:∀ak:Ab,ak={s₂ with heap:=ah,toks:=s₂.toks+([]:List (Str×Value)).length}->
   Ca (Af W.prog W.w) A (.compLoop (ib elt it1 x y px py ⟨l2.toArray⟩ k2 q2 scope pos) 0 (.ref I) (.ref D) (B8 scope cl L env)) (RR (.ref D) L) ak:=by
  rintro ak rfl
  refine codeAny_loop rfl (fun n s'=>∃i iP jy rest,n=l1.length+1-i/\i<=l1.length/\St i s'.heap/\ym s D L x none iP jy s.heap [] s'/\zQ (lN W.U pe σ) (pD (l1.drop i) l2)=some rest/\ps=iP++rest)
   (fun n s' hI=>?_) (l1.length+1) ⟨0,[],[],ps,rfl,C2 _,T.frame _ _ _ st fun b _ o e=>old b o e,⟨lz aI _ _ (fun b o e=>old b o (zV aI b o e)),cq, .nil,⟨_,dR,fun v e=>nomatch e⟩,fun b o _ _ _ e=>old b o (zV aI b o e)⟩,run,rfl⟩
  show Al _ A ((L9 (ib elt it1 x y px py ⟨l2.toArray⟩ k2 q2 scope pos) 0 (.ref I) (.ref D) (B8 scope cl L env)).onRaise (fun x=>do Hv x (B8 scope cl L env);E5 x)) _ _ s'
  refine Ky ?_
  rw[zJa]
  refine u4 hI fun i iP jy rest Nq hi i8 t' eK g8=>?_
  subst Nq
  refine Ac (Cm (Ac ?_))
  by_cases aX:i<l1.length
  ·have dN:l1.drop i=l1[i]::l1.drop (i+1):=A5 aX
   rw[dN,zM5]at eK
   refine da (Nn eK) fun p1 p2 r1 r2 Nr=>?_
   subst Nr
   refine T.bind (by rw[Bj,Aw aX];rfl) i8 fun us ms ai bU gb fv hlen cD aD=>?_
   refine aB t'.ns fun m' hn oW=>?_
   refine aH (tJ gb.length) fun u yr=>?_
   subst yr
   refine BH (by simp[B8,Fg,aV]) [x] [u] _ _ rfl rfl (fun z hz=>by rw[Ae.mp hz];exact jc) (hn.at' fun o e=>aD _ o yo e) fun au dw gf dz bF gw qJ=>?_
   replace bF:Cd L ai au:=bF
   have bh:KG s {s' with heap:=au,toks:=dw}:=lz t'.k _ _ fun b o e=>bF b o (gV b o e).2.1 (aD b o (gV b o e).2.2 (zV t'.k b o e))
   have gx:St (i+1) au:=T.frame _ _ _ cD fun b hb o e=>bF b o (fun q=>uF (q▸hb)) e
   have gX:au.PlainList D jy.toArray:=t'.pl.at fun o e=>bF D o Nu (aD D o yp e)
   have jz:ao au iP jy []:=t'.vs.on fun a ha=>nomatch ha
   refine da (gb.get (i:=0) rfl) fun vv nv ro rq _=>?_
   obtain rfl:=Aa ro
   refine aB rq.inv fun tu yr _=>?_
   subst yr
   have gW:=gw.get (j:=0) rfl rfl
   refine Ac (Dt (Ac (Cm (Ac (B5 (wW rfl _ _) (Ac (Ea ?_)))))))
   refine zE (BM (W:=W) (x:=y) (px:=py) (A:=A) (s:={s' with heap:=au,toks:=dw}) (l:=l2) P.room.hh (wZ _ _) (.str l2 _)) fun itv aU aW=>?_
   obtain⟨I2,fp2,wr2,St2,rfl,cn,yt,aac,T2,S8,yu⟩:=aW
   have up:Sub au aU.heap:=zV cn
   have hDe:∃o,au.get? D=some o:=let⟨n,e⟩:=gX;⟨_,e⟩
   have hLe:∃o,au.get? L=some o:=let⟨o,_,_,e,_⟩:=dz;⟨o,e⟩
   have inner:=zSa (elt:=elt) (it1:=it1) (px:=px) (k2:=k2) (q2:=q2) (pos:=pos) (s2:=⟨l2.toArray⟩) (R:=fun r s'=>match r with
     | .ok f=>Al (Af W.prog W.w) A (again (.compLoop (ib elt it1 x y px py ⟨l2.toArray⟩ k2 q2 scope pos) 0 (.ref I) (.ref D) (B8 scope cl L env))) (fun fin s'=>match fin with
      | .done f=>RR (.ref D) L (.ok f) s'
      | .again c'=>c'= .compLoop (ib elt it1 x y px py ⟨l2.toArray⟩ k2 q2 scope pos) 0 (.ref I) (.ref D) (B8 scope cl L env)/\∃m,m<l1.length+1-i/\∃i iP jy rest,m=l1.length+1-i/\i<=l1.length/\St i s'.heap/\ym s D L x none iP jy s.heap [] s'/\zQ (lN W.U pe σ) (pD (l1.drop i) l2)=some rest/\ps=iP++rest)
      (Fy (Af W.prog W.w) A (B8 scope cl L env) fun e s'=>RR (.ref D) L (.error e) s') s'
     | .error e=>cameBackBy (Af W.prog W.w) A (B8 scope cl L env) (Fy (Af W.prog W.w) A (B8 scope cl L env) fun e s'=>RR (.ref D) L (.error e) s') e s')
    (ys:=jy) (qs:=iP) (ps:=p1) bj P dh bw sV T2 S8 Nu (back _ newD) (back _ cx) (fun b hb=>by
     cases e:s.heap.get? b with
     |none=>rfl
     |some o=>exact nn ((yt b hb).symm.trans (zV bh b o e))) (fun hm=>aH hDe fun o e=>nn ((yu _ hm).symm.trans e)) (fun hm=>aH hLe fun o e=>nn ((yu _ hm).symm.trans e))
    ⟨zI bh cn,gX.at fun o e=>up D o e,jz.on (fun a ha=>nomatch ha),⟨gf,dz.keeps up,fun v e=>Aa e▸gW⟩,fun b o _ _ _ e=>e⟩ r1 (by
     have h2:ps.length=iP.length+(p1++p2).length:=by rw[g8,Ah]
     rw[Ah]at h2
     omega) ?_
   ·exact Ac (wpAny_runOwn (zH1 inner (T2.self 0 _ _ _ S8 inner)))
   ·intro cN vs kT
    refine Ak ⟨rfl,l1.length+1-(i+1),iN aX,i+1,iP++p1,vs,p2,rfl,aX,?_,⟨kT.k,kT.pl,kT.vs,?_,fun b o h1 h2 h3 e=>zV kT.k b o e⟩,r2,by rw[g8,Bf]⟩
    ·exact T.frame _ _ _ gx fun b hb o e=>kT.kp b o (fun q=>yn (q▸hb)) (fun q=>uF (q▸hb)) (fun hw=>nn ((yt b hw).symm.trans e)) (up b o e)
    ·exact aB kT.ns fun m h1 _=>⟨m,h1,fun v e=>nomatch e⟩
  ·have jM:i=l1.length:=Ij hi (Ci aX)
   subst jM
   rw[Hw]at eK
   obtain rfl:=Aa eK
   refine T.done _ _ _ (by rw[An];exact i8) fun ai bU aD=>Ak ?_
   refine aB t'.ns fun m' hn oW=>?_
   rw[Bx]at g8
   subst g8
   have jJ:=hn.at' fun o e=>aD _ o yo e
   have aY:VR ai (.list ps) (.ref D) [D]:= .list (t'.pl.at fun o e=>aD D o yp e) (t'.vs.on fun a ha=>nomatch ha)
   refine gv D L _ [D] m' (back _ cx) (lz t'.k _ _ fun b o e=>aD b o (gV b o e).2.2 (zV t'.k b o e)) jJ aY ⟨by simp,fun a ha=>?_⟩ (aY.jd jJ)
   rw[Ae.mp ha]
   exact back _ newD
 exact Hg (loop _ rfl) (T.self 0 _ _ _ (T.frame _ _ _ st fun b _ o e=>old b o e) (loop _ rfl))
theorem zWf{elt:Expr}{x y:Str}{px py:B0}{l1 l2:List Nat}{k1 k2:Nat}{q1 q2:B0}{scope:Scope}{pos:B0}{pe:PE}(bj:kx C scope [x,y]=true)(sV:x≠y)(bw:av W (C.et scope [x,y]) elt pe)
  {env:Dy} {A:Am} {E:Value->Ab->Prop} {s:Ab} {σ:List (Option PV)} {ps:List PV} (P:Pre W C env A σ s) (run:zQ (lN W.U pe σ) (pD l1 l2)=some ps) (hsz:ps.length<=ag):
  Al (Af W.prog W.w) A (eval (ib elt (.Constant (.str ⟨l1.toArray⟩) k1 q1) x y px py ⟨l2.toArray⟩ k2 q2 scope pos) env) (Got s true (.list ps)) E s:=by
 obtain⟨aV,cP,lu⟩:=HI (C:=C) (scope:=scope) (xs:=[x,y]) (by unfold oo;rw[bj];rfl)
 obtain⟨cl,fC,dh⟩:=BG (scope:=scope) (env:=env) fun y hy hf=>by
  rcases lu y hy hf with e|e
  ·exact P.eP _ _ e (.inl rfl)
  ·exact P.eP _ _ e (.inr rfl)
 rw[Ll]
 refine Fd (use:=none) rfl (fun u=>wW rfl env u) fC aV cP (Dt (k:=k1) (pos:=q1) (zE (BM (W:=W) (x:=x) (px:=px) (s:=s) (l:=l1) P.room.hh (wZ s _) (.str l1 _)) fun it s₂ ai=>?_))
 obtain⟨I,fp,wr,St,rfl,aI,eu,cV,T,st,_⟩:=ai
 refine zS8 (RR:=fun acc L=>compPost (Af W.prog W.w) A E none (Got s true (.list ps)) acc L) bj P dh bw sV aI eu cV T st run hsz ?_
 intro D L s' ns m' hL k hn r hf rt
 refine⟨m',hn,fun h' dq=>?_⟩
 have kk:KG s {s' with heap:=h'}:=by
  obtain⟨h0,t0,g0,rfl,kk,x⟩:=k
  exact⟨h',t0,g0,rfl,fun b o e=>dq.extBut b o (by rintro rfl;rw[hL]at e;cases e) (kk b o e),x⟩
 exact⟨kk,ns,r.on fun a ha o e=>dq.extBut a o (fun q=>rt (q▸ha)) e,fun _=>hf⟩
noncomputable def S9(U:Uc)(pe:PE)(l1 l2:List Nat):dC:=fun g=>(zQ (lN U pe g.σ) (pD l1 l2)).bind fun ps=>if ps.length<=ag then some (g, .list ps)else none
theorem dm.two{X:Ctx}{tv dv:List Nat}{elt:Expr}{x y:Str}{px py:B0}{l1 l2:List Nat}{k1 k2:Nat}{q1 q2:B0}{scope:Scope}{pos:B0}{pe:PE}(bj:kx X.C scope [x,y]=true)(sV:x≠y)(bw:av X.W (X.C.et scope [x,y]) elt pe):
  dm X tv dv true (ib elt (.Constant (.str ⟨l1.toArray⟩) k1 q1) x y px py ⟨l2.toArray⟩ k2 q2 scope pos) (S9 X.W.U pe l1 l2):=fun K env A E s₀ g N F s g' p T e=>by
 obtain⟨ps,e1,e2⟩:=wG e
 split at e2
 ·next hsz=>
  cases e2
  refine zE (zWf bj sV bw T.pre e1 hsz) fun v aa ah=>?_
  obtain⟨k,ns,r,f⟩:=ah
  exact⟨N,F,ns,T.kg k,r,T.held (f rfl)⟩
 ·cases e2
noncomputable def DT(U:Uc)(pe:PE):dC:=fun g=>(ev U pe g.σ).bind fun p=>if fresh pe p then some (g, .list [p])else none
theorem dm.nest{X:Ctx}{tv dv:List Nat}{a:Expr}{pe:PE}{pos:B0}(cb:yT a=true)(h:av X.W X.C a pe):dm X tv dv true (.List [a] pos) (DT X.W.U pe):=fun K env A E s₀ g N F s g' p T e=>by
 obtain⟨q,e1,e2⟩:=wG e
 split at e2
 ·next hf=>
  cases e2
  refine List_ ?_
  rw[zF cb [] env]
  refine A8 (zE (h env A E s g.σ q T.pre e1) fun v aa ah=>B4 ?_)
  obtain⟨k,ns,r,f⟩:=ah
  have f:=f hf
  refine Cb ?_ (by show 1<=sizeLine;rw[Bo];decide)
  refine⟨N,F,aa.heap.objs.size::ns,(T.kg k).kg (pT _ _ _),?_,T.held ⟨Cs.mpr ⟨fun hm=>?_,f.nodup⟩,fun a ha=>?_⟩⟩
  ·have:=VR.gr (ao.one r)
   exact this
  ·obtain⟨o,e⟩:=r.bV _ hm
   rw[GU]at e;cases e
  ·rcases Ay.mp ha with rfl|ha
   ·exact ny (zV k) (GU _)
   ·exact f.new a ha
 ·cases e2
end
noncomputable abbrev PB:Program:=PySem.Challenge.pw_uc0011_02
noncomputable def bq:Tab:=[("len", .bi 0),("sum", .bi 1),("min", .bi 2),("abs", .bi 4),("range", .ty "range"),("list", .ty "list"),("enumerate", .ty "enumerate"),("zip", .ty "zip"),("_MOVE_COST", .int 2),("_CASE_COST", .int 1),("_MAX_STRING_SIZE", .int 40),
 ("_substitution_cost", .fn 0),("_levenshtein_distance", .fn 1),("_strip_quoted_realnames", .fn 2),("_check_parenthesis", .fn 3),("quotedata", .fn 4),("_law_spelled", .fn 5)]
noncomputable def aF(i:Nat):Cx:=xY (lG PB i) (QC PB i)
noncomputable def DU(p:Program)(i j:Nat):Option Stmt:=(vZ p i).bind fun st=>bG (st.ctorIdx=2) fun h=>Stmt.ClassDef.elim (motive_2:=fun _=>Option Stmt) st h fun _ _ _ b _ _ _ _ _ _ _=>b[j]?
noncomputable def Ta(p:Program)(i j:Nat):List Stmt:=qn (DU p i j) [] fun _ _ b _=>b
noncomputable def qK(p:Program)(i j:Nat):Scope:=qn (DU p i j) default fun _ _ _ s=>s
noncomputable def yw(p:Program)(i j:Nat):Arguments:=qn (DU p i j) ⟨[],[],none,[],[],none,[]⟩ fun _ a _ _=>a
noncomputable def yx(p:Program)(i j:Nat):Str:=qn (DU p i j) "" fun n _ _ _=>n
noncomputable def fe(p:Program)(h:Ap)(a:Addr)(i:Nat):Prop:=lE h a (v7 p i) (v5 p i) (yN p i) (lG p i)
noncomputable def DV(p:Program)(h:Ap)(a:Addr)(i j:Nat)(qual:Str):Prop:=lH h a (yx p i j) qual (yw p i j) (Ta p i j) (qK p i j)
theorem lH.sub{h h':Ap}{a:Addr}{name qual:Str}{params:Arguments}{body:List Stmt}{scope:Scope}(x:lH h a name qual params body scope)(k:Sub h h'):lH h' a name qual params body scope:=by
 obtain⟨o,pm,cd,doc,e1,e2,e3,e4⟩:=x
 exact⟨o,pm,cd,doc,k _ _ e1,e2,e3,e4.keeps k⟩
structure gm(mg mb:Str->Option Value)(h:Ap):Prop where
 g:h.Ns mainGlobals mg
 b:h.Ns builtinsNs mb
 lim:h.NoLimit
 yy:fe PB h 125 17
 yz:fe PB h 132 18
 uG:fe PB h 45 3
 y0:fe PB h 52 4
 y6:fe PB h 59 5
 mR:fe PB h 118 12
 mS:fe PB h 139 20
 mT:fe PB h 144 21
 kU:fe PB h 149 22
 cls:fY h 97 96 73 80 87 94
 DW:DV PB h 73 7 0 "_netrclex.__init__"
 y7:DV PB h 80 7 1 "_netrclex._read_char"
 y8:DV PB h 87 7 2 "_netrclex.get_token"
 pE:mM h 106 eB
 pG:mM h 111 cC
 code:∃o fd,h.get? 139=some o/\o.data= .func fd/\fd.code= .ref 138
 hd:Mn h 138 134
 bm:h.BuiltinsAt mg 134
theorem Mn.up{h h':Ap}{c P:Addr}(x:Mn h c P)(k:Sub h h'):Mn h' c P:=by
 obtain⟨o,vs,file,tf,flags,tg,Nv,text,tt,e,r⟩:=x
 exact⟨o,vs,file,tf,flags,tg,Nv,text,tt,k _ _ e,r⟩
theorem gm.sub{mg mb:Str->Option Value}{h h':Ap}(x:gm mg mb h)(k:Sub h h'):gm mg mb h' where
 g:=x.g.keeps k
 b:=x.b.keeps k
 lim:=x.lim.keeps k
 yy:=x.yy.sub k
 yz:=x.yz.sub k
 uG:=x.uG.sub k
 y0:=x.y0.sub k
 y6:=x.y6.sub k
 mR:=x.mR.sub k
 mS:=x.mS.sub k
 mT:=x.mT.sub k
 kU:=x.kU.sub k
 cls:=x.cls.keeps k
 DW:=x.DW.sub k
 y7:=x.y7.sub k
 y8:=x.y8.sub k
 pE:=x.pE.sub k
 pG:=x.pG.sub k
 code:=by obtain⟨o,fd,e,r⟩:=x.code;exact⟨o,fd,k _ _ e,r⟩
 hd:=Mn.up x.hd k
 bm:=by obtain⟨bm,o,e1,e2,e3,e4,e5,r⟩:=x.bm;exact⟨bm,o,e1,e2,e3,e4,k _ _ e5,r⟩
structure jU(mg mb:Str->Option Value):Prop where
 i1:∃t,mg "_MOVE_COST" =some (.int 2 t)
 i2:∃t,mg "_CASE_COST" =some (.int 1 t)
 i3:∃t,mg "_MAX_STRING_SIZE" =some (.int 40 t)
 f0:mg "_substitution_cost" =some (.ref 125)
 f1:mg "_levenshtein_distance" =some (.ref 132)
 f2:mg "_strip_quoted_realnames" =some (.ref 52)
 f3:mg "_check_parenthesis" =some (.ref 59)
 f4:mg "quotedata" =some (.ref 118)
 f5:mg "_iter_escaped_chars" =some (.ref 45)
 f6:mg "_law_lexer" =some (.ref 139)
 f7:mg "_netrclex" =some (.ref 97)
 r1:mg "_twin_re_1" =some (.ref 106)
 r2:mg "_twin_re_2" =some (.ref 111)
 f8:mg "_law_spelled" =some (.ref 144)
 f9:mg "_law_least" =some (.ref 149)
 crlf:∃t,mg "CRLF" =some (.str ⟨#[13,10]⟩ t)
 no:∀x∈(["len", "sum", "min", "abs", "range", "list", "enumerate", "zip", "iter"]:List Str),mg x=none
 y9:mb "len" =some (.builtin (oh 0))
 za:mb "sum" =some (.builtin (oh 1))
 ze:mb "min" =some (.builtin (oh 2))
 zg:mb "abs" =some (.builtin (oh 4))
 mU:mb "range" =some (.type "range")
 mV:mb "list" =some (.type "list")
 mW:mb "enumerate" =some (.type "enumerate")
 zh:mb "zip" =some (.type "zip")
 qL:mb "iter" =some (.builtin "iter")
noncomputable def sW(k:Nat):Addr:=([125,132,52,59,118,144]:List Addr).getD k 0
noncomputable def DX(w:Co){mg mb:Str->Option Value}:bx where
 prog:=PB
 w:=w
 Wd:=gm mg mb
 mono:=fun x k=>x.sub k
 mg:=mg
 mb:=mb
 g:=fun x=>x.g
 b:=fun x=>x.b
 D:=0
 U:=fun _ _=>none
 i6:=sW
 n5:=fun k h _=>by obtain⟨_,_,e⟩:=h;exact nn e
 call:=fun k A s ps vs ns r _ _ _ e=>by exact nn e
noncomputable def bx.add(W:bx)(n:Nat)(f:List PV->Option PV)(Nw:∀{h:Ap},W.Wd h->∃o fd,h.get? (W.i6 n)=some o/\o.data= .func fd)
  (ml:∀(A:Am) (s:Ab) (ps:List PV) (vs:List Value) (ns:List Addr) (r:PV),wO (W.D+1) A->W.Wd s.heap->ao s.heap ps vs ns->f ps=some r->
   Ca (Af W.prog W.w) A (.call (.ref (W.i6 n)) ⟨vs,[]⟩) (fun res s'=>∃v ms,res= .ok (.ret v)/\KG s s'/\VR s'.heap r v ms) s):bx:=
 {W with
  D:=W.D+1
  U:=fun k ps=>if k=n then f ps else W.U k ps
  n5:=fun {h} k hu hw=>by
   refine fT hu fun ps r e=>?_
   by_cases hk:k=n
   ·subst hk;exact Nw hw
   ·simp only[if_neg hk]at e
    exact W.n5 k ⟨ps,r,e⟩ hw
  call:=fun k A s ps vs ns r hr hw hv e=>by
   by_cases hk:k=n
   ·subst hk
    simp only[if_true]at e
    exact ml A s ps vs ns r hr hw hv e
   ·simp only[if_neg hk]at e
    exact W.call k A s ps vs ns r (hr.less rfl) hw hv e}
noncomputable def lO(f:Den)(C:Cx)(n:Nat)(ps:List PV):Option PV:=if ps.length=n then(match f (eI C ps none)with
 |some (_, .ret r)=>some r
 |_=>none)else none
theorem zi{f:Den}{C:Cx}{n:Nat}{ps:List PV}{r:PV}(h:lO f C n ps=some r):ps.length=n/\∃g',f (eI C ps none)=some (g', .ret r):=by
 refine oI h fun hl h=>?_
 refine bZ hl ?_
 cases e:f (eI C ps none)with
 |none=>rw[e]at h;exact nn h
 |some q=>
  rw[e]at h
  obtain⟨g',fl⟩:=q
  cases fl with
  |ret r=>obtain rfl:=Aa h;exact⟨_,rfl⟩
  |_=>exact nn h
noncomputable def fj:t9:=⟨fun _ _ _ _=>False,fun h _=>h,fun h=>h.elim⟩
noncomputable def DY:ey:=(.cons (.ifs (.cmp .Eq (.var 0) (.var 1)) (.cons (.ret (.lit (.int 0))) .nil) .nil) (.cons (.ifs (.cmp .Eq (.me 1 (.var 0) .nil) (.me 1 (.var 1) .nil)) (.cons (.ret (.lit (.int 1))) .nil) .nil) (.cons (.ret (.lit (.int 2))) .nil)))
noncomputable def zj:ey:=(.cons (.ifs (.cmp .Eq (.var 0) (.var 1)) (.cons (.ret (.lit (.int 0))) .nil) .nil) (.cons (.assign 3 (.lit (.int 0))) (.cons (.oJ (.and (.cons (.eO (.bI (.var 0) (.yes (.var 3)) .no .no)) (.cons (.eO (.bI (.var 1) (.yes (.var 3)) .no .no)) (.cons (.cmp .Eq (.idx (.var 0) (.var 3)) (.idx (.var 1) (.var 3))) .nil)))) (.cons (.aug .Add 3 (.lit (.int 1))) .nil)) (.cons (.assign 0 (.bI (.var 0) (.yes (.var 3)) .no .no)) (.cons (.assign 1 (.bI (.var 1) (.yes (.var 3)) .no .no)) (.cons (.assign 4 (.lit (.int 0))) (.cons (.oJ (.and (.cons (.eO (.bI (.var 0) .no (.yes (.gH (.var 4) (.lit .none))) .no)) (.cons (.eO (.bI (.var 1) .no (.yes (.gH (.var 4) (.lit .none))) .no)) (.cons (.cmp .Eq (.idx (.var 0) (.bin .Sub (.var 4) (.lit (.int 1)))) (.idx (.var 1) (.bin .Sub (.var 4) (.lit (.int 1))))) .nil)))) (.cons (.aug .Sub 4 (.lit (.int 1))) .nil)) (.cons (.assign 0 (.bI (.var 0) .no (.yes (.gH (.var 4) (.lit .none))) .no)) (.cons (.assign 1 (.bI (.var 1) .no (.yes (.gH (.var 4) (.lit .none))) .no)) (.cons (.ifs (.or (.cons (.not (.eO (.var 0))) (.cons (.not (.eO (.var 1))) .nil))) (.cons (.ret (.bin .Mult (.lit (.int 2)) (.bin .Add (.bi 0 (.cons (.var 0) .nil)) (.bi 0 (.cons (.var 1) .nil))))) .nil) .nil) (.cons (.ifs (.or (.cons (.cmp .Gt (.bi 0 (.cons (.var 0) .nil)) (.lit (.int 40))) (.cons (.cmp .Gt (.bi 0 (.cons (.var 1) .nil)) (.lit (.int 40))) .nil))) (.cons (.ret (.bin .Add (.var 2) (.lit (.int 1)))) .nil) .nil) (.cons (.ifs (.cmp .Lt (.bi 0 (.cons (.var 1) .nil)) (.bi 0 (.cons (.var 0) .nil))) (.cons (.swap 0 1 (.var 1) (.var 0)) .nil) .nil) (.cons (.ifs (.cmp .Gt (.bin .Mult (.bin .Sub (.bi 0 (.cons (.var 1) .nil)) (.bi 0 (.cons (.var 0) .nil))) (.lit (.int 2))) (.var 2)) (.cons (.ret (.bin .Add (.var 2) (.lit (.int 1)))) .nil) .nil) (.cons (.assign 5 (.bi 5 (.cons (.lit (.int 2)) (.cons (.bin .Mult (.lit (.int 2)) (.bin .Add (.bi 0 (.cons (.var 0) .nil)) (.lit (.int 1)))) (.cons (.lit (.int 2)) .nil))))) (.cons (.assign 6 (.lit (.int 0))) (.cons (.forR 7 (.bi 0 (.cons (.var 1) .nil)) (.cons (.assign 8 (.idx (.var 1) (.var 7))) (.cons (.df 9 6 (.bin .Mult (.var 7) (.lit (.int 2)))) (.cons (.assign 10 (.lit (.int 9223372036854775807))) (.cons (.forR 11 (.bi 0 (.cons (.var 0) .nil)) (.cons (.assign 12 (.bin .Add (.var 9) (.uc 0 (.cons (.var 8) (.cons (.idx (.var 0) (.var 11)) .nil))))) (.cons (.assign 9 (.idx (.var 5) (.var 11))) (.cons (.assign 13 (.bin .Add (.bi 3 (.cons (.var 6) (.cons (.var 9) .nil))) (.lit (.int 2)))) (.cons (.assign 6 (.bi 3 (.cons (.var 13) (.cons (.var 12) .nil)))) (.cons (.set 5 (.var 11) (.var 6)) (.cons (.ifs (.cmp .Lt (.var 6) (.var 10)) (.cons (.assign 10 (.var 6)) .nil) .nil) .nil))))))) (.cons (.ifs (.cmp .Gt (.var 10) (.var 2)) (.cons (.ret (.bin .Add (.var 2) (.lit (.int 1)))) .nil) .nil) .nil)))))) (.cons (.ret (.var 6)) .nil)))))))))))))))))
noncomputable def EA:PS:=(.ifs (.cmp .NotIn (.lit (.str [34])) (.var 0)) (.cons (.ret (.var 0)) .nil) .nil)
noncomputable def EB:PS:=(.assign 1 (.lit (.int 0)))
noncomputable def EC:PS:=(.assign 2 (.lit .none))
noncomputable def ED:PS:=(.assign 3 (.list .nil))
noncomputable def zk:PS:=(.ifs (.cmp .Lt (.var 1) (.bi 0 (.cons (.var 0) .nil))) (.cons (.append 3 (.bI (.var 0) (.yes (.var 1)) .no .no)) .nil) .nil)
noncomputable def EE:PS:=(.ret (.me 0 (.lit (.str [])) (.cons (.var 3) .nil)))
noncomputable def qM:ey:=(.cons (.ifs (.cmp .Eq (.var 5) (.lit (.str [34]))) (.cons (.ifs (.cmp .Is (.var 2) (.lit .none)) (.cons (.assign 2 (.var 4)) .nil) (.cons (.ifs (.cmp .NotEq (.var 1) (.var 2)) (.cons (.append 3 (.bI (.var 0) (.yes (.var 1)) (.yes (.var 2)) .no)) .nil) .nil) (.cons (.assign 1 (.bin .Add (.var 4) (.lit (.int 1)))) (.cons (.assign 2 (.lit .none)) .nil)))) .nil) .nil) .nil)
noncomputable def EF:PS:=(.assign 0 (.uc 2 (.cons (.var 0) .nil)))
noncomputable def EG:PS:=(.assign 1 (.lit (.int 0)))
noncomputable def Nx:PS:=(.ret (.cmp .Eq (.var 1) (.lit (.int 0))))
noncomputable def jA:ey:=(.cons (.ifs (.cmp .Eq (.var 3) (.lit (.str [40]))) (.cons (.aug .Add 1 (.lit (.int 1))) .nil) (.cons (.ifs (.cmp .Eq (.var 3) (.lit (.str [41]))) (.cons (.aug .Sub 1 (.lit (.int 1))) (.cons (.ifs (.cmp .Lt (.var 1) (.lit (.int 0))) (.cons (.ret (.lit (.bool false))) .nil) .nil) .nil)) .nil) .nil)) .nil)
noncomputable def EH:ey:=(.cons (.ret (.me 0 (.lit (.str [])) (.cons (.comp (.ite (.cmp .In (.var 2) (.var 1)) (.bin .Add (.lit (.str [92])) (.var 2)) (.var 2)) (.items (.var 0)) .nil) .nil))) .nil)
noncomputable def Tb(o:Option Stmt):List Stmt:=(o.bind fun st=>bG (st.ctorIdx=9) fun h=>Stmt.For.elim (motive_2:=fun _=>Option (List Stmt)) st h fun _ _ b _ _=>some b).getD []
theorem uH{C:Cx}{tv dv:List Nat}{b:List Stmt}{q:ey}(h:(cB (tab:=bq) C tv dv b).isSome=true)(e:(cB (tab:=bq) C tv dv b).elim .nil (·.1)=q)(X:Ctx)(hX:X.C=C)(ok:cQ X.W bq):zP X tv dv tv dv b (zU X.W.U q):=vY h e X hX ok
theorem yY{C:Cx}{tv dv:List Nat}{st:Stmt}{q:PS}(h:(cS (tab:=bq) (cE 24) C tv dv 12 st).isSome=true)(e:(cS (tab:=bq) (cE 24) C tv dv 12 st).elim .pass (·.1)=q)(X:Ctx)(hX:X.C=C)(ok:cQ X.W bq):zN X tv dv st (den X.W.U q):=vY h e X hX ok
theorem yBc(X:Ctx)(hX:X.C=aF 17)(ok:cQ X.W bq):zP X [] [] [] [] (yN PB 17) (zU X.W.U DY):=uH (by decide+kernel) rfl X hX ok
theorem yAs(X:Ctx)(hX:X.C=aF 18)(ok:cQ X.W bq):zP X [5] [] [5] [] (yN PB 18) (zU X.W.U zj):=uH (by decide+kernel) rfl X hX ok
theorem yBk(X:Ctx)(hX:X.C=aF 21)(ok:cQ X.W bq):zP X [] [] [] [] (yN PB 21) (zU X.W.U EH):=uH (by decide+kernel) rfl X hX ok
theorem zV7(X:Ctx)(hX:X.C=aF 4)(ok:cQ X.W bq):zN X [3] [] ((yN PB 4)[0]) (den X.W.U EA):=yY (by decide+kernel) rfl X hX ok
theorem zWw(X:Ctx)(hX:X.C=aF 4)(ok:cQ X.W bq):zN X [3] [] ((yN PB 4)[1]) (den X.W.U EB):=yY (by decide+kernel) rfl X hX ok
theorem zXa(X:Ctx)(hX:X.C=aF 4)(ok:cQ X.W bq):zN X [3] [] ((yN PB 4)[2]) (den X.W.U EC):=yY (by decide+kernel) rfl X hX ok
theorem zXi(X:Ctx)(hX:X.C=aF 4)(ok:cQ X.W bq):zN X [3] [] ((yN PB 4)[3]) (den X.W.U ED):=yY (by decide+kernel) rfl X hX ok
theorem zYw(X:Ctx)(hX:X.C=aF 4)(ok:cQ X.W bq):zN X [3] [] ((yN PB 4)[5]) (den X.W.U zk):=yY (by decide+kernel) rfl X hX ok
theorem zWi(X:Ctx)(hX:X.C=aF 4)(ok:cQ X.W bq):zN X [3] [] ((yN PB 4)[6]) (den X.W.U EE):=yY (by decide+kernel) rfl X hX ok
theorem zYt(X:Ctx)(hX:X.C=aF 4)(ok:cQ X.W bq):zP X [3] [] [3] [] (Tb ((yN PB 4)[4]?)) (zU X.W.U qM):=uH (by decide+kernel) rfl X hX ok
theorem zX3(X:Ctx)(hX:X.C=aF 5)(ok:cQ X.W bq):zN X [] [] ((yN PB 5)[0]) (den X.W.U EF):=yY (by decide+kernel) rfl X hX ok
theorem zWv(X:Ctx)(hX:X.C=aF 5)(ok:cQ X.W bq):zN X [] [] ((yN PB 5)[1]) (den X.W.U EG):=yY (by decide+kernel) rfl X hX ok
theorem zWl(X:Ctx)(hX:X.C=aF 5)(ok:cQ X.W bq):zN X [] [] ((yN PB 5)[3]) (den X.W.U Nx):=yY (by decide+kernel) rfl X hX ok
theorem zYn(X:Ctx)(hX:X.C=aF 5)(ok:cQ X.W bq):zP X [] [] [] [] (Tb ((yN PB 5)[2]?)) (zU X.W.U jA):=uH (by decide+kernel) rfl X hX ok
theorem mX{W:bx}(G:jU W.mg W.mb)(hf:W.i6=sW):cQ W bq:=fun x k h=>
 have q:∀{n:Nat} {s:Str},W.mg s=some (.ref (sW n))->W.mg s=some (.ref (W.i6 n)):=fun e=>hf▸e
 (show ∀z∈bq,Qo W z.1 z.2 from
  fa (bZ (G.no _ (by decide)) G.y9) (fa (bZ (G.no _ (by decide)) G.za) (fa (bZ (G.no _ (by decide)) G.ze) (fa (bZ (G.no _ (by decide)) G.zg) (fa (bZ (G.no _ (by decide)) G.mU) (fa (bZ (G.no _ (by decide)) G.mV) (fa (bZ (G.no _ (by decide)) G.mW) (fa (bZ (G.no _ (by decide)) G.zh)
  (fa G.i1 (fa G.i2 (fa G.i3 (fa (q G.f0) (fa (q G.f1) (fa (q G.f2) (fa (q G.f3) (fa (q G.f4) (fa (q G.f8) dO))))))))))))))))) (x,k) (zT h)
theorem fe.obj{p:Program}{h:Ap}{a:Addr}{i:Nat}(x:fe p h a i):∃o fd,h.get? a=some o/\o.data= .func fd:=let⟨o,_,_,_,e1,e2,_⟩:=x;⟨o,_,e1,e2⟩
section
variable(w:Co){mg mb:Str->Option Value}(G:jU mg mb)
include G in
theorem yDy:cQ (DX w (mg:=mg) (mb:=mb)) bq:=mX G rfl
noncomputable def W1:bx:=(DX w (mg:=mg) (mb:=mb)).add 0 (lO (zU (fun _ _=>none) DY) (aF 17) 2) (fun {h} x=>fe.obj x.yy) fun A s ps vs ns r hr hw hv e=>by
 obtain⟨hl,g',hd⟩:=zi e
 refine fT (FX (hv.length.trans hl)) fun v1 v2 cz=>?_
 subst cz
 exact ue (tv:=[]) (dv:=[]) (X:=⟨DX w (mg:=mg) (mb:=mb),fj,aF 17⟩) rfl (by decide+kernel) hw.yy hw.lim hr hw (fun pm cd doc=>rfl) hv (by rw[hl];rfl) (fun i hi=>by simp at hi) (yBc _ rfl (yDy w G)) hd
noncomputable def W2:bx:=(W1 w G).add 1 (lO (zU (W1 w G).U zj) (aF 18) 3) (fun {h} x=>fe.obj x.yz) fun A s ps vs ns r hr hw hv e=>by
 obtain⟨hl,g',hd⟩:=zi e
 refine AP (ON (hv.length.trans hl)) fun v1 v2 v3 gJ=>?_
 subst gJ
 exact ue (tv:=[5]) (dv:=[]) (X:=⟨W1 w G,fj,aF 18⟩) rfl (by decide+kernel) hw.yz hw.lim hr hw (fun pm cd doc=>rfl) hv (by rw[hl];rfl) (fun i hi=>by simp at hi;subst hi;decide) (zP.weak (yAs ⟨W1 w G,fj,aF 18⟩ rfl (mX G rfl)) rfl rfl) hd
end
theorem wU{C:Cx}{e:Expr}{q:PE}{r:RE bq C e}(h:r.isSome=true)(k:r.elim (.lit .none) (·.1)=q)(W:bx)(ok:cQ W bq):av W C e q:=vY h k W ok
theorem uI{C:Cx}{e:Expr}{q:PT}{r:RT bq C e}(h:r.isSome=true)(k:r.elim (.eO (.lit .none)) (·.1)=q)(W:bx)(ok:cQ W bq):du W C e q:=vY h k W ok
section
variable{w:Co}{mg mb:Str->Option Value}
set_option maxHeartbeats 1000000 in
theorem Tc{W:bx}(G:jU W.mg W.mb)(hf:W.i6=sW)(hw:∀h,W.Wd h->gm W.mg W.mb h):wi W.prog W.w W.Wd (W.D+1) 45:=by
 have ok:=mX G hf
 refine Yt (X:=⟨W,fj,aF 3⟩) (scope:=lG PB 3) (P:=⟨_,_, "addr",_,_,_,_,_,_,_,_,_,_,_,_,_,_,_,_,_,_,_,_,_,_,_,_,_,_,_,_,_,_,_,_,_,_,_,_⟩) rfl (BS (scope:={lG PB 3 with isGenerator:=false}) (by decide+kernel)) (by rfl) (by rfl) (by rfl) (by rfl) (fun y hy=>?_) (fun y hy=>?_) (by decide+kernel) (fun h hh=>(hw h hh).uG) (fun h hh=>(hw h hh).lim) (fun pm cd doc u=>rfl) ?_
 ·revert y;decide+kernel
 ·revert y;decide+kernel
 ·intro L Ka env hl hs hk wd
  exact
   {gR:=rfl,bI:=rfl,
    nc:=fun x e=>(show ∀y∈(lG PB 3).names,y.2≠ .cell by decide+kernel) _ (zT e) rfl
    nf:=fun x e=>(show ∀y∈(lG PB 3).names,y.2≠ .free by decide+kernel) _ (zT e) rfl
    loc:=hl,co:=by rw[hs];rfl,qo:=hk,wa:=wd
    t1:=uI (r:=cT (cE 24) (aF 3) 5 _) (by decide+kernel) rfl W ok
    t2:=uI (r:=cT (cE 24) (aF 3) 5 _) (by decide+kernel) rfl W ok
    nz:=wU (r:=cE 24 (aF 3) _) (by decide+kernel) rfl W ok
    tY:=wU (r:=cE 24 (aF 3) _) (by decide+kernel) rfl W ok
    nA:=wU (r:=cE 24 (aF 3) _) (by decide+kernel) rfl W ok
    tZ:=wU (r:=cE 24 (aF 3) _) (by decide+kernel) rfl W ok
    s1:=⟨rfl,rfl,rfl,rfl⟩
    QL:=yY (C:=aF 3) (by decide+kernel) rfl _ rfl ok
    QM:=yY (C:=aF 3) (by decide+kernel) rfl _ rfl ok
    hx:=rfl,bad:=by decide+kernel,ke:=rfl
    ge:=G.no _ (by decide),be:=G.mW
    t3:=uI (r:=cT (cE 24) (aF 3) 5 _) (by decide+kernel) rfl W ok
    QU:=wU (r:=cE 24 (aF 3) _) (by decide+kernel) rfl W ok
    QV:=wU (r:=cE 24 (aF 3) _) (by decide+kernel) rfl W ok
    s3:=⟨rfl,rfl⟩
    QW:=yY (C:=aF 3) (by decide+kernel) rfl _ rfl ok
    CI:=yY (C:=aF 3) (by decide+kernel) rfl _ rfl ok}
theorem Td(i:Nat)(h:(lG PB i).names.all (fun y=>y.2 != .free)=true)(x:Str):(aF i).kn.lookup x≠some .free:=BZ (C:=aF i) h x
theorem zP.cs{X:Ctx}{tv dv:List Nat}{st:Stmt}{rest:List Stmt}{f h:Den}(h1:zN X tv dv st f)(h2:zP X tv dv [] [] rest h):zP X tv dv [] [] (st::rest) (zZ f h):=zP.cons h1 h2 (xR _) (xR _) rfl rfl
theorem zP.cd{X:Ctx}{tv dv:List Nat}{b:List Stmt}{i:Nat}{hi:i<b.length}{f h:Den}(h1:zN X tv dv b[i] f)(h2:zP X tv dv [] [] (b.drop (i+1)) h):zP X tv dv [] [] (b.drop i) (zZ f h):=A5 hi▸zP.cs h1 h2
theorem zRu{W:bx}(G:jU W.mg W.mb)(hf:W.i6=sW)(hw:∀h,W.Wd h->gm W.mg W.mb h)(mh:wi W.prog W.w W.Wd W.D 45):
  zP ⟨W,fj,aF 4⟩ [3] [] [] [] (yN PB 4) (zZ (den W.U EA) (zZ (den W.U EB) (zZ (den W.U EC) (zZ (den W.U ED) (zZ (rT W.U (.var 0) [4,5] (zU W.U qM)) (zZ (den W.U zk) (zZ (den W.U EE) aA))))))):=by
 have ok:=mX G hf
 refine zP.cd (b:=yN PB 4) (i:=0) (zV7 ⟨W,fj,aF 4⟩ rfl ok) (zP.cd (zWw ⟨W,fj,aF 4⟩ rfl ok) (zP.cd (zXa ⟨W,fj,aF 4⟩ rfl ok) (zP.cd (zXi ⟨W,fj,aF 4⟩ rfl ok) (zP.cd (hi:=by decide+kernel) ?_ (zP.cd (zYw ⟨W,fj,aF 4⟩ rfl ok) (zP.cd (zWi ⟨W,fj,aF 4⟩ rfl ok)
  (zP.nil rfl rfl)))))))
 exact zN.mf (X:=⟨W,fj,aF 4⟩) (fun _ _ _ _ h=>h) mh (by rfl) G.f5 (by decide+kernel) (fun h hh=>fe.obj (hw h hh).uG) (wU (r:=cE 24 (aF 4) _) (by decide+kernel) rfl W ok) rfl (by rfl) (by rfl) (by decide)
  (zYt ⟨W,fj,aF 4⟩ rfl ok) (Td 4 (by decide+kernel)) (fun h hh=>(hw h hh).lim)
theorem zRp{W:bx}(G:jU W.mg W.mb)(hf:W.i6=sW)(hw:∀h,W.Wd h->gm W.mg W.mb h)(mh:wi W.prog W.w W.Wd W.D 45):
  zP ⟨W,fj,aF 5⟩ [] [] [] [] (yN PB 5) (zZ (den W.U EF) (zZ (den W.U EG) (zZ (rT W.U (.var 0) [2,3] (zU W.U jA)) (zZ (den W.U Nx) aA)))):=by
 have ok:=mX G hf
 refine zP.cd (b:=yN PB 5) (i:=0) (zX3 ⟨W,fj,aF 5⟩ rfl ok) (zP.cd (zWv ⟨W,fj,aF 5⟩ rfl ok) (zP.cd (hi:=by decide+kernel) ?_ (zP.cd (zWl ⟨W,fj,aF 5⟩ rfl ok) (zP.nil rfl rfl))))
 exact zN.mf (X:=⟨W,fj,aF 5⟩) (fun _ _ _ _ h=>h) mh (by rfl) G.f5 (by decide+kernel) (fun h hh=>fe.obj (hw h hh).uG) (wU (r:=cE 24 (aF 5) _) (by decide+kernel) rfl W ok) rfl (by rfl) (by rfl) (by decide)
  (zYn ⟨W,fj,aF 5⟩ rfl ok) (Td 5 (by decide+kernel)) (fun h hh=>(hw h hh).lim)
variable(w:Co)(G:jU mg mb)
noncomputable def EI(U:Uc):Den:=zZ (den U EA) (zZ (den U EB) (zZ (den U EC) (zZ (den U ED) (zZ (rT U (.var 0) [4,5] (zU U qM)) (zZ (den U zk) (zZ (den U EE) aA))))))
noncomputable def EJ(U:Uc):Den:=zZ (den U EF) (zZ (den U EG) (zZ (rT U (.var 0) [2,3] (zU U jA)) (zZ (den U Nx) aA)))
noncomputable def W3:bx:=(W2 w G).add 2 (lO (EI (W2 w G).U) (aF 4) 1) (fun {h} x=>fe.obj x.y0) fun A s ps vs ns r hr hw hv e=>by
 obtain⟨hl,g',hd⟩:=zi e
 refine aH (tJ (hv.length.trans hl)) fun v1 aM=>?_
 subst aM
 exact ue (tv:=[3]) (dv:=[]) (X:=⟨W2 w G,fj,aF 4⟩) rfl (by decide+kernel) hw.y0 hw.lim hr hw (fun pm cd doc=>rfl) hv (by rw[hl];rfl) (fun i hi=>by simp at hi;subst hi;decide) (zRu (W:=W2 w G) G rfl (fun _ x=>x) (Tc (W:=W1 w G) G rfl (fun _ x=>x))) hd
noncomputable def W4:bx:=(W3 w G).add 3 (lO (EJ (W3 w G).U) (aF 5) 1) (fun {h} x=>fe.obj x.y6) fun A s ps vs ns r hr hw hv e=>by
 obtain⟨hl,g',hd⟩:=zi e
 refine aH (tJ (hv.length.trans hl)) fun v1 aM=>?_
 subst aM
 exact ue (tv:=[]) (dv:=[]) (X:=⟨W3 w G,fj,aF 5⟩) rfl (by decide+kernel) hw.y6 hw.lim hr hw (fun pm cd doc=>rfl) hv (by rw[hl];rfl) (fun i hi=>by simp at hi) (zRp (W:=W3 w G) G rfl (fun _ x=>x) (Tc (W:=W2 w G) G rfl (fun _ x=>x))) hd
noncomputable def yBs(ps:List PV):Option PV:=(one ps).bind fun p=>p.dr.bind fun l=>if l.length<=100000 then some (.str (kR l))else none
noncomputable def zZ5:dC:=fun g=>((g.σ[0]?).bind id).bind fun p=>p.dr.bind fun l=>if l.length<=100000 then some (g, .str (kR l))else none
theorem Te{σ:List (Option PV)}{i:Nat}{p:PV}(h:(σ[i]?).bind id=some p):σ[i]?=some (some p):=by
 refine oB h fun o h1 h2=>?_
 rw[h1,show o=some p from h2]
theorem zRk{W:bx}(G:jU W.mg W.mb)(hw:∀h,W.Wd h->gm W.mg W.mb h):zP ⟨W,fj,aF 12⟩ [] [] [] [] (yN PB 12) (zZ (vB zZ5) aA):=by
 refine zP.cs (zN.ret ?_) (zP.nil rfl rfl)
 intro K env A E s₀ g N F s g' p T e
 refine oB e fun q e1 e=>?_
 refine oB e fun l e2 e=>?_
 refine oI e fun hl e=>?_
 refine aq (Bh (Aa e)) fun aG aM=>?_
 subst aG
 subst aM
 have bu:=Te e1
 rw[PV.bO e2]at bu
 refine aH G.crlf fun t ht=>?_
 have hh:=hw _ (T.eG _ T.kept)
 exact zOs (C:=aF 12) (W:=W) T.pre hh.pE hh.pG (by rfl) (by rfl) (by rfl) G.r1 G.r2 ht (by decide+kernel) (by decide+kernel) (by decide+kernel) (by decide+kernel) (by rfl) (by rfl) bu hl (by rfl) (by rfl) fun s' t k=>⟨N,F,[],T.kg k, .str _ _,ew.nil⟩
noncomputable def W5:bx:=(W4 w G).add 4 yBs (fun {h} x=>fe.obj x.mR) fun A s ps vs ns r hr hw hv e=>by
 refine oB e fun q e1 e=>?_
 refine oB e fun l e2 e=>?_
 refine oI e fun hl e=>?_
 obtain rfl:=Aa e
 obtain rfl:=n7 e1
 obtain rfl:=PV.bO e2
 refine aH (tJ hv.length) fun v1 aM=>?_
 subst aM
 refine ue (tv:=[]) (dv:=[]) (X:=⟨W4 w G,fj,aF 12⟩) (g':=⟨[some (.str l)],none⟩) rfl (by decide+kernel) hw.mR hw.lim hr hw (fun pm cd doc=>rfl) hv rfl (fun i hi=>by simp at hi) (zRk (W:=W4 w G) G fun _ x=>x) ?_
 refine(?_:((if l.length<=100000 then some ((⟨[some (.str l)],none⟩:Sg),PV.str (kR l))else none).bind _).bind _=_)
 rw[if_pos hl];rfl
noncomputable def W6:bx:=(W5 w G).add 5 (lO (zU (W5 w G).U EH) (aF 21) 2) (fun {h} x=>fe.obj x.mT) fun A s ps vs ns r hr hw hv e=>by
 obtain⟨hl,g',hd⟩:=zi e
 refine fT (FX (hv.length.trans hl)) fun v1 v2 cz=>?_
 subst cz
 exact ue (tv:=[]) (dv:=[]) (X:=⟨W5 w G,fj,aF 21⟩) rfl (by decide+kernel) hw.mT hw.lim hr hw (fun pm cd doc=>rfl) hv (by rw[hl];rfl) (fun i hi=>by simp at hi) (yBk _ rfl (mX G rfl)) hd
end
noncomputable def rdO(o:Option Stmt):Option bX:=o.bind fun st=>bG (st.ctorIdx=5) fun h=>Ml (motive_2:=fun _=>Option bX) st h fun _ v _=>bG (v.ctorIdx=4) fun h=>Expr.Lambda.elim (motive_1:=fun _=>Option bX) v h fun params b ay _=>
 sC b none fun f as cp=>sA f none fun c _ ap=>bG (c.ctorIdx=19) fun h=>Lz (motive_1:=fun _=>Option bX) c h fun _ jk jp=>kG as none fun a=>sG a none fun elt t it _ aE lp=>sC elt none fun f2 _ gT=>sA f2 none fun o2 _ dX=>sN o2 none fun sg p1=>sN t none fun si px=>sS it none fun b2 sl sp=>sN b2 none fun _ p2=>
 bG (sl.ctorIdx=26) fun h=>Mp (motive_1:=fun _=>Option bX) sl h fun _ hi _ gR=>hi.bind fun z=>sN z none fun sz p3=>some ⟨sg,si,sz,jk,jp,ap,p1,dX,gT,px,p2,p3,gR,sp,lp,cp,aE,ay,params⟩
noncomputable def yDi(o:Option Stmt):bX:=(rdO o).getD ⟨"", "", "",0,default,default,default,default,default,default,default,default,default,default,default,default,default,default,default⟩
noncomputable def gD:bX:=yDi ((yN PB 20)[2]?)
section
variable{mg mb:Str->Option Value}(w:Co)(G:jU mg mb)
noncomputable def cxM(j:Nat):Cx:=xY (qK PB 7 j) ["self"]
theorem Ny{W:bx}(hw:∀h,W.Wd h->gm W.mg W.mb h)(C:Cx)(bC:List Addr):fg gD 97 96 73 80 87 94 ⟨W,wI gD 97 bC,C⟩:=⟨⟨bC,rfl⟩,fun h hh=>(hw h hh).cls,fun h hh=>(hw h hh).lim⟩
theorem zXq{W:bx}(G:jU W.mg W.mb)(hf:W.i6=sW):gD.Ok W:=by
 have ok:=mX G hf
 exact
  {k1:=by rfl,co:=by rfl,gen:=by rfl,n1:=by rfl,k2:=by rfl,l2:=by rfl,f2:=by rfl,c2:=by decide+kernel,bad:=by decide+kernel,ne:=by decide+kernel,line:=by decide+kernel,
   bind:=fun name qual body pm r7 fX cl v=>rfl
   it:=wU (r:=cE 24 ⟨gD.ay.names,[(gD.sg,0),(gD.sz,1)],2⟩ _) (by decide+kernel) rfl W ok}
set_option maxHeartbeats 1000000 in
theorem yA1:mu (W1 w G) gD 97 2 80 sf:=by
 have ok:cQ (W1 w G) bq:=mX G rfl
 refine ZC (W:=W1 w G) (scope:=qK PB 7 1) (params:=yw PB 7 1) (name:=yx PB 7 1) (zs:= "self") (zc:= "ch") (N₀:=96) (fI:=73) (fG:=87) (fP:=94) (fun bC=>Ny (fun h x=>x) _ bC) ⟨DX w (mg:=mg) (mb:=mb),zXq G rfl,rfl,rfl,rfl,fun _ x=>x⟩ (fun h hh=>hh.y7) (by decide+kernel) (by decide+kernel) (by rfl) (by rfl) (by rfl) (by rfl) (by decide+kernel) (by decide+kernel) (by decide+kernel) (fun pm cd doc u body=>rfl) ?_
 exact uI (r:=cT (cE 24) (cxM 1) 5 _) (by decide+kernel) rfl (W1 w G) ok
set_option maxHeartbeats 2000000 in
theorem yDh:mu (W3 w G) gD 97 4 87 (jP (W3 w G).U):=by
 have hZ:∀bC,mx gD 97 80 ⟨W3 w G,wI gD 97 bC,xY (qK PB 7 2) ["self"]⟩:=fun bC=>⟨⟨2,rfl,yA1 w G⟩,fun h (hh:gm mg mb h)=>by
  obtain⟨o,pm,cd,doc,e1,e2,e3,_⟩:=hh.y7
  exact⟨o,_,e1,e2,e3⟩⟩
 have hO:∀bC,uu ⟨W3 w G,wI gD 97 bC,xY (qK PB 7 2) ["self"]⟩ "self" "token" "fiter" "ch" :=fun bC=>
  {s:=⟨by rfl,by decide+kernel,by rfl⟩,t:=⟨by rfl,by decide+kernel,by rfl⟩,f:=⟨by rfl,by decide+kernel,by rfl⟩,c:=⟨by rfl,by decide+kernel,by rfl⟩,n:=by rfl,ki:=by rfl
   gi:=G.no _ (by decide),bi:=G.qL}
 exact yAp (W:=W3 w G) (R:=gD) (C:=97) (N₀:=96) (fI:=73) (fR:=80) (fG:=87) (fP:=94) (scope:=qK PB 7 2) (params:=yw PB 7 2) (name:=yx PB 7 2) (zs:= "self") (zt:= "token") (zf:= "fiter") (zc:= "ch")
  (fun bC=>Ny (fun h x=>x) _ bC) hZ hO (fun h hh=>hh.y8) (by decide+kernel) (by decide+kernel) (by decide+kernel) (fun pm cd doc u body=>rfl)
set_option maxHeartbeats 2000000 in
theorem mkB:sF (W3 w G) gD 97 4 139 134:=by
 have hM:DE (W3 w G) 134 138 139:=⟨fun h (hh:gm mg mb h)=>hh.code,fun h (hh:gm mg mb h)=>hh.hd,fun h (hh:gm mg mb h)=>hh.bm,by decide,fun h (hh:gm mg mb h)=>hh.lim⟩
 refine yCw (W:=W3 w G) (R:=gD) (C:=97) (N₀:=96) (fI:=73) (fR:=80) (fG:=87) (fP:=94) (scope:=lG PB 20) (params:=v5 PB 20) (name:=v7 PB 20) (zt:= "text") (zst:= "stream") (nameI:=yx PB 7 0) (scopeI:=qK PB 7 0) (paramsI:=yw PB 7 0) (zs:= "self") (zp:= "fp")
  (fun h (hh:gm mg mb h)=>hh.cls) hM (fun h hh=>hh.mS) (fun h hh=>hh.DW) (by rfl) (by decide+kernel) (by rfl) (by rfl) (by rfl) (by decide+kernel) (by decide+kernel) (fun pm cd doc u v body=>rfl) (by decide+kernel) (by rfl) (by rfl) (by rfl) (by rfl)
  (by decide+kernel) (by decide+kernel) (by rfl) (by rfl) (by rfl) (by rfl) (G.no _ (by decide)) G.mV G.f7 (by rfl) (fun env=>rfl) (fun env=>rfl) (by rfl) (by decide+kernel) (show 2<=3 by decide) (fun pm cd doc u body=>rfl)
end
theorem wO.le{D D':Nat}{A:Am}(h:wO D A)(hd:D'<=D):wO D' A:=⟨h.hh,by have:=h.depth;omega,by have:=h.units;omega⟩
noncomputable def bx.more(W:bx)(D':Nat)(h:W.D<=D'):bx:={W with
 D:=D'
 call:=fun k A s ps vs ns r hr hw hv e=>W.call k A s ps vs ns r (hr.le h) hw hv e}
theorem mu.more{W W':bx}{R:bX}{C:Addr}{D D':Nat}{f:Addr}{op:aj->aj->List Nat->Prop}(h:mu W R C D f op)(hp:W'.prog=W.prog)(hw:W'.w=W.w)(hd:∀h,W'.Wd h->W.Wd h)(hD:D<=D'):mu W' R C D' f op:=
 fun A s v b b' r F hr hl eS e=>by
  have:=h A s v b b' r F (hr.le hD) hl (fun h k=>hd h (eS h k)) e
  rw[hp,hw];exact this
structure Nz(R:bX)(C fG:Addr)(X:Ctx)(fget:aj->Option (aj×List Nat)):Prop where
 D:∃D,D+1=X.W.D/\∃op,mu X.W R C D fG op/\∀b b' r,fget b=some (b',r)->op b b' r
 og:∀h,X.W.Wd h->∃of fd,h.get? fG=some of/\of.cls= .type "function" /\of.data= .func fd
section
variable{R:bX}{C N₀ fI fR fG fP:Addr}{X:Ctx}{tv dv:List Nat}{fget:aj->Option (aj×List Nat)}
noncomputable def uJ(fget:aj->Option (aj×List Nat))(i:Nat):dC:=fun g=>(ia g i).bind fun vb=>(fget vb.2).map fun q=>({g with β:=some (vb.1,q.1)}, .str q.2)
theorem dm.mY(Y:fg R C N₀ fI fR fG fP X)(Z:Nz R C fG X fget){z:Str}{i:Nat}{p0 ap cp:B0}(hz:X.C.Γ.lookup z=some i)(bH:bad z=false)(aQ:(ap.endLine==cp.line)=true):
  dm X tv dv true (.Call (.Attribute (.Name z p0) "get_token" ap) [] [] cp) (uJ fget i):=fun K env A E s₀ g N F s g' p T e=>by
 obtain⟨⟨v,b⟩,e1,e2⟩:=wG e
 obtain⟨⟨b',r⟩,e3,e4⟩:=dk e2
 refine aq (Bh e4) fun aG aM=>?_
 subst aG
 subst aM
 refine aq (qy e1) fun bu bW=>?_
 obtain⟨x,dx,st,ds,lam,cc,cell,sg,pb,rfl,hF,L,nK⟩:=T.lex Y bW
 refine da (Z.og _ T.pre.wd) fun of fd ho nH gu=>?_
 refine aH Y.bk fun bC dj=>?_
 have hb:=T.book _ b bW
 rw[dj]at hb
 refine aB Z.D fun D hD jL=>?_
 refine aB jL fun op fn gB=>?_
 refine Rj (wJ rfl _ env _) aQ (Bq (zS T.kind (T.self hz bu) (fun pl=>Ru (Y.cls _ T.pre.wd) (fun _ _ h _=>h) ho nH Zq L (by decide) ?_) (wP bH)) (wD bH))
 refine callWith_meth0 gu ho (Gd (E9 (fn A s (.ref x) b b' r F (T.room.less hD) hb.2 T.LY (gB _ _ _ e3)) fun res s' hr=>?_))
 obtain⟨t,rfl,hs,hk,gI⟩:=hr
 exact⟨N,F,[],T.uk hs hk (by rw[dj];exact⟨hb.1,gI⟩), .str ..,ew.nil⟩
noncomputable abbrev FL:=Value->PV->PV->PV->aj->Option (aj×PV)
noncomputable def NA(W:bx)(R:bX)(C:Addr)(D:Nat)(f:Addr)(fL:FL):Prop:=∀(A:Am) (s:Ab) (v:Value) (b b':aj) (p0 p2 p3 r:PV) (vs:List Value) (ns:List Addr) (F:List Addr),wO D A->iI R C v b F s.heap->
 ao s.heap [p0, .obj v,p2,p3] vs ns->(∀a∈F,a∉ns)->(∀h:Ap,(∀a o,a∉F->s.heap.get? a=some o->h.get? a=some o)->W.Wd h)->fL v p0 p2 p3 b=some (b',r)->
 Ca (Af W.prog W.w) A (.call (.ref f) ⟨vs,[]⟩) (fun res s'=>∃u ms,res= .ok (.ret u)/\yZ s s'/\(∀a o,a∉F->s.heap.get? a=some o->s'.heap.get? a=some o)/\iI R C v b' F s'.heap/\VR s'.heap r u ms/\wN s.heap ms) s
noncomputable def kW(X:Ctx)(tv dv:List Nat)(e:Expr)(f:Sg->Option PV):Prop:=yT e=true/\∀K env A E s₀ g N F s p,ax X tv dv K env A s₀ g N F s->f g=some p->
 Al (Af X.W.prog X.W.w) A (eval e env) (fun v s'=>KG s s'/\∃ns,VR s'.heap p v ns/\∀a∈F,a∉ns) E s
theorem kW.var{z:Str}{i:Nat}{p0:B0}(hz:X.C.Γ.lookup z=some i)(bH:bad z=false):kW X tv dv (.Name z p0) (fun g=>(g.σ[i]?).bind id):=⟨rfl,fun K env A E s₀ g N F s p T e=>by
 obtain⟨q,e1,e2⟩:=wG e
 have e2:q=some p:=e2
 subst e2
 obtain⟨v,a,r⟩:=T.rd z i p hz e1
 exact Bq (zS T.kind a ⟨wZ s _,_,r.sub fun _ _ e=>e,fun b hb=>(T.foot b hb).2.2.1 i⟩ (wP bH)) (wD bH)⟩
theorem kW.new{a:Expr}{pe:PE}(cb:yT a=true)(h:av X.W X.C a pe):kW X tv dv a (fun g=>(ev X.W.U pe g.σ).bind fun p=>if fresh pe p then some p else none):=⟨cb,fun K env A E s₀ g N F s p T e=>by
 obtain⟨q,e1,e2⟩:=wG e
 split at e2
 ·next hf=>
  cases e2
  refine zE (h env A E s g.σ p T.pre e1) fun v aa ah=>?_
  obtain⟨k,ns,r,f⟩:=ah
  exact⟨k,ns,r,fun b hb hm=>by obtain⟨_,⟨o,e⟩,_⟩:=T.foot b hb;rw[(f hf).new b hm]at e;cases e⟩
 ·cases e2⟩
noncomputable def uK(fL:FL)(i:Nat)(f0 f2 f3:Sg->Option PV):dC:=fun g=>(f0 g).bind fun p0=>(ia g i).bind fun vb=>(f2 g).bind fun p2=>(f3 g).bind fun p3=>(fL vb.1 p0 p2 p3 vb.2).map fun q=>({g with β:=some (vb.1,q.1)},q.2)
theorem dm.least{fL:FL}{fA:Addr}{D:Nat}(Y:fg R C N₀ fI fR fG fP X)(fn:NA X.W R C D fA fL)(hD:D<=X.W.D){zl zb:Str}{i:Nat}{p0 p1 pos:B0}{a0 a2 a3:Expr}{f0 f2 f3:Sg->Option PV}
  (hk:X.C.kn.lookup zl=some .globalImplicit) (hg:X.W.mg zl=some (.ref fA)) (lZ:bad zl=false) (ho:∀h,X.W.Wd h->∃o fd,h.get? fA=some o/\o.data= .func fd)
  (hz:X.C.Γ.lookup zb=some i) (tX:bad zb=false) (h0:kW X tv dv a0 f0) (h2:kW X tv dv a2 f2) (h3:kW X tv dv a3 f3):
  dm X tv dv true (.Call (.Name zl p0) [a0, .Name zb p1,a2,a3] [] pos) (uK fL i f0 f2 f3):=fun K env A E s₀ g N F s g' p T e=>by
 refine oB e fun q0 e0 e=>?_
 obtain⟨⟨v,b⟩,e1,e⟩:=wG e
 refine oB e fun q2 e2 e=>?_
 refine oB e fun q3 e3 e=>?_
 obtain⟨⟨b',r⟩,e4,e5⟩:=dk e
 refine aq (Bh e5) fun aG aM=>?_
 subst aG
 subst aM
 refine aq (qy e1) fun bu bW=>?_
 refine aq h0 fun n0 h0=>?_
 refine aq h2 fun n2 h2=>?_
 refine aq h3 fun n3 h3=>?_
 refine dZ (ho _ T.pre.wd) fun o fd NB gu=>?_
 refine Er rfl ?_
 refine A6 T.kind (by unfold Be;rw[T.names];exact hk) (Dk (mg:=X.W.mg) ?_ hg ?_) (wD lZ)
 ·refine af T.gl ?_;exact X.W.g T.pre.wd
 refine J9 gu ?_ (zF n0 _ env)
 refine af (zF n0 _ env) ?_
 refine A8 (zE (h0 K env A E s₀ g N F s q0 T e0) fun v0 aa az=>?_)
 refine aq az fun k₁ az=>?_
 refine aB az fun bJ r0 f0=>?_
 have aR:=T.kg k₁
 refine af (zF rfl _ env) ?_
 refine A8 (Bq (zS aR.kind (aR.self hz bu) ?_ (wP tX)) (wD tX))
 refine af (zF n2 _ env) ?_
 refine A8 (zE (h2 K env A E s₀ g N F aa q2 aR e2) fun v2 s₂ aY=>?_)
 refine aq aY fun k₂ aY=>?_
 refine aB aY fun jL r2 f2=>?_
 have aw:=aR.kg k₂
 refine af (zF n3 _ env) ?_
 refine A8 (zE (h3 K env A E s₀ g N F s₂ q3 aw e3) fun v3 ak jj=>B4 ?_)
 refine aq jj fun bh jj=>?_
 refine aB jj fun ns3 r3 f3=>?_
 have aN:=aw.kg bh
 have up:Sub s.heap ak.heap:=fun b o e=>zV bh b o (zV k₂ b o (zV k₁ b o e))
 refine aH Y.bk fun bC dj=>?_
 have hb:=aN.book _ b bW
 rw[dj]at hb
 have bf:ao ak.heap [q0, .obj v,q2,q3] [v0,v,v2,v3] (bJ++([]++(jL++(ns3++[])))):=
  .cons (r0.sub fun b o e=>zV bh b o (zV k₂ b o e)) (.cons (.obj v) (.cons (r2.sub (zV bh)) (.cons r3 .nil)))
 refine⟨up _ _ NB,Gd (E9 (fn A ak v b b' q0 q2 q3 r _ _ F (T.room.le hD) hb.2 bf (fun a ha hm=>?_) aN.LY e4) fun res s' hr=>?_)⟩
 ·simp only[F5,Bx,Bb]at hm
  rcases hm with hm|hm|hm
  ·exact f0 a ha hm
  ·exact f2 a ha hm
  ·exact f3 a ha hm
 ·obtain⟨u,ms,rfl,hs,hk,gI,ru,hf⟩:=hr
  exact⟨N,F,ms,aN.uk hs hk (by rw[dj];exact⟨hb.1,gI⟩),ru,aN.held hf⟩
end
noncomputable def NC:Fl->Bool
 | .next=>true
 |_=>false
noncomputable def Tf:PV->Bool
 | .list l=>l.all PV.ba
 |_=>false
noncomputable def pH(v:Value)(p0 p2 p3:PV)(b:aj):Sg:=⟨[some p0,some (.obj v),some p2,some p3,none,none,none,none],some (v,b)⟩
noncomputable def Tg(U:Uc)(fget:aj->Option (aj×List Nat))(pe:PE)(g0:Sg):Option (aj×PV):=(yX 4 (uJ fget 1) g0).bind fun q=>(ev U pe q.1.σ).bind fun p=>if fresh pe p=true then q.1.β.map fun vb=>(vb.2,p)else none
noncomputable def Th(uL:Den)(g0:Sg):Option (aj×PV):=(uL g0).bind fun q=>if NC q.2=true then((q.1.σ[5]?).bind id).bind fun p=>if Tf p=true then q.1.β.map fun vb=>(vb.2,p)else none else none
noncomputable def EK(U:Uc)(fget:aj->Option (aj×List Nat))(pt:PT)(pe:PE)(uL:Den):FL:=fun v p0 p2 p3 b=>
 (aZ U pt (pH v p0 p2 p3 b).σ).bind fun c=>if c=true then Tg U fget pe (pH v p0 p2 p3 b)else Th uL (pH v p0 p2 p3 b)
theorem iI.same{R:bX}{C:Addr}{v v':Value}{b b':aj}{F:List Addr}{h h':Ap}(a:iI R C v b F h)(c:iI R C v' b' F h'):v=v':=by
 obtain⟨x,dx,st,ds,lam,cc,cell,sg,pb,rfl,rfl,_⟩:=a
 obtain⟨x,dx,st,ds,lam,cc,cell,sg,pb,rfl,q,_⟩:=c
 rw[(D9 q).1]
theorem Ti(env:Dy):∀(a b:List Stmt),Gi (a++b) env=(Gi a env>>=fun fw=>match fw with| .next=>Gi b env|fw=>pure fw)
 |[],b=>by
  refine(?_:Gi b env=(pure Flow.next>>=_))
  rw[pure_bind]
 |st::a,b=>by
  rw[B9,execs_cons,execs_cons,bind_assoc]
  refine bind_congr fun fw=>?_
  cases fw with
  |next=>exact Ti env a b
  |_=>rw[pure_bind]
theorem EL{X:Ctx}{tv dv tv' dv':List Nat}{K:Addr->Option Obj}{env:Dy}{A:Am}{E:Value->Ab->Prop}{s₀ s:Ab}{g g₁:Sg}{N:Nat->List Addr}{F:List Addr}{a b:List Stmt}{f:Den}{Q:Mb->Ab->Prop}
  (h1:zP X tv dv tv' dv' a f) (T:ax X tv dv K env A s₀ g N F s) (e:f g=some (g₁, .next))
  (k:∀N' F' s',ax X tv' dv' K env A s₀ g₁ N' F' s'->Al (Af X.W.prog X.W.w) A (Gi b env) Q E s'):Al (Af X.W.prog X.W.w) A (Gi (a++b) env) Q E s:=by
 rw[Ti]
 refine Ac (zE (h1 K env A E s₀ g N F s g₁ .next T e) fun fw aa ah=>?_)
 obtain⟨hf,N',F',T'⟩:=ah
 have hf:fw= .next:=hf
 subst hf
 exact k N' F' aa T'
theorem yDk{α:Type}{l:List α}(h:l.length=4):∃a b c d,l=[a,b,c,d]:=by
 obtain⟨a,r,rfl,h⟩:=AN h
 obtain⟨b,c,d,rfl⟩:=ON (Iu h)
 exact⟨a,b,c,d,rfl⟩
section
variable{R:bX}{C N₀ fI fR fG fP:Addr}{W:bx}{Cc:Cx}
theorem oM{α β:Type}{x:Option α}{f:α->β}{y:β}{G:Prop}(h:x.map f=some y)(k:∀a,x=some a->f a=y->G):G:=let⟨a,h1,h2⟩:=Bp.mp h;k a h1 h2
theorem zW4{fl:Fl}(h:NC fl=true):fl= .next:=by cases fl<;>first|rfl|exact ft h
theorem zY2{p:PV}(h:Tf p=true):∃l,p= .list l:=by cases p<;>first|exact⟨_,rfl⟩|exact ft h
noncomputable def Tj(R:bX)(C:Addr)(v:Value)(b':aj)(r:PV)(F:List Addr)(s:Ab)(u:Value)(s':Ab):Prop:=∃ms,yZ s s'/\(∀a o,a∉F->s.heap.get? a=some o->s'.heap.get? a=some o)/\iI R C v b' F s'.heap/\VR s'.heap r u ms/\wN s.heap ms
theorem To{F F':List Addr}{s s':Ab}{env:Dy}{A:Am}{g:Sg}{N:Nat->List Addr}{v:Value}{b b':aj}{u:Value}{p r:PV}{ms:List Addr}{vb:Value×aj}(dj:iI R C v b F s.heap)(T:ax ⟨W,wI R C F,Cc⟩ [5] [] (fE s.heap F) env A s g N F' s')(bW:g.β=some vb)(e:(vb.2,p)=(b',r))(hr:VR s'.heap p u ms)
  (hn:ms.Nodup) (hK:∀a∈ms,fE s.heap F a=none) (hF:∀a∈F',a∉ms):Tj R C v b' r F s u s':=by
 refine aq (Bh e) fun e1 e2=>?_
 subst e1
 subst e2
 refine aq (T.book vb.1 vb.2 bW) fun e1 hl=>?_
 subst e1
 exact⟨ms,T.same,fun a o h1 h2=>T.kept a o (jN h1 h2),dj.same hl▸hl,hr,⟨hn,fun a ha=>by
  cases e:s.heap.get? a with
  |none=>rfl
  |some o=>exact nn ((hK a ha).symm.trans (jN (fun q=>hF a q ha) e))⟩⟩
theorem zOg{scope:Scope}{params:Arguments}{name z0 zb z2 z3 zw:Str}{fA:Addr}{ND er:Expr}{sA s1 s2:Stmt}{pr pi pz pq:B0}{pt:PT}{pe:PE}{uL:Den}{fget:aj->Option (aj×List Nat)}
  (hC:Cc=xY scope [z0,zb,z2,z3]) (hn:Cc.n=8) (hY:∀bC,fg R C N₀ fI fR fG fP ⟨W,wI R C bC,Cc⟩)
  (dI:∀h,W.Wd h->lE h fA name params [.If ND [sA, .Return (some er) pr] [] pi,s1,s2, .Return (some (.Name zw pz)) pq] scope) (bj:ji scope [z0,zb,z2,z3]=true)
  (br:∀pm cd doc v0 v1 v2 v3,Fc (F0 name params [.If ND [sA, .Return (some er) pr] [] pi,s1,s2, .Return (some (.Name zw pz)) pq] scope pm cd doc) ⟨[v0,v1,v2,v3],[]⟩=pure [(z0,v0),(zb,v1),(z2,v2),(z3,v3)])
  (ht:du W Cc ND pt) (hA:∀F,zN ⟨W,wI R C F,Cc⟩ [5] [] sA (yX 4 (uJ fget 1))) (hE:av W Cc er pe) (zo:∀F,zP ⟨W,wI R C F,Cc⟩ [5] [] [5] [] [s1,s2] uL)
  (hz:Cc.Γ.lookup zw=some 5) (bH:bad zw=false):NA W R C (W.D+1) fA (EK W.U fget pt pe uL):=by
 intro A s v b b' p0 p2 p3 r vs ns F aP dj hv dD eS e
 have jO:W.Wd s.heap:=eS _ fun a o _ e=>e
 obtain⟨v0,v1,v2,v3,rfl⟩:=yDk hv.length
 have go:∀R':D6->Ab->Prop,(∀u s',Tj R C v b' r F s u s'->R' (.ok (.ret u)) s')->Ca (Af W.prog W.w) A (.call (.ref fA) ⟨[v0,v1,v2,v3],[]⟩) R' s:=fun R' hR=>by
  refine LO (X:=⟨W,wI R C F,Cc⟩) (tv:=[5]) (dv:=[]) (xs:=[z0,zb,z2,z3]) (ps:=[p0, .obj v,p2,p3]) (ns:=ns) (β:=some (v,b)) (K:=fE s.heap F) (F:=F) hC bj (dI _ jO) ((hY F).lim _ jO) aP (fun a o e=>(xd e).2) (fun h k=>eS h fun a o h1 h2=>k a o (jN h1 h2))
   (fun u c e=>sp e ⟨rfl,dj⟩) (fun a ha=>⟨by exact xT ha rfl,dj.bV a ha,dD a ha⟩) (fun pm cd doc=>br pm cd doc v0 v1 v2 v3) hv rfl (by intro i hi;simp at hi;subst hi;exact Ft 4) fun env cd aa N mG hq gu pI T=>?_
  rw[show eI Cc [p0, .obj v,p2,p3] (some (v,b))=pH v p0 p2 p3 b by unfold eI;rw[hn];rfl]at T
  refine oB e fun c e1 e2=>?_
  refine Bd (Mc (zE (ht env _ _ aa _ c T.pre e1) fun c' s₂ ai=>?_))
  refine aq ai fun aG k=>?_
  subst aG
  have aw:=T.kg k
  cases c' with
  |true=>
   refine oB e2 fun q e3 e4=>?_
   refine oB e3 fun q' e5 e6=>?_
   obtain rfl:=Aa e6
   refine Bd (zE (hA F _ env _ _ _ _ _ F s₂ _ .next aw e3) fun fw ak au=>?_)
   obtain⟨hf,fF,kF,aN⟩:=au
   obtain rfl:fw= .next:=hf
   refine oB e4 fun p e7 e8=>?_
   refine oI e8 fun lu e8=>?_
   refine oM e8 fun vb e9 qI=>?_
   refine Bd (Ga (zE (hE env _ _ ak _ p aN.pre e7) fun u aU aW=>hR u aU ?_))
   obtain⟨k,ms,ru,f⟩:=aW
   have H:=aN.held (f lu) (own:=true)
   exact To dj (aN.kg k) e9 qI ru (H.o rfl).1 (fun a ha=>((H.o rfl).2 a ha).1) H.f
  |false=>
   refine oB e2 fun q e3 e4=>?_
   refine oI e4 fun hnx e4=>?_
   refine oB e4 fun p e5 e6=>?_
   refine oI e6 fun Tq e6=>?_
   refine oM e6 fun vb e9 qI=>?_
   obtain⟨g₁,fl⟩:=q
   obtain rfl:fl= .next:=zW4 hnx
   refine Ek (EL (a:=[s1,s2]) (zo F) aw e3 fun N' F' s' T'=>?_)
   refine aH (zY2 Tq) fun l hl=>?_
   subst hl
   obtain⟨u,a,ru⟩:=T'.rd zw 5 _ hz (Te e5)
   refine Bd (Ga (Bq (zS T'.kind a (hR u _ ?_) (wP bH)) (wD bH)))
   refine i5 ru.inv fun sg us ns cj bf _ hN=>?_
   obtain rfl:=bf.aC Tq
   have htp:=T'.bL 5 (.head _) sg [] hN
   exact To dj (T'.kg (wZ s' _)) e9 qI (ru.sub fun _ _ e=>e) (hN▸Cs.mpr ⟨Aq,Eu⟩) (fun a ha=>by rw[hN]at ha;exact Ae.mp ha▸htp.1) (fun a ha=>(T'.foot a ha).2.2.1 5)
 exact go _ fun u s' ⟨ms,h1,h2,h3,h4,h5⟩=>⟨u,ms,rfl,h1,h2,h3,h4,h5⟩
end
noncomputable def NF:PT:=(.cmp .Eq (.var 0) (.list .nil))
noncomputable def EM:PE:=(.comp (.ite (.cmp .Eq (.var 4) (.var 8)) (.lit (.int 0)) (.lit (.int 1000))) (.items (.var 3)) .nil)
noncomputable def k1:PS:=(.assign 5 (.list (.cons (.lit (.int 0)) (.cons (.lit (.int 0)) (.cons (.lit (.int 0)) (.cons (.lit (.int 0)) .nil))))))
noncomputable def zq:PT:=(.cmp .NotEq (.var 0) (.list .nil))
noncomputable def Tr:PS:=(.assign 6 (.lit (.int 2)))
noncomputable def kW1:PS:=(.oJ (.and (.cons (.cmp .LtE (.var 6) (.bi 0 (.cons (.var 0) .nil))) (.cons (.not (.eO (.uc 3 (.cons (.me 0 (.lit (.str [])) (.cons (.bI (.var 0) .no (.yes (.var 6)) .no) .nil)) .nil)))) .nil))) (.cons (.aug .Add 6 (.lit (.int 2))) .nil))
noncomputable def sX:PE:=(.bI (.var 0) (.yes (.lit (.int 1))) (.yes (.bin .Sub (.var 6) (.lit (.int 1)))) .no)
noncomputable def Ts:PS:=(.assign 5 (.comp (.bin .Add (.idx (.var 5) (.var 8)) (.bi 2 (.cons (.comp (.bin .Add (.idx (.var 7) (.var 9)) (.idx (.idx (.var 2) (.var 8)) (.var 9))) (.eD (.lit (.int 4))) .nil) .nil))) (.eD (.lit (.int 4))) .nil))
noncomputable def Tt:PS:=(.assign 0 (.bI (.var 0) (.yes (.var 6)) .no .no))
noncomputable def iY(i:Nat):Sg->Option PV:=fun g=>(g.σ[i]?).bind id
noncomputable def newD(U:Uc)(pe:PE):Sg->Option PV:=fun g=>(ev U pe g.σ).bind fun p=>if fresh pe p then some p else none
noncomputable def EN(U:Uc)(fL:FL):Den:=zZ (den U Tr) (zZ (den U kW1) (zZ (yX 7 (uK fL 1 (newD U sX) (iY 2) (iY 3))) (zZ (den U Ts) (zZ (den U Tt) aA))))
noncomputable def kD(U:Uc)(fL:FL):Den:=zZ (den U k1) (zZ (nB U zq (EN U fL) 64) aA)
noncomputable def nO(U:Uc)(fget:aj->Option (aj×List Nat)):Nat->FL
 |0=>fun _ _ _ _ _=>none
 |n+1=>EK U fget NF EM (kD U (nO U fget n))
theorem zP.ck{X:Ctx}{tv dv:List Nat}{st:Stmt}{rest:List Stmt}{f h:Den}(h1:zN X tv dv st f)(h2:zP X tv dv tv dv rest h):zP X tv dv tv dv (st::rest) (zZ f h):=zP.cons h1 h2 (xR _) (xR _) (xR _) (xR _)
section
variable{mg mb:Str->Option Value}(w:Co)(G:jU mg mb)
noncomputable def WL(n:Nat):bx:=(W6 w G).more (n+(W6 w G).D) (Ei ..)
variable{fget:aj->Option (aj×List Nat)}(gB:∀b b' r,fget b=some (b',r)->jP (W3 w G).U b b' r)
include gB in
theorem Tu(n:Nat)(F:List Addr)(Cc:Cx):Nz gD 97 87 ⟨WL w G n,wI gD 97 F,Cc⟩ fget where
 D:=⟨n+5,rfl,_,mu.more (yDh w G) rfl rfl (fun _ x=>x) (Ad (by decide:4<=5) (Ei ..)),gB⟩
 og:=fun h (hh:gm mg mb h)=>by
  obtain⟨o,pm,cd,doc,e1,e2,e3,_⟩:=hh.y8
  exact tN o _ e1 e2 e3
theorem zr(n:Nat)(F:List Addr)(Cc:Cx):fg gD 97 96 73 80 87 94 ⟨WL w G n,wI gD 97 F,Cc⟩:=Ny (W:=WL w G n) (fun _ x=>x) Cc F
include gB in
theorem Tv:∀n,NA (W6 w G) gD 97 (n+(W6 w G).D) 149 (nO (W6 w G).U fget n)
 |0=>fun A s v b b' p0 p2 p3 r vs ns F hr hl hv ho hw e=>nn e
 |n+1=>by
  have fn:=Tv n
  have ok:cQ (WL w G n) bq:=mX G rfl
  rw[show n+1+(W6 w G).D=(WL w G n).D+1 from Nat.succ_add ..]
  refine zOg (W:=WL w G n) (Cc:=aF 22) (z0:= "pieces") (zb:= "book") (z2:= "costs") (z3:= "sent") (zw:= "whole") (scope:=lG PB 22) (params:=v5 PB 22) (name:=v7 PB 22) rfl (by decide+kernel) (fun F=>zr w G n F _) (fun h hh=>hh.kU) (by decide+kernel) (fun pm cd doc v0 v1 v2 v3=>rfl)
   (uI (r:=cT (cE 24) (aF 22) 5 _) (by decide+kernel) rfl _ ok) (fun F=>?_) (wU (r:=cE 24 (aF 22) _) (by decide+kernel) rfl _ ok) (fun F=>?_) (by rfl) (by decide+kernel)
  ·exact zN.assign (x:= "word") (by rfl) (.inl rfl) (dm.mY (z:= "book") (zr w G n F _) (Tu w G gB n F _) (by rfl) (by decide+kernel) (by rfl)) (fun env hn=>rfl)
  ·refine zP.ck (yY (C:=aF 22) (by decide+kernel) rfl _ rfl ok) (zP.ck (zN.l9 64 (uI (r:=cT (cE 24) (aF 22) 5 _) (by decide+kernel) rfl _ ok) ?_) (zP.nil rfl rfl))
   refine zP.ck (yY (C:=aF 22) (by decide+kernel) rfl _ rfl ok) (zP.ck (yY (C:=aF 22) (by decide+kernel) rfl _ rfl ok) (zP.ck ?_ (zP.ck (yY (C:=aF 22) (by decide+kernel) rfl _ rfl ok) (zP.ck (yY (C:=aF 22) (by decide+kernel) rfl _ rfl ok) (zP.nil rfl rfl)))))
   refine zN.assign (x:= "below") (by rfl) (.inl rfl) (dm.least (zl:= "_law_least") (zb:= "book") (zr w G n F _) fn (Bv _) (by rfl) G.f9 (by decide+kernel) (fun h hh=>fe.obj hh.kU) (by rfl) (by decide+kernel) (kW.new (by rfl) (wU (r:=cE 24 (aF 22) _) (by decide+kernel) rfl _ ok)) (kW.var (by rfl) (by decide+kernel)) (kW.var (by rfl) (by decide+kernel))) (fun env hn=>rfl)
end
noncomputable def m0:PS:=(.assign 2 (.comp (.bin .Mod (.bin .Add (.var 28) (.bi 1 (.cons (.bI (.var 0) (.yes (.var 27)) .no (.yes (.lit (.int 5)))) .nil))) (.lit (.int 1000000))) (.enum (.list (.cons (.lit (.int 5)) (.cons (.lit (.int 36)) (.cons (.lit (.int 67)) (.cons (.lit (.int 22)) (.cons (.lit (.int 54)) .nil))))))) .nil))
noncomputable def m1:PS:=(.assign 3 (.bi 1 (.cons (.var 2) .nil)))
noncomputable def m2:PS:=(.assign 4 (.lit (.str [])))
noncomputable def m3:PS:=(.assign 5 (.list .nil))
noncomputable def m4:PS:=(.forR 1 (.lit (.int 5)) (.cons (.aug .Add 4 (.lit (.str [40]))) (.cons (.assign 6 (.bin .Sub (.me 2 (.var 4) (.cons (.lit (.str [40])) .nil)) (.me 2 (.var 4) (.cons (.lit (.str [41])) .nil)))) (.cons (.assign 7 (.ite (.cmp .Eq (.var 1) (.lit (.int 4))) (.var 6) (.bin .Mod (.bin .FloorDiv (.idx (.var 2) (.var 1)) (.lit (.int 24))) (.bin .Add (.var 6) (.lit (.int 1)))))) (.cons (.aug .Add 4 (.bin .Mult (.lit (.str [41])) (.var 7))) (.cons (.ifs (.cmp .Gt (.var 7) (.lit (.int 0))) (.cons (.append 5 (.var 1)) .nil) .nil) .nil))))))
noncomputable def m5:PS:=(.assign 8 (.idx (.list (.cons (.lit (.str [])) (.cons (.lit (.str [92,40])) (.cons (.lit (.str [92,41])) (.cons (.lit (.str [34,40,34])) (.cons (.lit (.str [34,41,34])) (.cons (.lit (.str [34,92,34,41,34])) (.cons (.lit (.str [92,92])) (.cons (.lit (.str [92,34])) (.cons (.lit (.str [34])) .nil)))))))))) (.bin .Mod (.var 3) (.lit (.int 9)))))
noncomputable def m6:PS:=(.assign 9 (.bin .Add (.lit (.int 1)) (.bin .Mult (.bin .Mod (.var 3) (.lit (.int 5))) (.lit (.int 2)))))
noncomputable def m7:PS:=(.assign 10 (.comp (.bin .Add (.idx (.var 4) (.var 27)) (.ite (.or (.cons (.cmp .Eq (.var 27) (.bin .Mod (.bin .FloorDiv (.var 3) (.lit (.int 9))) (.lit (.int 10)))) (.cons (.and (.cons (.cmp .Gt (.bi 0 (.cons (.var 8) .nil)) (.lit (.int 2))) (.cons (.cmp .Eq (.var 27) (.bin .Mod (.bin .Add (.bin .FloorDiv (.var 3) (.lit (.int 9))) (.var 9)) (.lit (.int 10)))) .nil))) .nil))) (.var 8) (.lit (.str [])))) (.eD (.lit (.int 10))) .nil))
noncomputable def m8:PS:=(.assign 11 (.idx (.list (.cons (.lit (.str [])) (.cons (.lit (.str [32])) (.cons (.lit (.str [34])) (.cons (.lit (.str [92])) (.cons (.lit (.str [9])) (.cons (.lit (.str [45])) .nil))))))) (.bin .Mod (.var 3) (.lit (.int 6)))))
noncomputable def Tw:PS:=(.assign 13 (.comp (.uc 4 (.cons (.var 27) .nil)) (.items (.var 12)) .nil))
noncomputable def Tx:PS:=(.assign 14 (.comp (.uc 5 (.cons (.idx (.var 12) (.bin .Mod (.idx (.var 2) (.var 27)) (.lit (.int 4)))) (.cons (.idx (.list (.cons (.lit (.str [32,9,92])) (.cons (.lit (.str [32,9,92,97,66,34,45])) .nil))) (.bin .Mod (.bin .FloorDiv (.idx (.var 2) (.var 27)) (.lit (.int 4))) (.lit (.int 2)))) .nil))) (.items (.var 5)) .nil))
noncomputable def Tz:PS:=(.assign 15 (.uc 4 (.cons (.me 0 (.lit (.str [])) (.cons (.comp (.bin .Add (.var 27) (.idx (.list (.cons (.lit (.str [10])) (.cons (.lit (.str [13])) (.cons (.lit (.str [13,10])) .nil)))) (.bin .Mod (.bin .FloorDiv (.idx (.var 2) (.var 28)) (.lit (.int 8))) (.lit (.int 3))))) (.zip (.var 14) (.var 5)) .nil) .nil)) .nil)))
noncomputable def NG:PS:=(.ifs (.cmp .NotEq (.var 15) (.me 0 (.lit (.str [])) (.cons (.comp (.bin .Add (.bin .Add (.lit (.str [46])) (.var 27)) (.lit (.str [13,10]))) (.items (.var 14)) .nil) .nil))) (.cons (.ret (.lit (.bool false))) .nil) .nil)
noncomputable def TF:PS:=(.assign 16 (.comp (.comp (.uc 1 (.cons (.idx (.var 12) (.var 27)) (.cons (.idx (.var 13) (.var 28)) (.cons (.bin .Sub (.bin .Add (.bin .Add (.lit (.int 2)) (.bi 4 (.cons (.bin .Sub (.bin .FloorDiv (.var 27) (.lit (.int 2))) (.bin .FloorDiv (.var 28) (.lit (.int 2)))) .nil))) (.bi 4 (.cons (.bin .Sub (.bin .Mod (.var 27) (.lit (.int 2))) (.bin .Mod (.var 28) (.lit (.int 2)))) .nil))) (.bin .Mod (.bin .Add (.var 27) (.var 3)) (.lit (.int 2)))) .nil)))) (.eD (.lit (.int 4))) .nil) (.eD (.lit (.int 4))) .nil))
noncomputable def NH:PS:=(.ifs (.cmp .IsNot (.uc 3 (.cons (.me 0 (.lit (.str [])) (.cons (.var 10) .nil)) .nil)) (.lit (.bool true))) (.cons (.ret (.lit (.bool false))) .nil) .nil)
noncomputable def NI:PS:=(.ifs (.cmp .IsNot (.uc 3 (.cons (.bin .Add (.bin .Add (.lit (.str [40,41])) (.me 0 (.lit (.str [])) (.cons (.bin .Add (.bI (.var 10) (.yes (.var 9)) .no .no) (.bI (.var 10) .no (.yes (.var 9)) .no)) .nil))) (.lit (.str [40,41]))) .nil)) (.lit (.bool false))) (.cons (.ret (.lit (.bool false))) .nil) .nil)
noncomputable def NJ:PS:=(.assign 19 (.list (.cons (.lit (.int 10)) (.cons (.lit (.int 10)) (.cons (.lit (.int 10)) (.cons (.lit (.int 10)) .nil))))))
noncomputable def NK:PS:=(.ret (.cmp .Eq (.var 18) (.var 19)))
noncomputable def NL:PS:=(.assign 22 (.neg (.lit (.int 1))))
noncomputable def zu:PS:=(.forR 23 (.lit (.int 10)) (.cons (.ifs (.cmp .Eq (.idx (.var 4) (.var 23)) (.lit (.str [40]))) (.cons (.aug .Add 22 (.lit (.int 1))) (.cons (.append 21 (.list (.cons (.lit (.int 0)) (.cons (.lit (.int 0)) .nil)))) .nil)) (.cons (.iC 24 21) (.cons (.ifs (.cmp .Eq (.idx (.var 4) (.bin .Sub (.var 23) (.lit (.int 1)))) (.lit (.str [40]))) (.cons (.assign 25 (.bin .Mod (.bin .FloorDiv (.idx (.var 2) (.var 22)) (.var 20)) (.lit (.int 2)))) (.cons (.assign 24 (.list (.cons (.var 25) (.cons (.bin .Sub (.lit (.int 1)) (.var 25)) .nil)))) .nil)) .nil) (.cons (.iC 26 21) (.cons (.append 21 (.comp (.bin .Add (.idx (.var 26) (.var 27)) (.bi 3 (.cons (.idx (.var 24) (.var 27)) (.cons (.bin .Add (.bi 2 (.cons (.var 24) .nil)) (.lit (.int 1))) .nil)))) (.eD (.lit (.int 2))) .nil)) .nil))))) .nil))
noncomputable def NM:PS:=(.assign 19 (.comp (.bin .Add (.idx (.var 19) (.var 27)) (.idx (.idx (.var 21) (.lit (.int 0))) (.bin .Mod (.bin .FloorDiv (.var 27) (.var 20)) (.lit (.int 2))))) (.eD (.lit (.int 4))) .nil))
noncomputable def mA:ey:= .cons m0 (.cons m1 (.cons m2 (.cons m3 (.cons m4 (.cons m5 (.cons m6 (.cons m7 (.cons m8 (.nil)))))))))
noncomputable def mB:ey:= .cons Tw (.cons Tx (.cons Tz (.cons NG (.cons TF (.nil)))))
noncomputable def uM:PE:= .bin .Add (.bin .Add (.bin .Add (.bin .Mult (.lit (.str [46])) (.bin .Add (.lit (.int 1)) (.bin .Mod (.bin .FloorDiv (.var 3) (.lit (.int 6))) (.lit (.int 3))))) (.var 27)) (.var 11)) (.var 28)
noncomputable def NN:PE:= .list (.cons (.lit (.int 0)) (.cons (.lit (.int 0)) .nil))
noncomputable def TG:PE:= .list (.cons (.lit (.int 2)) (.cons (.lit (.int 1)) .nil))
noncomputable def EO:PE:= .bin .Add (.lit (.int 1)) (.bi 0 (.cons (.var 5) .nil))
section
variable{R:bX}{C N₀ fI fR fG fP:Addr}{X:Ctx}{tv dv:List Nat}{fget:aj->Option (aj×List Nat)}
noncomputable def NO(U:Uc)(fget:aj->Option (aj×List Nat))(i:Nat)(pe:PE):Den:=fun g=>(ia g i).bind fun vb=>(fget vb.2).bind fun q=>(ev U pe g.σ).bind fun p=>if q.2.isEmpty&&AU .NotEq (.int q.1.line) p==some false then some ({g with β:=some (vb.1,q.1)}, .next)else none
theorem zN.mZ(Y:fg R C N₀ fI fR fG fP X)(Z:Nz R C fG X fget){z:Str}{i:Nat}{k1:Nat}{p0 ap cp p1 dX q1 q2 q4 q5 q6:B0}{en:Expr}{pn:PE}{body:List Stmt}(hz:X.C.Γ.lookup z=some i)(bH:bad z=false)(aQ:(ap.endLine==cp.line)=true)(hEn:av X.W X.C en pn)(hen:Jl .NotEq en=false):
  zN X tv dv (.If (.BoolOp .Or [.Compare (.Call (.Attribute (.Name z p0) "get_token" ap) [] [] cp) [.NotEq] [.Constant (.str "") k1 q1] q2, .Compare (.Attribute (.Name z p1) "lineno" dX) [.NotEq] [en] q4] q5) body [] q6) (NO X.W.U fget i pn):=fun K env A E s₀ g N F s g' fl T e=>by
 obtain⟨⟨v,b⟩,e1,e2⟩:=wG e
 obtain⟨⟨b',r⟩,e3,e4⟩:=wG e2
 obtain⟨p,e5,e4⟩:=wG e4
 refine oI e4 fun hc e4=>?_
 refine aq (Ba.mp hc) fun aG hc=>?_
 obtain rfl:=List.isEmpty_iff.mp aG
 refine aq (Bh (Aa e4)) fun aG aM=>?_
 subst aG
 subst aM
 refine aq (qy e1) fun bu bW=>?_
 have e0:uJ fget i g=some ({g with β:=some (v,b')}, .str []):=by
  refine(?_:(ia g i).bind _=_)
  refine af e1 ?_
  refine(?_:(fget b).map _=_)
  refine af e3 ?_;rfl
 refine Mc (Ip (Ho (F7 (zE (dm.mY (tv:=tv) (dv:=dv) Y Z hz bH aQ K env A E s₀ g N F s _ _ T e0) fun u aa ah=>?_) rfl)))
 obtain⟨N',F',ms,aR,az,_⟩:=ah
 refine Dt (zE (vf (op:= .NotEq) (x:= .str []) (y:= .str []) (b:=false) (wZ aa _) (az.sub fun _ _ e=>e) (.str [] _) (vj aR.room) rfl) fun KQ s₂ ai=>?_)
 refine aq ai fun aG k₂=>?_
 subst aG
 refine F8 ?_
 have aw:=aR.kg k₂
 have sY:({g with β:=some (v,b')}:Sg).β=some (v,b'):=rfl
 obtain⟨x,dx,st,ds,lam,cc,cell,sg,pb,rfl,hF,L,nK⟩:=aw.lex Y sY
 refine Ho (F7 (Gl (Bq (zS aw.kind (aw.self hz bu) (Rv L (Y.cls _ aw.pre.wd) fun t=>zE (hEn env _ _ _ _ p (aw.kg (wZ s₂ _)).pre e5) fun aad ak au=>?_) (wP bH)) (wD bH))) hen)
 obtain⟨bh,TH,jj,_⟩:=au
 have aN:=(aw.kg (wZ s₂ _)).kg bh
 refine zE (vf (op:= .NotEq) (x:= .int b'.line) (y:=p) (b:=false) (jG ak) (.int _ _) jj (vj aN.room) (eq_of_beq hc)) fun KU aU aW=>?_
 refine aq aW fun aG cn=>?_
 subst aG
 refine F8 (wpAny_allTrue_Or_nil ?_)
 exact Ek ⟨rfl,N',F',aN.kg cn⟩
theorem zYc{K:Addr->Option Obj}{env:Dy}{A:Am}{s₀ s:Ab}{g:Sg}{N:Nat->List Addr}{F:List Addr}{P fM:Addr}{W:bx}{Cx₀:Cx}{E:Value->Ab->Prop}{Q:Mb->Ab->Prop}
  (T:ax ⟨W,qD P #[],Cx₀⟩ tv dv K env A s₀ g N F s) (bW:g.β=some (.none,fc)) {D:Nat} (hD:D+1=W.D) (fn:sF W R C D fM P) {zb zm zs:Str} {i j:Nat} {text:List Nat} {p1 p2 p3 cp ap:B0}
  (hb:Cx₀.Γ.lookup zb=some i) (hi:i∉tv/\i∉dv) (hm:Cx₀.kn.lookup zm=some .globalImplicit) (hmb:bad zm=false) (hg:W.mg zm=some (.ref fM)) (ho:∀h,W.Wd h->∃o fd,h.get? fM=some o/\o.data= .func fd)
  (hs:Cx₀.Γ.lookup zs=some j) (iG:bad zs=false) (bu:g.σ[j]?=some (some (.str text))) (hlen:text.length<=ag) (pI:∀x c,env.cells.lookup x=some c->Cx₀.kn.lookup x=some .cell)
  (h:∀v F' ps K' N' s',ax ⟨W,wI R C F',Cx₀⟩ tv dv K' env A s₀ {g.set i (.obj v)with β:=some (v,⟨text,1,[]⟩)} N' F' s'->(∀b o,K b=some o->K' b=some o)->K' P=some (G4 ps)->Q .next s'):
  Al (Af W.prog W.w) A (exec (.Assign [.Name zb p1] (.Call (.Name zm p2) [.Name zs p3] [] cp) ap) env) Q E s:=by
 have T:=T
 refine aq (T.book _ _ bW) fun aG hP=>?_
 subst aG
 refine dZ (ho _ T.pre.wd) fun o fd NB gu=>?_
 obtain⟨u,acc,ru⟩:=T.rd zs j _ hs bu
 refine Hk ?_ rfl
 refine Er rfl ?_
 refine A6 T.kind (by unfold Be;refine af T.names ?_;exact hm) (Dk (mg:=W.mg) ?_ hg ?_) (wD hmb)
 ·refine af T.gl ?_;exact W.g T.pre.wd
 refine J9 gu ?_ (zF rfl [] env)
 refine af (zF rfl [] env) ?_
 refine A8 (Bq (zS T.kind acc (B4 ?_) (wP iG)) (wD iG))
 have aR:=T.kg (wZ s (s.toks+1))
 refine bZ NB (Gd (E9 (fn A _ u text (T.room.less hD) (CC ru rfl) hP hlen (fun h hh=>T.eG h fun b o e=>hh b o (fun q=>by rw[(T.foot b q).1]at e;exact nn e) (T.kept b o e))) fun res s' hr=>?_))
 obtain⟨v,F',ps,rfl,eT,hkp,mI,zv,kM⟩:=hr
 have TA:=(T.js (BK:=pg P) (β:=some (.none,fc)) fun v b e=>⟨rfl,_,hP⟩)
 have TB:=TA.uk (s':=s') (v:= .none) (b':=fc) (((yZ.refl s).heap s.heap _).trans eT) (fun a o ha e=>hkp a o (fun q=>ha (by refine af q ?_;exact Bg P)) e) ⟨rfl,_,mI⟩
 have foot:=T.foot P (Bg P)
 have TC:=(TB.js (BK:=wI R C F') (β:=none) fun v b e=>by exact nn e).rL rfl
 have TD:=TC.freeze (fp:=[P])
  {loc:=fun hm=>foot.2.2.2.1 (Ae.mp hm).symm
   cls:=fun x c e1 e2 hm=>foot.2.2.2.2 x c e2 (Ae.mp hm).symm
   f:=fun a ha=>nomatch ha
   t:=fun k hk a r e hm=>foot.2.2.1 k (by(refine af e ?_;refine af (Ae.mp hm) ?_);exact Aj ..)
   d:=fun k hk a ha hm=>foot.2.2.1 k (by refine cw (Ae.mp hm) ?_;exact ha)}
 have old:∀a,(∃o,s.heap.get? a=some o)->a∉F':=fun a ⟨o,e⟩ hm=>by rw[kM a hm]at e;exact nn e
 have Nv:∀a∈F',a≠P:=fun a ha q=>old P ⟨_,hP⟩ (q▸ha)
 have TE:ax ⟨W,wI R C F',Cx₀⟩ tv dv (oA K [P] s'.heap) env A s₀ {g with β:=some (v,⟨text,1,[]⟩)} N F' s':=
  {TD with
   book:=fun u b e=>by obtain⟨rfl,rfl⟩:=Bh (Aa e);exact⟨rfl,zv⟩
   foot:=fun a ha=>by
    refine u5 ?_ (zv.bV a ha) (fun k hk=>?_) (fun q=>?_) (fun x c e q=>?_)
    ·rw[wS (fun hm=>Nv a ha (Ae.mp hm))]
     cases q:K a with
     |none=>rfl
     |some o=>exact absurd ha (old a ⟨o,T.kept a o q⟩)
    ·refine fT (T.nd k a hk) fun _ _ e=>?_
     exact old a ⟨_,e⟩ ha
    ·refine tL T.loc fun m o es ep e1 _=>?_
     exact old a ⟨o,q▸e1⟩ ha
    ·refine aq (T.cls x c (pI x c e) e) fun bJ _=>?_
     refine dZ bJ fun w' o e1 _=>?_
     exact old a ⟨o,q▸e1⟩ ha}
 refine zE (TE.store hb (.obj v) (ew.nil (own:=true)) (.inl rfl)) fun _ s₂ aw=>?_
 refine h v F' ps _ _ s₂ aw (fun b o e=>?_) ((lD (Bg P)).trans mI)
 rw[wS (fun hm=>by rw[Ae.mp hm,foot.1]at e;exact nn e)];exact e
end
noncomputable def NP(U:Uc):Den:=yX 12 (S9 U uM [97,65] [98,66])
noncomputable def TJ(fL:FL):Den:=yX 18 (uK fL 17 (iY 10) (iY 16) (iY 13))
noncomputable def TK(U:Uc):Den:=ub (fun g=>(ev U TG g.σ).bind fun p=>if fresh TG p then pV p else none) [20] (zZ (yX 21 (DT U NN)) (zZ (den U NL) (zZ (den U zu) (zZ (den U NM) aA))))
noncomputable def NQ(U:Uc)(fget:aj->Option (aj×List Nat))(fL:FL):Den:=zZ (TJ fL) (zZ (NO U fget 17 EO) (zZ (den U NH) (zZ (den U NI) (zZ (den U NJ) (zZ (TK U) (zZ (den U NK) aA))))))
theorem yDq(x:Str):(aF 23).kn.lookup x≠some .free:=BZ (C:=aF 23) (by decide+kernel) x
theorem zP.ce{X:Ctx}{tv dv:List Nat}{b:List Stmt}{i:Nat}{hi:i<b.length}{f h:Den}(h1:zN X tv dv b[i] f)(h2:zP X tv dv tv dv (b.drop (i+1)) h):zP X tv dv tv dv (b.drop i) (zZ f h):=A5 hi▸zP.ck h1 h2
theorem zZ6(X:Ctx)(hX:X.C=aF 23)(ok:cQ X.W bq):zP X [5,21] [] [21] [] ((yN PB 23).take 9) (zU X.W.U mA):=
 vY (q:=mA) (d:= .nil) (r:=QB (tab:=bq) (aF 23) [] [21] ((yN PB 23).take 9) (A0 4 [5,21]++A0 5 [21]) [5,21]) (by decide+kernel) rfl X hX ok
theorem yBb(X:Ctx)(hX:X.C=aF 23)(ok:cQ X.W bq):zP X [21] [] [21] [] (((yN PB 23).drop 10).take 5) (zU X.W.U mB):=uH (by decide+kernel) rfl X hX ok
theorem yA8(X:Ctx)(hX:X.C=aF 23)(ok:cQ X.W bq):zN X [21] [] ((yN PB 23)[9]) (NP X.W.U):=by
 subst_vars
 obtain⟨W,BK,C⟩:=X
 have hX:C=aF 23:=hX
 subst hX
 refine zN.assign (x:= "words") (by rfl) (.inl rfl) (dm.two (x:= "one") (y:= "other") (by refine(?_:kx (aF 23) _ _=true);decide+kernel) (by decide) (wU (r:=cE 24 ((aF 23).et _ ["one", "other"]) _) (by decide+kernel) rfl _ ok)) (fun env hn=>Qx (by unfold Be;rw[hn];rfl))
section
variable{mg mb:Str->Option Value}(w:Co)(G:jU mg mb)
variable{fget:aj->Option (aj×List Nat)}(gB:∀b b' r,fget b=some (b',r)->jP (W3 w G).U b b' r)
noncomputable abbrev XC(F:List Addr):Ctx:=⟨WL w G 6,wI gD 97 F,aF 23⟩
include gB in
theorem zVr(F:List Addr):zP (XC w G F) [21] [] [21] [] ((yN PB 23).drop 16) (NQ (W6 w G).U fget (nO (W6 w G).U fget 6)):=by
 have ok:cQ (WL w G 6) bq:=mX G rfl
 have h18:zN (XC w G F) [21] [] ((yN PB 23)[18]) (den (W6 w G).U NH):=yY (C:=aF 23) (by decide+kernel) rfl (XC w G F) rfl ok
 have NR:zN (XC w G F) [21] [] ((yN PB 23)[19]) (den (W6 w G).U NI):=yY (C:=aF 23) (by decide+kernel) rfl (XC w G F) rfl ok
 have NS:zN (XC w G F) [21] [] ((yN PB 23)[20]) (den (W6 w G).U NJ):=yY (C:=aF 23) (by decide+kernel) rfl (XC w G F) rfl ok
 have NT:zN (XC w G F) [21] [] ((yN PB 23)[22]) (den (W6 w G).U NK):=yY (C:=aF 23) (by decide+kernel) rfl (XC w G F) rfl ok
 refine zP.ce (i:=16) (hi:=by decide+kernel) ?_ ?_
 rotate_left
 refine zP.ce (i:=17) (hi:=by decide+kernel) ?_ ?_
 rotate_left
 refine zP.ce (i:=18) h18 (zP.ce (i:=19) NR (zP.ce (i:=20) NS ?_))
 refine zP.ce (i:=21) (hi:=by decide+kernel) ?_ (zP.ce (i:=22) NT (zP.nil rfl rfl))
 rotate_left
 ·exact zN.assign (x:= "told") (by rfl) (.inl rfl) (dm.least (zl:= "_law_least") (zb:= "book") (zr w G 6 F _) (Tv w G gB 6) (Bv _) (by rfl) G.f9 (by decide+kernel) (fun h hh=>fe.obj hh.kU) (by rfl) (by decide+kernel) (kW.var (by rfl) (by decide+kernel)) (kW.var (by rfl) (by decide+kernel)) (kW.var (by rfl) (by decide+kernel))) (fun env hn=>rfl)
 ·exact zN.mZ (z:= "book") (zr w G 6 F _) (Tu w G gB 6 F _) (by rfl) (by decide+kernel) (by rfl) (wU (r:=cE 24 (aF 23) _) (by decide+kernel) rfl _ ok) (by rfl)
 ·refine zN.vQ (lC.items (x:= "half") (wU (r:=cE 24 (aF 23) _) (by decide+kernel) rfl _ ok)) (.cons (by rfl) .nil) (fun k hk=>by simp at hk⊢;subst hk;decide) ?_ (fun env x=>wW rfl env x) yDq
  refine zP.ck (zN.assign (x:= "pile") (by rfl) (.inl rfl) (dm.nest (by rfl) (wU (r:=cE 24 (aF 23) _) (by decide+kernel) rfl _ ok)) (fun env hn=>rfl)) ?_
  exact zP.ck (yY (C:=aF 23) (by decide+kernel) rfl (XC w G F) rfl ok) (zP.ck (yY (C:=aF 23) (by decide+kernel) rfl (XC w G F) rfl ok) (zP.ck (yY (C:=aF 23) (by decide+kernel) rfl (XC w G F) rfl ok) (zP.nil rfl rfl)))
end
theorem sF.more{W W':bx}{R:bX}{C:Addr}{D D':Nat}{f P:Addr}(h:sF W R C D f P)(hp:W'.prog=W.prog)(hw:W'.w=W.w)(hd:∀h,W'.Wd h->W.Wd h)(hD:D<=D'):sF W' R C D' f P:=by
 intro A s u text hr hu hP hs eS
 have:=h A s u text (hr.le hD) hu hP hs fun h k=>hd h (eS h k)
 rw[hp,hw];exact this
theorem pJ{f:Den}{g g₁:Sg}(e:f g=some (g₁, .next)):zZ f aA g=some (g₁, .next):=by unfold zZ;rw[e];rfl
section
variable{mg mb:Str->Option Value}(w:Co)(G:jU mg mb)
set_option maxHeartbeats 1000000 in
theorem zYo{fget:aj->Option (aj×List Nat)}(gB:∀b b' r,fget b=some (b',r)->jP (W3 w G).U b b' r){A:Am}{s:Ab}{p:PV}{v:Value}{ns:List Addr}{cg fO jV:List (Option PV)}{sZ:List Nat}
  (aP:wO 13 A) (eS:∀h:Ap,(∀a o,a∉ [134]->s.heap.get? a=some o->h.get? a=some o)->gm mg mb h) (hf:fe PB s.heap 154 23) (hP:s.heap.get? 134=some (G4 #[]))
  (hv:VR s.heap p v ns) (cb:134∉ns)
  (hA:zU (W6 w G).U mA (eI (aF 23) [p] (some (.none,fc)))=some (⟨cg,some (.none,fc)⟩, .next)) (h9:NP (W6 w G).U ⟨cg,some (.none,fc)⟩=some (⟨fO,some (.none,fc)⟩, .next)) (hB:zU (W6 w G).U mB ⟨fO,some (.none,fc)⟩=some (⟨jV,some (.none,fc)⟩, .next)) (bu:jV[15]?=some (some (.str sZ))) (hlen:sZ.length<=ag)
  (hC:∀u,∃g',NQ (W6 w G).U fget (nO (W6 w G).U fget 6) ⟨jV.set 17 (some (.obj u)),some (u,⟨sZ,1,[]⟩)⟩=some (g', .ret (.bool true))):
  Ca (Af PB w) A (.call (.ref 154) ⟨[v],[]⟩) (fun res s'=>res= .ok (.ret (.bool true))/\yZ s s'/\(∀a o,a≠134->s.heap.get? a=some o->s'.heap.get? a=some o)/\∃ps,s'.heap.get? 134=some (G4 ps)) s:=by
 have ok:cQ (WL w G 6) bq:=mX G rfl
 have jO:gm mg mb s.heap:=eS _ fun a o _ e=>e
 have X0:∀X:Ctx,X=⟨WL w G 6,qD 134 #[],aF 23⟩->X.C=aF 23/\cQ X.W bq:=fun X e=>by subst e;exact⟨rfl,ok⟩
 refine LO (X:=⟨WL w G 6,qD 134 #[],aF 23⟩) (tv:=[5,21]) (dv:=[]) (scope:=lG PB 23) (xs:=QC PB 23) (ps:=[p]) (vs:=[v]) (ns:=ns) (β:=some (.none,fc)) (K:=fE s.heap [134]) (F:=[134]) rfl (by decide+kernel) hf jO.lim aP (fun a o e=>(xd e).2) (fun h k=>eS h fun a o h1 h2=>k a o (jN h1 h2))
  (fun v b e=>⟨rfl,hP⟩) (fun a ha=>⟨by exact xT ha rfl,by rw[Ae.mp ha];exact⟨_,hP⟩,by rw[Ae.mp ha];exact cb⟩) (fun pm cd doc=>rfl) (ao.one hv) rfl (by intro i hi;simp at hi;refine(?_:1<=i);lia) fun env cd aa N mG hq gu pI T=>?_
 have zx:∀x c,env.cells.lookup x=some c->(aF 23).kn.lookup x=some .cell:=fun x c e=>by
  have h:∀y∈(lG PB 23).names,y.2= .cell->(aF 23).kn.lookup y.1=some .cell:=by decide+kernel
  exact h _ (pI x c e) rfl
 have eb:yN PB 23=(yN PB 23).take 9++([(yN PB 23)[9]]++(((yN PB 23).drop 10).take 5++((yN PB 23)[15]::(yN PB 23).drop 16))):=rfl
 rw[eb]
 refine EL (zZ6 ⟨WL w G 6,qD 134 #[],aF 23⟩ rfl ok) T hA fun N F s T=>?_
 refine EL (zP.ck (yA8 ⟨WL w G 6,qD 134 #[],aF 23⟩ rfl ok) (zP.nil rfl rfl)) T (pJ h9) fun N F s T=>?_
 refine EL (yBb ⟨WL w G 6,qD 134 #[],aF 23⟩ rfl ok) T hB fun N F s T=>?_
 refine Bd ?_
 refine zYc (W:=WL w G 6) (Cx₀:=aF 23) (zb:= "book") (zm:= "_law_lexer") (zs:= "text") (i:=17) (j:=15) T rfl (D:=11) rfl ((mkB w G).more rfl rfl (fun _ x=>x) (by decide)) (by rfl) (by decide) (by rfl) (by decide+kernel) G.f6 (fun h hh=>fe.obj hh.mS) (by rfl) (by decide+kernel) bu hlen zx fun u F' ps K' N' s' T' hKK mI=>?_
 refine aH (hC u) fun g' hC=>?_
 refine zE (zVr w G gB F' K' env _ _ _ _ _ _ _ _ _ T' hC) fun fw s₂ ai=>?_
 obtain⟨⟨r,ms,rfl,rv,_⟩,rQ,oR,aw⟩:=ai
 cases rv
 exact⟨rfl,aw.same,fun a o ha e=>aw.kept a o (hKK a o (jN (fun q=>ha (Ae.mp q)) e)),ps,aw.kept _ _ mI⟩
end
noncomputable def m9(r:List Nat):Prop:=∀c∈r,c≠13/\c≠10
theorem TL(cr:Bool)(c:Nat)(r:List Nat):cH cr (c::r)=if c==13 then 13::10::cH true r else if c==10 then(if cr then cH false r else 13::10::cH false r)else c::cH false r:=rfl
theorem TM(b:Bool)(c:Nat)(r:List Nat):dbl b (c::r)=(if b&&c==46 then [46,46]else [c])++dbl (c==10) r:=rfl
theorem TN:∀{row:List Nat} {t:List Nat},m9 row->cH false (row++t)=row++cH false t
 |[],t,_=>rfl
 |c::r,t,h=>by
  have hc:=h c (Aj ..)
  have e1:(c==13)=false:=by simpa using hc.1
  have e2:(c==10)=false:=by simpa using hc.2
  rw[B9]
  rw[TL,e1,e2]
  simp only[D8,if_false]
  rw[TN fun d hd=>h d (Ai _ hd)];rfl
theorem zUa{cr:Bool}{row:List Nat}{t:List Nat}(h:m9 row)(cY:row≠ []):cH cr (row++t)=row++cH false t:=by
 match row,cY with
 |c::r,_=>
  have hc:=h c (Aj ..)
  have e1:(c==13)=false:=by simpa using hc.1
  have e2:(c==10)=false:=by simpa using hc.2
  rw[B9]
  rw[TL,e1,e2]
  simp only[D8,if_false]
  rw[TN fun d hd=>h d (Ai _ hd)];rfl
theorem TP:∀{row:List Nat} {t:List Nat},m9 row->dbl false (row++13::10::t)=row++13::10::dbl true t
 |[],t,_=>rfl
 |c::r,t,h=>by
  have hc:=h c (Aj ..)
  have e2:(c==10)=false:=by simpa using hc.2
  rw[B9]
  rw[TM,e2]
  simp only[Gj,D8,if_false]
  rw[TP fun d hd=>h d (Ai _ hd)];rfl
noncomputable def ER(row:List Nat):List Nat:=(if row.head?=some 46 then [46]else [])++row++[13,10]
theorem zVf{row:List Nat}{t:List Nat}(h:m9 row)(cY:row≠ []):dbl true (row++13::10::t)=ER row++dbl true t:=by
 match row,cY with
 |c::r,_=>
  have hc:=h c (Aj ..)
  have e2:(c==10)=false:=by simpa using hc.2
  rw[B9]
  rw[TM,e2,TP fun d hd=>h d (Ai _ hd)]
  unfold ER
  by_cases NU:c=46
  ·subst NU;simp
  ·have:(c==46)=false:=by simpa using NU
   simp[NU]
noncomputable def uN:List (List Nat):=[[10],[13],[13,10]]
theorem TQ:∀(cr:Bool) (L:List (List Nat×List Nat)),(∀q∈L,q.1≠ []/\m9 q.1/\q.2∈uN)->cH cr (L.flatMap fun q=>q.1++q.2)=L.flatMap fun q=>q.1++[13,10]
 |_,[],_=>by simp[cH]
 |cr,q::L,h=>by
  refine dY (h q (Aj ..)) fun h1 h2 h3=>?_
  have ih:=fun cr=>TQ cr L fun q hq=>h q (Ai _ hq)
  rw[D1,Bf,zUa h2 h1,D1]
  simp only[uN,Ay,Aq,or_false]at h3
  rcases h3 with h3|h3|h3<;>rw[h3]
  ·refine(?_:q.1++(13::10::cH false (L.flatMap fun q=>q.1++q.2))=_)
   rw[ih];simp
  ·refine(?_:q.1++(13::10::cH true (L.flatMap fun q=>q.1++q.2))=_)
   rw[ih];simp
  ·refine(?_:q.1++(13::10::cH false (L.flatMap fun q=>q.1++q.2))=_)
   rw[ih];simp
theorem TR:∀(L:List (List Nat×List Nat)),(∀q∈L,q.1≠ []/\m9 q.1/\q.2∈uN)->dbl true (L.flatMap fun q=>q.1++[13,10])=L.flatMap fun q=>ER q.1
 |[],_=>rfl
 |q::L,h=>by
  refine dY (h q (Aj ..)) fun h1 h2 h3=>?_
  rw[D1,D1,Bf]
  refine(?_:dbl true (q.1++13::10::(L.flatMap fun q=>q.1++[13,10]))=_)
  rw[zVf h2 h1,TR L fun q hq=>h q (Ai _ hq)]
theorem zMm(L:List (List Nat×List Nat))(h:∀q∈L,q.1≠ []/\m9 q.1/\q.2∈uN):kR (L.flatMap fun q=>q.1++q.2)=L.flatMap fun q=>ER q.1:=by
 unfold kR
 rw[TQ false L h,TR L h]
noncomputable abbrev pn(n:Nat):PV:= .int (n:Int)
noncomputable abbrev At(σ:List (Option PV))(i:Nat)(p:PV):Prop:=σ[i]?=some (some p)
theorem At.lt{σ:List (Option PV)}{i:Nat}{p:PV}(h:At σ i p):i<σ.length:=(Bc.mp h).1
theorem At.set{σ:List (Option PV)}{i j:Nat}{p q:PV}(h:At σ j q)(cY:i≠j):At (σ.set i (some p)) j q:=by unfold At;rw[Bl cY];exact h
theorem yO{σ:List (Option PV)}{i:Nat}{p:PV}(h:i<σ.length):At (σ.set i (some p)) i p:=by unfold At;rw[D0 h]
theorem At.app{σ τ:List (Option PV)}{i:Nat}{p:PV}(h:At σ i p):At (σ++τ) i p:=by unfold At;rw[B6 h.lt];exact h
theorem wY{σ:List (Option PV)}{n:Nat}{p:PV}{τ:List (Option PV)}(h:σ.length=n):At (σ++some p::τ) n p:=by unfold At;rw[C3 (by exact Cr ‹_›),h,Mg];rfl
section
variable{U:Uc}{σ:List (Option PV)}{β:Option (Value×aj)}
theorem zA{i:Nat}{p:PV}(h:At σ i p):ev U (.var i) σ=some p:=by refine(?_:(σ[i]?).bind id=_);rw[h];rfl
theorem yL{e:PE}{l:List Nat}:fresh e (.str l)=true:=by cases e<;>rfl
theorem zO{e:PE}{n:Int}:fresh e (.int n)=true:=by cases e<;>rfl
theorem zOr{e:PE}{b:Bool}:fresh e (.bool b)=true:=by cases e<;>rfl
theorem zD{i:Nat}{e:PE}{p:PV}(h:ev U e σ=some p)(hf:fresh e p=true):den U (.assign i e) ⟨σ,β⟩=some (⟨σ.set i (some p),β⟩, .next):=by
 refine(?_:(fD U e ⟨σ,β⟩).bind _=_)
 unfold fD
 rw[h]
 refine(?_:(if fresh e p=true then _ else _:Option (Sg×PV)).bind _=_)
 rw[if_pos hf];rfl
theorem zy{i:Nat}{e:PE}{p:PV}{l:List PV}(hl:At σ i (.list l))(h:ev U e σ=some p)(hf:fresh e p=true)(hs:l.length<=ag):den U (.append i e) ⟨σ,β⟩=some (⟨σ.set i (some (.list (l++[p]))),β⟩, .next):=by
 have e1:lB ⟨σ,β⟩ i=some l:=HZ hl
 refine(?_:(lB ⟨σ,β⟩ i).bind _=_)
 rw[e1]
 refine(?_:(ev U e σ).bind _=_)
 rw[h]
 refine(?_:(if(fresh e p&&decide (l.length<=ag))=true then _ else _)=_)
 refine xT (by rw[hf];simpa using hs) ?_;rfl
theorem TS{i:Nat}{e:PE}{a b:List Nat}(ha:At σ i (.str a))(h:ev U e σ=some (.str b))(hs:a.length+b.length<=ag):den U (.aug .Add i e) ⟨σ,β⟩=some (⟨σ.set i (some (.str (a++b))),β⟩, .next):=by
 refine(?_:((σ[i]?).bind id).bind _=_)
 rw[ha]
 refine(?_:(ev U e σ).bind _=_)
 rw[h]
 refine(?_:(if a.length+b.length<=ag then some (PV.str (a++b))else none:Option PV).map _=_)
 rw[if_pos hs];rfl
theorem zz{c:PT}{a b:ey}{t:Bool}(h:aZ U c σ=some t):den U (.ifs c a b) ⟨σ,β⟩=if t then zU U a ⟨σ,β⟩else zU U b ⟨σ,β⟩:=by
 refine(?_:(aZ U c σ).bind _=_)
 rw[h];rfl
theorem uO{n:Nat}(h:n<=16777216):wC (n:Int)=true:=by
 exact Ba.mpr ⟨decide_eq_true (by exact yC),decide_eq_true (by exact yA)⟩
theorem TU{n m:Nat}(h:n<m):F6 (n:Int) m=some n:=by
 unfold F6
 simp only[Lr.mpr (Et n),if_false]
 refine xT (Ba.mpr ⟨decide_eq_true (Et n),decide_eq_true (Int.ofNat_lt.mpr h)⟩) ?_;rfl
theorem zSe{f:List PV->Option (Option PV)}{α:Type}{l:List α}{it:α->List PV}{b:α->Bool}{g:α->PV}(h:∀x∈l,f (it x)=if b x then some (some (g x))else some none):zQ f (l.map it)=some ((l.filter b).map g):=by
 induction l with
 |nil=>rfl
 |cons x l ih=>
  have hx:=h x (Aj ..)
  have ih:=ih fun y hy=>h y (Ai _ hy)
  rw[Dp]
  unfold zQ
  rw[hx]
  cases hb:b x with
  |true=>simp only[if_true];rw[ih,Gn,if_pos hb];rfl
  |false=>simp only[D8,if_false];rw[ih,Gn,if_neg (by rw[hb];decide)]
theorem kX{elt:PE}{src:nW}{α:Type}{l:List α}{it:α->List PV}{g:α->PV}(hs:kh U src σ=some (l.map it))(hl:l.length<=ag)(h:∀x∈l,ev U elt (σ++(it x).map some)=some (g x)/\fresh elt (g x)=true):
  ev U (.comp elt src .nil) σ=some (.list (l.map g)):=by
 refine(?_:(kh U src σ).bind _=_)
 rw[hs]
 refine(?_:(if(l.map it).length<=ag then _ else _:Option PV)=_)
 (refine xT (by simpa using hl) ?_;rw[zSe (it:=it) (b:=fun _=>true) (g:=g) fun x hx=>?_])
 ·rw[List.filter_eq_self.mpr fun _ _=>rfl];rfl
 ·refine aq (h x hx) fun h1 h2=>?_
  refine(?_:((some true:Option Bool).bind fun ok=>if ok then _ else _)=_)
  simp only[As,if_true]
  rw[h1]
  refine(?_:(if fresh elt (g x)=true then _ else _)=_)
  exact xT h2 rfl
theorem wR{elt:PE}{src:nW}{ts:eC}{α:Type}{l:List α}{g:α->PV}(h:∀x∈l,fresh elt (g x)=true):fresh (.comp elt src ts) (.list (l.map g))=true:=by
 refine(?_:(l.map g).all (fresh elt)=true)
 rw[Hd,Ao]
 exact h
theorem qN{e:PE}{n:Nat}(h:ev U e σ=some (pn n))(hn:n<=16777216):kh U (.eD e) σ=some ((Au n).map fun i=> [pn i]):=by
 refine(?_:(ev U e σ).bind _=_)
 refine zK h ?_
 refine(if_pos (Ba.mpr ⟨uO hn,decide_eq_true (by exact yD)⟩)).trans ?_
 unfold pU
 simp
theorem ES{e:PE}{l:List PV}(h:ev U e σ=some (.list l)):kh U (.items e) σ=some (l.map fun x=> [x]):=by
 refine(?_:(ev U e σ).bind _=_)
 rw[h];rfl
theorem NV:∀(l:List Nat),PV.ints (l.map pn)=some (l.map fun n:Nat=>(n:Int))
 |[]=>rfl
 |n::l=>by
  refine(?_:(PV.ints (l.map pn)).map _=_)
  rw[NV l];rfl
theorem TV:∀(l:List (List Nat)),PV.strs (l.map PV.str)=some l
 |[]=>rfl
 |n::l=>by
  refine(?_:(PV.strs (l.map PV.str)).map _=_)
  rw[TV l];rfl
theorem s7{e:PE}{l:List (List Nat)}(h:ev U e σ=some (.list (l.map PV.str)))(hs:(l.map B3).sum<=ag):ev U (.me 0 (.lit (.str [])) (.cons e .nil)) σ=some (.str l.flatten):=by
 refine(?_:((ev U e σ).bind fun x=>(some []).map (x:: ·)).bind _=_)
 rw[h]
 refine(?_:(PV.strs (l.map PV.str)).bind _=_)
 rw[TV]
 refine(?_:(if(l.map B3).sum+l.length*([]:List Nat).length<=ag then _ else _:Option PV)=_)
 (refine xT (by simpa using hs) ?_;rw[M8])
theorem zRs{l:List PV}{i:Int}{k:Nat}{p:PV}(hf:wC i=true)(hk:F6 i l.length=some k)(hp:l[k]?=some p):tS (.list l) (.int i)=some p:=by
 unfold tS
 (refine xT hf ?_;rw[hk])
 exact hp
theorem TX{l:List Nat}{i:Int}{k c:Nat}(hf:wC i=true)(hk:F6 i l.length=some k)(hp:l[k]?=some c):tS (.str l) (.int i)=some (.str [c]):=by
 unfold tS
 dsimp only
 rw[if_pos hf,hk,As,hp]
 rfl
theorem wB{e:PE}{l:List PV}{p:PV}{j:PE}{n:Nat}(h:ev U e σ=some (.list l))(hj:ev U j σ=some (pn n))(hn:l[n]?=some p)(hs:l.length<=ag):ev U (.idx e j) σ=some p:=by
 have aX:n<l.length:=(Bc.mp hn).1
 refine(?_:(ev U e σ).bind _=_)
 (refine zK h ?_;refine zK hj ?_)
 exact zRs (uO (by unfold ag at hs;exact yS)) (TU aX) hn
theorem uP{e:PE}{l:List Nat}{c:Nat}{j:PE}{n:Nat}(h:ev U e σ=some (.str l))(hj:ev U j σ=some (pn n))(hn:l[n]?=some c)(hs:l.length<=ag):ev U (.idx e j) σ=some (.str [c]):=by
 have aX:n<l.length:=(Bc.mp hn).1
 refine(?_:(ev U e σ).bind _=_)
 (refine zK h ?_;refine zK hj ?_)
 exact TX (uO (by unfold ag at hs;exact yS)) (TU aX) hn
theorem jB{a b:PE}{m n:Nat}(ha:ev U a σ=some (pn m))(hb:ev U b σ=some (pn n))(hn:0<n):ev U (.bin .Mod a b) σ=some (pn (m%n)):=by
 refine(?_:(ev U a σ).bind _=_)
 rw[ha]
 refine(?_:(ev U b σ).bind _=_)
 rw[hb]
 refine(?_:H6 PV.int (if decide (0<(n:Int))=true then some ((m:Int)%(n:Int))else none)=_)
 rw[if_pos (by simp;assumption)]
 rfl
theorem pK{a b:PE}{m n:Nat}(ha:ev U a σ=some (pn m))(hb:ev U b σ=some (pn n))(hn:0<n/\n<1073741824):ev U (.bin .FloorDiv a b) σ=some (pn (m/n)):=by
 refine(?_:(ev U a σ).bind _=_)
 rw[ha]
 refine(?_:(ev U b σ).bind _=_)
 rw[hb]
 refine(?_:H6 PV.int (if(decide (0<(n:Int))&&decide ((n:Int)<1073741824))=true then some ((m:Int)/(n:Int))else none)=_)
 rw[if_pos (by simp;lia)]
 rfl
theorem wL{a b:PE}{m n:Nat}(ha:ev U a σ=some (pn m))(hb:ev U b σ=some (pn n)):ev U (.bin .Add a b) σ=some (pn (m+n)):=by
 refine(?_:(ev U a σ).bind _=_)
 rw[ha]
 refine(?_:(ev U b σ).bind _=_)
 rw[hb];rfl
theorem pL{a b:PE}{m n:List Nat}(ha:ev U a σ=some (.str m))(hb:ev U b σ=some (.str n))(hs:m.length+n.length<=ag):ev U (.bin .Add a b) σ=some (.str (m++n)):=by
 refine(?_:(ev U a σ).bind _=_)
 rw[ha]
 refine(?_:(ev U b σ).bind _=_)
 rw[hb]
 refine(?_:(if m.length+n.length<=ag then _ else _)=_)
 exact xT hs rfl
theorem TY{a:PE}{m:List PV}(ha:ev U a σ=some (.list m))(hs:m.length<=ag):ev U (.bi 0 (.cons a .nil)) σ=some (pn m.length):=by
 refine(?_:((ev U a σ).bind fun x=>(some []).map (x:: ·)).bind _=_)
 rw[ha]
 refine(?_:(if m.length<=ag then _ else _)=_)
 exact xT hs rfl
theorem qO{a:PE}{m:List Nat}(ha:ev U a σ=some (.str m))(hs:m.length<=ag):ev U (.bi 0 (.cons a .nil)) σ=some (pn m.length):=by
 refine(?_:((ev U a σ).bind fun x=>(some []).map (x:: ·)).bind _=_)
 rw[ha]
 refine(?_:(if m.length<=ag then _ else _)=_)
 exact xT hs rfl
theorem ET{c:PT}{a b:PE}{t:Bool}(h:aZ U c σ=some t):ev U (.ite c a b) σ=if t then ev U a σ else ev U b σ:=by
 refine(?_:(aZ U c σ).bind _=_)
 rw[h];rfl
theorem NW{a b:PE}{m n:Nat}(ha:ev U a σ=some (pn m))(hb:ev U b σ=some (pn n)):aZ U (.cmp .Eq a b) σ=some (m==n):=by
 refine(?_:(ev U a σ).bind _=_)
 rw[ha]
 refine(?_:(ev U b σ).bind _=_)
 rw[hb]
 refine(?_:some ((m:Int)==(n:Int))=_)
 congr 1
 by_cases h:m=n
 ·subst h;simp
 ·have:((m:Int)==(n:Int))=false:=by simp;exact xF ‹_›
  rw[this];simp[h]
theorem s9{a b:PE}{m n:Nat}(ha:ev U a σ=some (pn m))(hb:ev U b σ=some (pn n)):aZ U (.cmp .Gt a b) σ=some (decide (n<m)):=by
 refine(?_:(ev U a σ).bind _=_)
 rw[ha]
 refine(?_:(ev U b σ).bind _=_)
 rw[hb]
 refine(?_:some (decide ((n:Int)<(m:Int)))=_)
 congr 1
 simp
end
set_option genSizeOf false
set_option genInjectivity false
noncomputable def EU:PS->ey
 | .forR _ _ b=>b
 | .rF _ _ b=>b
 | .rG _ _ b=>b
 |_=> .nil
section
variable{U:Uc}{σ:List (Option PV)}{β:Option (Value×aj)}{xs:List Nat}{tot:Nat}
theorem zG{q:PS}{r:ey}{g g₁:Sg}(e:den U q g=some (g₁, .next)):zU U (.cons q r) g=zU U r g₁:=zM e
end
set_option genInjectivity true
section
variable{U:Uc}{σ:List (Option PV)}{β:Option (Value×aj)}{xs:List Nat}{tot:Nat}
theorem EV{i n:Nat}{e:PE}{b:ey}(h:ev U e σ=some (pn n))(hn:n<=16777216):den U (.forR i e b) ⟨σ,β⟩=wE [i] (zU U b) ((Au n).map fun k=> [pn k]) ⟨σ,β⟩:=by
 refine(?_:((kh U (.eD e) σ).bind _)=_)
 exact zK (qN h hn) rfl
end
section
variable{U:Uc}{σ:List (Option PV)}{β:Option (Value×aj)}
theorem NX:∀(is:List Int) (idx:List Nat),PV.ints (idx.filterMap ((is.map PV.int)[·]?))=some (idx.filterMap (is[·]?))
 |is,[]=>rfl
 |is,j::idx=>by
  rw[Dh,Dh,Bj]
  cases is[j]? with
  |none=>exact NX is idx
  |some x=>
   refine(?_:(PV.ints (idx.filterMap _)).map _=_)
   rw[NX is idx];rfl
theorem yAd{is:List Int}{k:Nat}{st:Int}(h0:At σ 0 (.list (is.map .int)))(hl:is.length<=1000)(hk:At σ 27 (pn k))(hs:At σ 28 (.int st)):
  ∃n:Nat,ev U (.bin .Mod (.bin .Add (.var 28) (.bi 1 (.cons (.bI (.var 0) (.yes (.var 27)) .no (.yes (.lit (.int 5)))) .nil))) (.lit (.int 1000000))) σ=some (pn n):=by
 have e1:ev U (.bI (.var 0) (.yes (.var 27)) .no (.yes (.lit (.int 5)))) σ=some (.list ((Gz (Ck (some (k:Int)) none (some 5) is.length).1 (Ck (some (k:Int)) none (some 5) is.length).2.1 (Ck (some (k:Int)) none (some 5) is.length).2.2).filterMap ((is.map PV.int)[·]?))):=by
  refine(?_:(ev U (.var 0) σ).bind _=_)
  refine zK (zA h0) ?_
  refine(?_:((ev U (.var 27) σ).bind _).bind _=_)
  rw[zA hk,As]
  refine(?_:AV (.list (is.map PV.int)) (some (k:Int)) none (some 5)=_)
  have:((5:Int)==0||decide (ag<(is.map PV.int).length))=false:=by simp[ag];exact zB
  unfold AV
  dsimp only
  rw[this]
  simp
 have e2:ev U (.bi 1 (.cons (.bI (.var 0) (.yes (.var 27)) .no (.yes (.lit (.int 5)))) .nil)) σ=some (.int ((Gz (Ck (some (k:Int)) none (some 5) is.length).1 (Ck (some (k:Int)) none (some 5) is.length).2.1 (Ck (some (k:Int)) none (some 5) is.length).2.2).filterMap (is[·]?)).sum):=by
  refine(?_:((ev U _ σ).bind fun x=>(some []).map (x:: ·)).bind _=_)
  rw[e1]
  refine(?_:(PV.ints _).bind _=_)
  rw[NX];rfl
 generalize((Gz (Ck (some (k:Int)) none (some 5) is.length).1 (Ck (some (k:Int)) none (some 5) is.length).2.1 (Ck (some (k:Int)) none (some 5) is.length).2.2).filterMap (is[·]?)).sum=S at e2
 have e3:ev U (.bin .Add (.var 28) (.bi 1 (.cons (.bI (.var 0) (.yes (.var 27)) .no (.yes (.lit (.int 5)))) .nil))) σ=some (.int (st+S)):=by
  refine(?_:(ev U (.var 28) σ).bind _=_)
  (refine zK (zA hs) ?_;rw[e2]);rfl
 refine cu (((st+S)%1000000).toNat) ?_
 refine(?_:(ev U (.bin .Add _ _) σ).bind _=_)
 rw[e3]
 refine(?_:some (PV.int ((st+S)%1000000))=_)
 have:0<=(st+S)%1000000:=Int.emod_nonneg _ (by decide)
 refine(?_:_=some (PV.int (((st+S)%1000000).toNat:Int)))
 rw[Im this]
theorem zWu{elt:PE}{src:nW}:∀{its:List (List PV)},kh U src σ=some its->its.length<=ag->(∀it∈its,∃n:Nat,ev U elt (σ++it.map some)=some (pn n))->∃ns:List Nat,ns.length=its.length/\ev U (.comp elt src .nil) σ=some (.list (ns.map pn)):=by
 intro its hs hl h
 have:∀its:List (List PV),(∀it∈its,∃n:Nat,ev U elt (σ++it.map some)=some (pn n))->∃ns:List Nat,ns.length=its.length/\zQ (fun it=>(nY U .nil (σ++it.map some)).bind fun ok=>if ok then(ev U elt (σ++it.map some)).bind fun y=>if fresh elt y then some (some y)else none else some none) its=some (ns.map pn):=by
  intro its
  induction its with
  |nil=>exact fun _=>⟨[],rfl,rfl⟩
  |cons it its ih=>
   intro h
   refine aH (h it (Aj ..)) fun n hn=>?_
   refine aB (ih fun q hq=>h q (Ai _ hq)) fun ns h1 h2=>?_
   refine i12 (n::ns) (by simp[h1]) ?_
   unfold zQ
   have e1:(nY U .nil (σ++it.map some)).bind (fun ok=>if ok then(ev U elt (σ++it.map some)).bind fun y=>if fresh elt y then some (some y)else none else some none)=some (some (pn n)):=by
    refine(?_:((some true:Option Bool).bind fun ok=>if ok then _ else _)=_)
    simp only[As,if_true]
    (refine zK hn ?_;exact xT zO rfl)
   rw[e1]
   rw[h2];rfl
 refine aB (this its h) fun ns h1 h2=>?_
 refine i12 ns h1 ?_
 refine(?_:(kh U src σ).bind _=_)
 (refine zK hs ?_;refine xT hl ?_;rw[h2]);rfl
theorem zZj{is:List Int}(h0:At σ 0 (.list (is.map .int)))(hl:is.length<=1000)(bu:σ.length=27):∃xs:List Nat,xs.length=5/\den U m0 ⟨σ,β⟩=some (⟨σ.set 2 (some (.list (xs.map pn))),β⟩, .next):=by
 obtain⟨xs,h1,h2⟩:=zWu (U:=U) (σ:=σ) (elt:= .bin .Mod (.bin .Add (.var 28) (.bi 1 (.cons (.bI (.var 0) (.yes (.var 27)) .no (.yes (.lit (.int 5)))) .nil))) (.lit (.int 1000000)))
  (src:= .enum (.list (.cons (.lit (.int 5)) (.cons (.lit (.int 36)) (.cons (.lit (.int 67)) (.cons (.lit (.int 22)) (.cons (.lit (.int 54)) .nil))))))) (its:=[[pn 0,pn 5],[pn 1,pn 36],[pn 2,pn 67],[pn 3,pn 22],[pn 4,pn 54]]) rfl (by decide) (fun it hit=>by
   have key:∀(k:Nat) (st:Int),∃n:Nat,ev U (.bin .Mod (.bin .Add (.var 28) (.bi 1 (.cons (.bI (.var 0) (.yes (.var 27)) .no (.yes (.lit (.int 5)))) .nil))) (.lit (.int 1000000))) (σ++[some (pn k),some (.int st)])=some (pn n):=fun k st=>by
    refine yAd (st:=st) (h0.app (τ:=[some (pn k),some (.int st)])) hl (wY bu) ?_
    refine(?_:At (σ++([some (pn k)]++[some (.int st)])) 28 _)
    rw[<-Bf]
    exact wY (by simp[bu])
   simp only[Ay,Aq,or_false]at hit
   rcases hit with rfl|rfl|rfl|rfl|rfl<;>exact key _ _)
 refine i12 xs h1 (zD h2 (wR fun x _=>zO))
theorem yBl{i:Nat}{xs:List Nat}(h:At σ i (.list (xs.map pn))):ev U (.bi 1 (.cons (.var i) .nil)) σ=some (pn xs.sum):=by
 refine(?_:((ev U (.var i) σ).bind fun x=>(some []).map (x:: ·)).bind _=_)
 rw[zA h]
 refine(?_:(PV.ints (xs.map pn)).bind _=_)
 rw[NV]
 refine(?_:some (PV.int ((xs.map fun n:Nat=>(n:Int)).sum))=_)
 have:∀l:List Nat,((l.map fun n:Nat=>(n:Int)).sum)=(l.sum:Int):=by
  intro l
  induction l with
  |nil=>rfl
  |cons x l ih=>simp only[Dp,Lo,ih];lia
 rw[this]
end
noncomputable def things:List (List Nat):=[[],[92,40],[92,41],[34,40,34],[34,41,34],[34,92,34,41,34],[92,92],[92,34],[34]]
section
variable{U:Uc}{σ:List (Option PV)}{β:Option (Value×aj)}{xs:List Nat}
theorem yC5(a:List Nat)(n:Int):AS .Mult (.str a) (.int n)=if(wC n&&decide (a.length*n.toNat<=ag))=true then some (.str (A0 n.toNat a).flatten)else none:=rfl
theorem TZ{e:PE}{c n:Nat}(h:ev U e σ=some (pn n))(hn:n<=1000):ev U (.bin .Mult (.lit (.str [c])) e) σ=some (.str (A0 n c)):=by
 refine(?_:(some (PV.str [c])).bind _=_)
 rw[As,h,As]
 rw[yC5]
 refine xT (by rw[uO (by exact zB),H9];exact decide_eq_true (by simp[ag];exact zB)) ?_
 have:∀n:Nat,(A0 n [c]).flatten=A0 n c:=by
  intro n
  induction n with
  |zero=>rfl
  |succ n ih=>rw[Di,List.flatten_cons,ih,Di];rfl
 refine(?_:some (PV.str (A0 n [c]).flatten)=_)
 rw[this]
theorem ng{α β:Type}(f:α->β){l:List α}{i:Nat}(d:α)(h:i<l.length):(l.map f)[i]?=some (f (l.getD i d)):=by
 rw[Bj,A4,Aw h];rfl
theorem tb{α:Type}{l:List α}{i:Nat}(d:α)(h:i<l.length):l[i]?=some (l.getD i d):=by
 rw[A4,Aw h];rfl
end
section
variable{U:Uc}{σ:List (Option PV)}{β:Option (Value×aj)}{xs:List Nat}{tot:Nat}{sp:List Nat}{nm:List (List Nat)}{od:List Nat}{pc:List (List Nat)}
theorem qP{α:Type}(f:α->Nat)(b:Nat):∀l:List α,(∀x∈l,f x<=b)->(l.map f).sum<=l.length*b
 |[],_=>by simp
 |x::l,h=>by
  have:=qP f b l fun y hy=>h y (Ai _ hy)
  have:=h x (Aj ..)
  simp only[Dp,Lo,Cg,Nat.add_mul]
  lia
end
set_option genSizeOf false
noncomputable def xI:Nat->Bool->List Nat->Nat->List (Nat×List Nat)
 |_,e,[],p=>if e then [(p,[92])]else []
 |i,e,c::r,_=>if e then(i,[92,c])::xI (i+1) false r i else if c==92 then xI (i+1) true r i else(i,[c])::xI (i+1) false r i
theorem EW:∀(al:List Nat) (i:Nat) (e:Bool) (p:Nat),dJ i e al (p:Int)=(xI i e al p).map fun x=>((x.1:Int),x.2)
 |[],i,e,p=>by cases e<;>rfl
 |c::r,i,e,p=>by
  refine(?_:(if e then((i:Int),[92,c])::dJ (i+1) false r i else if c==92 then dJ (i+1) true r i else((i:Int),[c])::dJ (i+1) false r i)=(if e then(i,[92,c])::xI (i+1) false r i else if c==92 then xI (i+1) true r i else(i,[c])::xI (i+1) false r i).map fun x=>((x.1:Int),x.2))
  rw[EW r (i+1) false i,EW r (i+1) true i]
  cases e with
  |true=>rfl
  |false=>
   cases h:(c==92)with
   |true=>rfl
   |false=>rfl
noncomputable def xD(s:List Nat)(a b:Nat):List Nat:=(s.drop (min a s.length)).take (min b s.length-min a s.length)
theorem T1(s:List Nat)(a b:Nat):(xD s a b).length<=s.length:=by
 unfold xD
 rw[Cu,Bw];exact Ad (J1 _ _) (Hr _ _)
structure lP where
 st:Nat
 op:Option Nat
 rs:List (List Nat)
noncomputable def nh(addr:List Nat)(x:Nat×List Nat)(s:lP):lP:=if x.2==[34]then(match s.op with
 |none=>⟨s.st,some x.1,s.rs⟩
 |some o=>⟨x.1+1,none,if s.st==o then s.rs else s.rs++[xD addr s.st o]⟩)else s
noncomputable def iQ(addr:List Nat):List (Nat×List Nat)->lP->lP
 |[],s=>s
 |x::r,s=>iQ addr r (nh addr x s)
noncomputable def xZ(addr:List Nat):List Nat:=if addr.contains 34 then
 (let s:=iQ addr (xI 0 false addr 0) ⟨0,none,[]⟩;
  (if s.st<addr.length then s.rs++[xD addr s.st addr.length]else s.rs).flatten)else addr
noncomputable def xC:List (Nat×List Nat)->Nat->Bool
 |[],o=>o==0
 |x::r,o=>if x.2==[40]then xC r (o+1)else if x.2==[41]then(match o with|0=>false|o+1=>xC r o)else xC r o
noncomputable def zX(s:List Nat):Bool:=xC (xI 0 false (xZ s) 0) 0
noncomputable def T3:Option Nat->PV
 |none=> .none
 |some o=>pn o
structure SR(addr:List Nat)(σ:List (Option PV))(s:lP):Prop where
 len:σ.length=6
 a:At σ 0 (.str addr)
 st:At σ 1 (pn s.st)
 op:At σ 2 (T3 s.op)
 rs:At σ 3 (.list (s.rs.map .str))
section
variable{U:Uc}{σ:List (Option PV)}{β:Option (Value×aj)}{addr:List Nat}{s:lP}
theorem eq_str{i:Nat}{a b:List Nat}(h:At σ i (.str a)):aZ U (.cmp .Eq (.var i) (.lit (.str b))) σ=some (a==b):=by
 refine(?_:(ev U (.var i) σ).bind _=_)
 rw[zA h];rfl
theorem EX(a n:Nat):C9 (some (a:Int)) n=min a n:=by
 unfold C9
 refine eV (Lr.mpr (Et a)) ?_;rfl
theorem NY(a n:Nat):Fu (some (a:Int)) n=min a n:=by
 unfold Fu
 refine eV (Lr.mpr (Et a)) ?_;rfl
theorem gE{c:PT}{a b:ey}{r:Option (Sg×Fl)}(h:aZ U c σ=some true)(e:zU U a ⟨σ,β⟩=r):den U (.ifs c a b) ⟨σ,β⟩=r:=(zz h).trans e
theorem fQ{c:PT}{a b:ey}{r:Option (Sg×Fl)}(h:aZ U c σ=some false)(e:zU U b ⟨σ,β⟩=r):den U (.ifs c a b) ⟨σ,β⟩=r:=(zz h).trans e
theorem fk{q:PS}{g g₁:Sg}(e:den U q g=some (g₁, .next)):zU U (.cons q .nil) g=some (g₁, .next):=(zG (r:= .nil) e).trans rfl
theorem zVb{i j:Nat}{e:PE}{a b:Nat}{s:List Nat}(hs:At σ i (.str s))(hl:s.length<=ag)(ha:At σ j (pn a))(hb:ev U e σ=some (pn b)):ev U (.bI (.var i) (.yes (.var j)) (.yes e) .no) σ=some (.str (xD s a b)):=by
 refine(?_:(ev U (.var i) σ).bind _=_)
 refine zK (zA hs) ?_
 refine(?_:((ev U (.var j) σ).bind _).bind _=_)
 rw[zA ha,As]
 refine(?_:Option.bind (some (some (a:Int))) (fun l=>((ev U e σ).bind _).bind _)=_)
 rw[As,hb,As]
 refine(?_:(if s.length<=ag then some (PV.str ((s.drop (C9 (some (a:Int)) s.length)).take (Fu (some (b:Int)) s.length-C9 (some (a:Int)) s.length)))else none)=_)
 refine xT hl ?_
 rw[EX,NY];rfl
theorem T4{i j:Nat}{a:Nat}{s:List Nat}(hs:At σ i (.str s))(hl:s.length<=ag)(ha:At σ j (pn a)):ev U (.bI (.var i) (.yes (.var j)) .no .no) σ=some (.str (xD s a s.length)):=by
 refine(?_:(ev U (.var i) σ).bind _=_)
 refine zK (zA hs) ?_
 refine(?_:((ev U (.var j) σ).bind _).bind _=_)
 rw[zA ha,As]
 refine(?_:(if s.length<=ag then some (PV.str ((s.drop (C9 (some (a:Int)) s.length)).take (s.length-C9 (some (a:Int)) s.length)))else none)=_)
 refine xT hl ?_
 rw[EX]
 unfold xD
 rw[Mh]
theorem zSj(h:SR addr σ s)(hl:addr.length<=1000)(hr:s.rs.length<=1000){p:Nat}{ch:List Nat}:∃aJ,zU U qM ⟨(σ.set 4 (some (pn p))).set 5 (some (.str ch)),β⟩=some (⟨aJ,β⟩, .next)/\SR addr aJ (nh addr (p,ch) s):=by
 have sz:addr.length<=ag:=by exact zB
 generalize lQ:(σ.set 4 (some (pn p))).set 5 (some (.str ch))=τ
 have L:τ.length=6:=by rw[<-lQ];simp[h.len]
 have a0:At τ 0 (.str addr):=by rw[<-lQ];exact(h.a.set (by decide)).set (by decide)
 have a1:At τ 1 (pn s.st):=by rw[<-lQ];exact(h.st.set (by decide)).set (by decide)
 have a2:At τ 2 (T3 s.op):=by rw[<-lQ];exact(h.op.set (by decide)).set (by decide)
 have a3:At τ 3 (.list (s.rs.map .str)):=by rw[<-lQ];exact(h.rs.set (by decide)).set (by decide)
 have a4:At τ 4 (pn p):=by rw[<-lQ];exact(yO (by rw[h.len];decide)).set (by decide)
 have a5:At τ 5 (.str ch):=by rw[<-lQ];exact yO (by simp[h.len])
 unfold nh
 by_cases hq:ch==[34]
 ·rw[if_pos hq]
  have t1:aZ U (.cmp .Eq (.var 5) (.lit (.str [34]))) τ=some true:=by rw[eq_str a5,hq]
  obtain⟨st,op,rs⟩:=s
  cases op with
  |none=>
   have t2:aZ U (.cmp .Is (.var 2) (.lit .none)) τ=some true:=by
    refine(?_:(ev U (.var 2) τ).bind _=_)
    rw[zA a2];rfl
   refine i12 (τ.set 2 (some (pn p))) ?_ ⟨by rw[Ct];exact L,a0.set (by decide),a1.set (by decide),yO (by rw[L];decide),a3.set (by decide)⟩
   exact fk (gE t1 (fk (gE t2 (fk (zD (zA a4) zO)))))
  |some o=>
   have t2:aZ U (.cmp .Is (.var 2) (.lit .none)) τ=some false:=by
    refine(?_:(ev U (.var 2) τ).bind _=_)
    rw[zA a2];rfl
   have t3:aZ U (.cmp .NotEq (.var 1) (.var 2)) τ=some (!(st==o)):=by
    refine(?_:(ev U (.var 1) τ).bind _=_)
    (refine zK (zA a1) ?_;rw[zA a2])
    refine(?_:some ((st:Int) !=(o:Int))=_)
    by_cases h:st=o
    ·subst h;simp
    ·have e1:((st:Int) !=(o:Int))=true:=by simp;exact xF ‹_›
     have e2:(st==o)=false:=by simpa using h
     rw[e1,e2];rfl
   have fin:∀(ρ:List (Option PV)) (NZ:List (List Nat)),ρ.length=6->At ρ 0 (.str addr)->At ρ 4 (pn p)->At ρ 3 (.list (NZ.map .str))->∃aJ,zU U (.cons (.assign 1 (.bin .Add (.var 4) (.lit (.int 1)))) (.cons (.assign 2 (.lit .none)) .nil)) ⟨ρ,β⟩=some (⟨aJ,β⟩, .next)/\SR addr aJ ⟨p+1,none,NZ⟩:=fun ρ NZ hL h0 h4 h3=>by
    refine i12 ((ρ.set 1 (some (pn (p+1)))).set 2 (some .none)) ?_ ⟨by simp[hL],(h0.set (by decide)).set (by decide),(yO (by rw[hL];decide)).set (by decide),yO (by simp[hL]),(h3.set (by decide)).set (by decide)⟩
    exact(zG (zD (wL (n:=1) (zA h4) rfl) zO)).trans (fk (zD (e:= .lit .none) rfl rfl))
   have step:∃ρ,den U (.ifs (.cmp .NotEq (.var 1) (.var 2)) (.cons (.append 3 (.bI (.var 0) (.yes (.var 1)) (.yes (.var 2)) .no)) .nil) .nil) ⟨τ,β⟩=some (⟨ρ,β⟩, .next)/\ρ.length=6/\At ρ 0 (.str addr)/\At ρ 4 (pn p)/\At ρ 3 (.list ((if st==o then rs else rs++[xD addr st o]).map .str)):=by
    by_cases h:st==o
    ·refine GG τ (fQ (t3.trans (by rw[h];rfl)) rfl) L a0 a4 (by rw[if_pos h];exact a3)
    ·have h':(st==o)=false:=by simpa using h
     refine GG (τ.set 3 (some (.list (rs.map .str++[.str (xD addr st o)])))) ?_ (by rw[Ct];exact L) (a0.set (by decide)) (a4.set (by decide)) ?_
     ·exact gE (t3.trans (by rw[h'];rfl)) (fk (zy a3 (zVb a0 sz a1 (zA a2)) yL (by have hr:rs.length<=1000:=hr;rw[An];exact zB)))
     ·rw[if_neg h,show(rs++[xD addr st o]).map PV.str=rs.map .str++[.str (xD addr st o)]by simp]
      exact yO (by rw[L];decide)
   refine pQ step fun ρ e1 hL h0 h4 h3=>?_
   refine aB (fin ρ _ hL h0 h4 h3) fun aJ e2 hS=>?_
   refine i12 aJ ?_ hS
   exact fk (gE t1 (fk (fQ t2 ((zG e1).trans e2))))
 ·rw[if_neg hq]
  have hq':(ch==[34])=false:=by simpa using hq
  have t1:aZ U (.cmp .Eq (.var 5) (.lit (.str [34]))) τ=some false:=by rw[eq_str a5,hq']
  exact i12 τ (fk (fQ t1 rfl)) ⟨L,a0,a1,a2,a3⟩
theorem T5(addr:List Nat)(x:Nat×List Nat)(s:lP):(nh addr x s).rs.length<=s.rs.length+1:=by
 unfold nh
 split
 ·split
  ·exact Ft _
  ·dsimp only
   split<;>simp
 ·exact Ft _
theorem T6(hl:addr.length<=1000):∀(its:List (Nat×List Nat)) (σ:List (Option PV)) (s:lP),SR addr σ s->s.rs.length+its.length<=1000->
  ∃aJ,wE [4,5] (zU U qM) ((its.map fun x=>((x.1:Int),x.2)).map kK) ⟨σ,β⟩=some (⟨aJ,β⟩, .next)/\SR addr aJ (iQ addr its s)
 |[],σ,s,h,_=>⟨σ,rfl,h⟩
 |(p,ch)::its,σ,s,h,hr=>by
  simp only[Cg]at hr
  refine aB (zSj (U:=U) (β:=β) h hl (by exact zR) (p:=p) (ch:=ch)) fun cg e1 h1=>?_
  have:=T5 addr (p,ch) s
  refine aB (T6 hl its cg _ h1 (by lia)) fun fO e2 h2=>?_
  refine i12 fO ?_ h2
  refine(?_:((zU U qM ⟨(σ.set 4 (some (pn p))).set 5 (some (.str ch)),β⟩).bind _)=_)
  rw[e1];exact e2
theorem N0:∀(al:List Nat) (i:Nat) (e:Bool) (p:Nat),(xI i e al p).length<=al.length+1
 |[],i,e,p=>by cases e<;>simp[xI]
 |c::r,i,e,p=>by
  have h1:=N0 r (i+1) false i
  have h2:=N0 r (i+1) true i
  unfold xI
  split
  ·simp;assumption
  ·split
   ·simp;exact Nat.le_add_right_of_le ‹_›
   ·simp;assumption
theorem zSr(hl:addr.length<=900):lO (EI U) (aF 4) 1 [.str addr]=some (.str (xZ addr)):=by
 have sz:addr.length<=ag:=by exact zB
 have fU:eI (aF 4) [.str addr] none=⟨[some (.str addr),none,none,none,none,none],none⟩:=rfl
 have key:∃g',EI U (eI (aF 4) [.str addr] none)=some (g', .ret (.str (xZ addr))):=by
  rw[fU]
  unfold EI
  have t0:aZ U (.cmp .NotIn (.lit (.str [34])) (.var 0)) [some (.str addr),none,none,none,none,none]=some (!addr.contains 34):=rfl
  unfold xZ
  by_cases hc:addr.contains 34
  ·rw[if_pos hc]
   have e0:den U EA ⟨[some (.str addr),none,none,none,none,none],none⟩=some (⟨[some (.str addr),none,none,none,none,none],none⟩, .next):=fQ (t0.trans (by rw[hc];rfl)) rfl
   rw[zM e0]
   have e1:∀σ,den U EB ⟨σ,none⟩=some (⟨σ.set 1 (some (pn 0)),none⟩, .next):=fun σ=>zD (e:= .lit _) rfl rfl
   have e2:∀σ,den U EC ⟨σ,none⟩=some (⟨σ.set 2 (some .none),none⟩, .next):=fun σ=>zD (e:= .lit _) rfl rfl
   have e3:∀σ,den U ED ⟨σ,none⟩=some (⟨σ.set 3 (some (.list [])),none⟩, .next):=fun σ=>zD (e:= .list _) rfl rfl
   rw[zM (e1 _),zM (e2 _),zM (e3 _)]
   have S0:SR addr [some (.str addr),some (pn 0),some .none,some (.list []),none,none] ⟨0,none,[]⟩:=⟨rfl,rfl,rfl,rfl,rfl⟩
   have hel:=N0 addr 0 false 0
   obtain⟨aJ,e4,S1⟩:=T6 (U:=U) (β:=none) (by lia) (xI 0 false addr 0) _ _ S0 (by simp;lia)
   have e5:rT U (.var 0) [4,5] (zU U qM) ⟨[some (.str addr),some (pn 0),some .none,some (.list []),none,none],none⟩=some (⟨aJ,none⟩, .next):=by
    refine(?_:wE [4,5] (zU U qM) ((dJ 0 false addr ((0:Nat):Int)).map kK) _=_)
    rw[EW];exact e4
   have N1:(([some (PV.str addr),none,none,none,none,none].set 1 (some (pn 0))).set 2 (some PV.none)).set 3 (some (PV.list []))=[some (.str addr),some (pn 0),some .none,some (.list []),none,none]:=rfl
   rw[N1,zM e5]
   have T7:(iQ addr (xI 0 false addr 0) ⟨0,none,[]⟩).rs.length<=1000:=by
    have:∀(its:List (Nat×List Nat)) (s:lP),(iQ addr its s).rs.length<=s.rs.length+its.length:=by
     intro its
     induction its with
     |nil=>intro s;exact Bv _
     |cons x its ih=>
      intro s
      have h1:=ih (nh addr x s)
      have h2:=T5 addr x s
      refine(?_:(iQ addr its (nh addr x s)).rs.length<=_)
      simp only[Cg];lia
    have:=this (xI 0 false addr 0) ⟨0,none,[]⟩
    simp at this;lia
   have N2:((iQ addr (xI 0 false addr 0) ⟨0,none,[]⟩).rs.map B3).sum<=1000*900:=by
    have:∀(its:List (Nat×List Nat)) (s:lP),(∀l∈s.rs,l.length<=900)->∀l∈(iQ addr its s).rs,l.length<=900:=by
     intro its
     induction its with
     |nil=>intro s h;exact h
     |cons x its ih=>
      intro s h
      refine ih (nh addr x s) fun l hm=>?_
      unfold nh at hm
      split at hm
      ·split at hm
       ·exact h l hm
       ·dsimp only at hm
        split at hm
        ·exact h l hm
        ·rcases Bb.mp hm with hm|hm
         ·exact h l hm
         ·rw[Ae.mp hm]
          exact Ad (T1 _ _ _) hl
      ·exact h l hm
    have:=qP B3 900 _ (this (xI 0 false addr 0) ⟨0,none,[]⟩ fun l h=>nomatch h)
    refine Ad this (Ee _ T7)
   generalize iQ addr (xI 0 false addr 0) ⟨0,none,[]⟩=s at S1 T7 N2⊢
   dsimp only
   have hlen:ev U (.bi 0 (.cons (.var 0) .nil)) aJ=some (pn addr.length):=qO (zA S1.a) sz
   have t5:aZ U (.cmp .Lt (.var 1) (.bi 0 (.cons (.var 0) .nil))) aJ=some (decide (s.st<addr.length)):=by
    refine(?_:(ev U (.var 1) aJ).bind _=_)
    (refine zK (zA S1.st) ?_;refine zK hlen ?_)
    refine(?_:some (decide ((s.st:Int)<(addr.length:Int)))=_)
    congr 1
    simp
   have fin:∀(ρ:List (Option PV)) (rs:List (List Nat)),At ρ 3 (.list (rs.map .str))->(rs.map B3).sum<=2000000->zZ (den U EE) aA ⟨ρ,none⟩=some (⟨ρ,none⟩, .ret (.str rs.flatten)):=fun ρ rs h3 hs=>by
    refine yU ?_
    refine(?_:((fD U _ ⟨ρ,none⟩).bind _)=_)
    unfold fD
    rw[s7 (zA h3) (by exact zB),As,if_pos yL];rfl
   by_cases h5:s.st<addr.length
   ·rw[if_pos h5]
    have e6:den U zk ⟨aJ,none⟩=some (⟨aJ.set 3 (some (.list (s.rs.map .str++[.str (xD addr s.st addr.length)]))),none⟩, .next):=gE (t5.trans (by rw[decide_eq_true h5])) (fk (zy S1.rs (T4 S1.a sz S1.st) yL (by rw[An];exact zB)))
    rw[zM e6]
    refine cu _ (fin _ _ ?_ ?_)
    ·rw[show(s.rs++[xD addr s.st addr.length]).map PV.str=s.rs.map .str++[.str (xD addr s.st addr.length)]by simp]
     exact yO (by rw[S1.len];decide)
    ·have:(xD addr s.st addr.length).length<=addr.length:=T1 _ _ _
     simp only[D5,Gy,Dp,List.map_nil,Lo,List.sum_nil];lia
   ·rw[if_neg h5]
    have e6:den U zk ⟨aJ,none⟩=some (⟨aJ,none⟩, .next):=fQ (t5.trans (by rw[decide_eq_false h5])) rfl
    rw[zM e6]
    exact cu _ (fin _ _ S1.rs (by exact zB))
  ·rw[if_neg hc]
   have lq:addr.contains 34=false:=by simpa using hc
   refine cu _ (yU (g₁:=⟨[some (.str addr),none,none,none,none,none],none⟩) (gE (t0.trans (by rw[lq];rfl)) rfl))
 refine aH key fun g' e=>?_
 exact(if_pos rfl).trans (by rw[e])
theorem wQ(x:Nat×List Nat)(r:List (Nat×List Nat))(o:Nat):xC (x::r) o=if x.2==[40]then xC r (o+1)else if x.2==[41]then(match o with|0=>false|o+1=>xC r o)else xC r o:=rfl
theorem T8:∀(its:List (Nat×List Nat)) (σ:List (Option PV)) (o:Nat),σ.length=4->At σ 1 (pn o)->
  (∃aJ o',wE [2,3] (zU U jA) ((its.map fun x=>((x.1:Int),x.2)).map kK) ⟨σ,β⟩=some (⟨aJ,β⟩, .next)/\At aJ 1 (pn o')/\xC its o=(o'==0))\/
  (∃g',wE [2,3] (zU U jA) ((its.map fun x=>((x.1:Int),x.2)).map kK) ⟨σ,β⟩=some (g', .ret (.bool false))/\xC its o=false)
 |[],σ,o,_,h=> .inl ⟨σ,o,rfl,h,rfl⟩
 |(p,ch)::its,σ,o,hL,h=>by
  generalize lQ:(σ.set 2 (some (pn p))).set 3 (some (.str ch))=τ
  have L:τ.length=4:=by rw[<-lQ];simp[hL]
  have a1:At τ 1 (pn o):=by rw[<-lQ];exact(h.set (by decide)).set (by decide)
  have a3:At τ 3 (.str ch):=by rw[<-lQ];exact yO (by simp[hL])
  have run:∀r,wE [2,3] (zU U jA) ((((p,ch)::its).map fun x=>((x.1:Int),x.2)).map kK) ⟨σ,β⟩=r↔((zU U jA ⟨τ,β⟩).bind fun q=>match q with
   |(g', .next)=>wE [2,3] (zU U jA) ((its.map fun x=>((x.1:Int),x.2)).map kK) g'
   |(g', .cont)=>wE [2,3] (zU U jA) ((its.map fun x=>((x.1:Int),x.2)).map kK) g'
   |(g', .brk)=>some (g', .next)
   |(g', .ret p)=>some (g', .ret p))=r:=fun r=>by rw[<-lQ];exact Iff.rfl
  have go:∀cg jo,zU U jA ⟨τ,β⟩=some (⟨cg,β⟩, .next)->cg.length=4->At cg 1 (pn jo)->xC ((p,ch)::its) o=xC its jo->
    (∃aJ o',wE [2,3] (zU U jA) ((((p,ch)::its).map fun x=>((x.1:Int),x.2)).map kK) ⟨σ,β⟩=some (⟨aJ,β⟩, .next)/\At aJ 1 (pn o')/\xC ((p,ch)::its) o=(o'==0))\/
    (∃g',wE [2,3] (zU U jA) ((((p,ch)::its).map fun x=>((x.1:Int),x.2)).map kK) ⟨σ,β⟩=some (g', .ret (.bool false))/\xC ((p,ch)::its) o=false):=fun cg jo e z4 ah hc=>by
   rcases T8 its cg jo z4 ah with⟨aJ,o',e',h',c'⟩|⟨g',e',c'⟩
   ·exact .inl ⟨aJ,o',(run _).mpr (by rw[e];exact e'),h',hc.trans c'⟩
   ·exact .inr ⟨g',(run _).mpr (by rw[e];exact e'),hc.trans c'⟩
  by_cases T9:ch=[40]
  ·subst T9
   refine go (τ.set 1 (some (pn (o+1)))) (o+1) ?_ (by rw[Ct];exact L) (yO (by rw[L];decide)) rfl
   refine fk (gE (eq_str a3) (fk ?_))
   refine(?_:((τ[1]?).bind id).bind _=_)
   rw[a1];rfl
  ·have Ua:(ch==[40])=false:=by simpa using T9
   by_cases Ub:ch=[41]
   ·subst Ub
    have sub:den U (.aug .Sub 1 (.lit (.int 1))) ⟨τ,β⟩=some (⟨τ.set 1 (some (.int ((o:Int)-1))),β⟩, .next):=by
     refine(?_:((τ[1]?).bind id).bind _=_)
     rw[a1];rfl
    have hb:At (τ.set 1 (some (.int ((o:Int)-1)))) 1 (.int ((o:Int)-1)):=yO (by rw[L];decide)
    have t:aZ U (.cmp .Lt (.var 1) (.lit (.int 0))) (τ.set 1 (some (.int ((o:Int)-1))))=some (decide ((o:Int)-1<0)):=by
     refine(?_:(ev U (.var 1) _).bind _=_)
     rw[zA hb];rfl
    cases o with
    |zero=>
     refine .inr ⟨⟨τ.set 1 (some (.int (((0:Nat):Int)-1))),β⟩,(run _).mpr ?_,rfl⟩
     have e:zU U jA ⟨τ,β⟩=some (⟨τ.set 1 (some (.int (((0:Nat):Int)-1))),β⟩, .ret (.bool false)):=by
      refine yU (fQ ((eq_str a3).trans rfl) ?_)
      refine yU (gE ((eq_str a3).trans rfl) ?_)
      refine(zG sub).trans ?_
      refine yU (gE (t.trans rfl) ?_)
      rfl
     rw[e];rfl
    |succ o=>
     have e1:((o+1:Nat):Int)-1=(o:Int):=by lia
     rw[e1]at sub hb t
     refine go (τ.set 1 (some (pn o))) o ?_ (by rw[Ct];exact L) hb rfl
     refine fk (fQ ((eq_str a3).trans rfl) (fk (gE ((eq_str a3).trans rfl) ?_)))
     refine(zG sub).trans (fk (fQ (t.trans (by rw[decide_eq_false (by lia)])) rfl))
   ·have Ud:(ch==[41])=false:=by simpa using Ub
    refine go τ o ?_ L a1 (by rw[wQ,Ua,Ud];rfl)
    exact fk (fQ ((eq_str a3).trans (by rw[Ua])) (fk (fQ ((eq_str a3).trans (by rw[Ud])) rfl)))
theorem zRx{a:List Nat}(hU:U 2 [.str a]=some (.str (xZ a))):lO (EJ U) (aF 5) 1 [.str a]=some (.bool (zX a)):=by
 have fU:eI (aF 5) [.str a] none=⟨[some (.str a),none,none,none],none⟩:=rfl
 have key:∃g',EJ U (eI (aF 5) [.str a] none)=some (g', .ret (.bool (zX a))):=by
  rw[fU]
  unfold EJ
  have e0:den U EF ⟨[some (.str a),none,none,none],none⟩=some (⟨[some (.str (xZ a)),none,none,none],none⟩, .next):=by
   refine zD (e:= .uc 2 _) (p:= .str (xZ a)) ?_ yL
   exact hU
  have e1:den U EG ⟨[some (.str (xZ a)),none,none,none],none⟩=some (⟨[some (.str (xZ a)),some (pn 0),none,none],none⟩, .next):=zD (e:= .lit _) rfl rfl
  rw[zM e0,zM e1]
  have hG:∀r,rT U (.var 0) [2,3] (zU U jA) ⟨[some (.str (xZ a)),some (pn 0),none,none],none⟩=r↔wE [2,3] (zU U jA) (((xI 0 false (xZ a) 0).map fun x=>((x.1:Int),x.2)).map kK) ⟨[some (.str (xZ a)),some (pn 0),none,none],none⟩=r:=fun r=>by
   rw[<-EW];exact Iff.rfl
  rcases T8 (U:=U) (β:=none) (xI 0 false (xZ a) 0) [some (.str (xZ a)),some (pn 0),none,none] 0 rfl rfl with⟨aJ,o',e,h,c⟩|⟨g',e,c⟩
  ·rw[zM ((hG _).mpr e)]
   refine cu ⟨aJ,none⟩ (yU ?_)
   refine(?_:((fD U _ ⟨aJ,none⟩).bind _)=_)
   have t:ev U (.cmp .Eq (.var 1) (.lit (.int 0))) aJ=some (.bool (zX a)):=by
    refine(?_:(ev U (.var 1) aJ).bind _=_)
    refine zK (zA h) ?_
    refine(?_:some (PV.bool ((o':Int)==0))=_)
    unfold zX
    rw[c]
    congr 2
    by_cases h0:o'=0
    ·subst h0;rfl
    ·have e1:((o':Int)==0)=false:=by simp;assumption
     have e2:(o'==0)=false:=by simpa using h0
     rw[e1,e2]
   unfold fD
   rw[t,As,if_pos zOr];rfl
  ·refine cu g' (yU ?_)
   rw[(hG _).mpr e]
   unfold zX
   rw[c]
 refine aH key fun g' e=>?_
 exact(if_pos rfl).trans (by rw[e])
end
set_option genSizeOf false
noncomputable def ni(c:Nat):Nat:=if 65<=c&&c<=90 then c+32 else c
noncomputable def ig(x y:Nat):Nat:=if x==y then 0 else if ni x==ni y then 1 else 2
noncomputable def gY:List Nat->List Nat->Nat
 |x::a,y::b=>if x==y then gY a b+1 else 0
 |_,_=>0
structure td where
 d:Nat
 r:Nat
 m:Nat
 row:List Nat
noncomputable def uQ:Nat:=9223372036854775807
noncomputable def jC(a b:Nat):Nat:=if b<a then b else a
noncomputable def kY(s:List Nat)(bc:Nat)(q:td)(i:Nat):td:=
 let r':=jC (jC q.r (q.row.getD i 0)+2) (q.d+ig bc (s.getD i 0))
 ⟨q.row.getD i 0,r',if r'<q.m then r' else q.m,q.row.set i r'⟩
noncomputable def kZ(s:List Nat)(bc bi:Nat)(row:List Nat):td:=(Au s.length).foldl (kY s bc) ⟨bi*2,bi*2,uQ,row⟩
noncomputable def uR(s:List Nat)(c:Nat):List Nat->Nat->List Nat->Nat->Nat
 |[],_,_,res=>res
 |bc::l,bi,row,_=>let q:=kZ s bc bi row;if c<q.m then c+1 else uR s c l (bi+1) q.row q.r
noncomputable def EY(s l:List Nat)(c:Nat):Nat:=if c<(l.length-s.length)*2 then c+1 else uR s c l 0 ((Au s.length).map fun i=>2+2*i) 0
noncomputable def N3(a b:List Nat)(c:Nat):Nat:=if a.isEmpty||b.isEmpty then 2*(a.length+b.length)else if b.length<a.length then EY b a c else EY a b c
noncomputable def Ue(a b:List Nat):List Nat×List Nat:=
 let q:=gY a.reverse b.reverse
 (a.take (a.length-q),b.take (b.length-q))
noncomputable def te(a b:List Nat)(c:Nat):Nat:=if a==b then 0 else
 let p:=gY a b
 let x:=Ue (a.drop p) (b.drop p)
 N3 x.1 x.2 c
noncomputable def ti:ey:=(.cons (.assign 12 (.bin .Add (.var 9) (.uc 0 (.cons (.var 8) (.cons (.idx (.var 0) (.var 11)) .nil))))) (.cons (.assign 9 (.idx (.var 5) (.var 11))) (.cons (.assign 13 (.bin .Add (.bi 3 (.cons (.var 6) (.cons (.var 9) .nil))) (.lit (.int 2)))) (.cons (.assign 6 (.bi 3 (.cons (.var 13) (.cons (.var 12) .nil)))) (.cons (.set 5 (.var 11) (.var 6)) (.cons (.ifs (.cmp .Lt (.var 6) (.var 10)) (.cons (.assign 10 (.var 6)) .nil) .nil) .nil))))))
noncomputable def jD:ey:=(.cons (.assign 8 (.idx (.var 1) (.var 7))) (.cons (.df 9 6 (.bin .Mult (.var 7) (.lit (.int 2)))) (.cons (.assign 10 (.lit (.int 9223372036854775807))) (.cons (.forR 11 (.bi 0 (.cons (.var 0) .nil)) ti) (.cons (.ifs (.cmp .Gt (.var 10) (.var 2)) (.cons (.ret (.bin .Add (.var 2) (.lit (.int 1)))) .nil) .nil) .nil)))))
noncomputable def N4:ey:=(.cons (.ifs (.or (.cons (.not (.eO (.var 0))) (.cons (.not (.eO (.var 1))) .nil))) (.cons (.ret (.bin .Mult (.lit (.int 2)) (.bin .Add (.bi 0 (.cons (.var 0) .nil)) (.bi 0 (.cons (.var 1) .nil))))) .nil) .nil) (.cons (.ifs (.or (.cons (.cmp .Gt (.bi 0 (.cons (.var 0) .nil)) (.lit (.int 40))) (.cons (.cmp .Gt (.bi 0 (.cons (.var 1) .nil)) (.lit (.int 40))) .nil))) (.cons (.ret (.bin .Add (.var 2) (.lit (.int 1)))) .nil) .nil) (.cons (.ifs (.cmp .Lt (.bi 0 (.cons (.var 1) .nil)) (.bi 0 (.cons (.var 0) .nil))) (.cons (.swap 0 1 (.var 1) (.var 0)) .nil) .nil) (.cons (.ifs (.cmp .Gt (.bin .Mult (.bin .Sub (.bi 0 (.cons (.var 1) .nil)) (.bi 0 (.cons (.var 0) .nil))) (.lit (.int 2))) (.var 2)) (.cons (.ret (.bin .Add (.var 2) (.lit (.int 1)))) .nil) .nil) (.cons (.assign 5 (.bi 5 (.cons (.lit (.int 2)) (.cons (.bin .Mult (.lit (.int 2)) (.bin .Add (.bi 0 (.cons (.var 0) .nil)) (.lit (.int 1)))) (.cons (.lit (.int 2)) .nil))))) (.cons (.assign 6 (.lit (.int 0))) (.cons (.forR 7 (.bi 0 (.cons (.var 1) .nil)) jD) (.cons (.ret (.var 6)) .nil))))))))
noncomputable def z5:PT:=(.and (.cons (.eO (.bI (.var 0) (.yes (.var 3)) .no .no)) (.cons (.eO (.bI (.var 1) (.yes (.var 3)) .no .no)) (.cons (.cmp .Eq (.idx (.var 0) (.var 3)) (.idx (.var 1) (.var 3))) .nil))))
noncomputable def z6:PT:=(.and (.cons (.eO (.bI (.var 0) .no (.yes (.gH (.var 4) (.lit .none))) .no)) (.cons (.eO (.bI (.var 1) .no (.yes (.gH (.var 4) (.lit .none))) .no)) (.cons (.cmp .Eq (.idx (.var 0) (.bin .Sub (.var 4) (.lit (.int 1)))) (.idx (.var 1) (.bin .Sub (.var 4) (.lit (.int 1))))) .nil))))
theorem zZ4:zj=(.cons (.ifs (.cmp .Eq (.var 0) (.var 1)) (.cons (.ret (.lit (.int 0))) .nil) .nil) (.cons (.assign 3 (.lit (.int 0))) (.cons (.oJ z5 (.cons (.aug .Add 3 (.lit (.int 1))) .nil)) (.cons (.assign 0 (.bI (.var 0) (.yes (.var 3)) .no .no)) (.cons (.assign 1 (.bI (.var 1) (.yes (.var 3)) .no .no)) (.cons (.assign 4 (.lit (.int 0))) (.cons (.oJ z6 (.cons (.aug .Sub 4 (.lit (.int 1))) .nil)) (.cons (.assign 0 (.bI (.var 0) .no (.yes (.gH (.var 4) (.lit .none))) .no)) (.cons (.assign 1 (.bI (.var 1) .no (.yes (.gH (.var 4) (.lit .none))) .no)) N4))))))))):=rfl
theorem yBn(U:Uc){x y:Nat}(hx:x<128)(hy:y<128):lO (zU U DY) (aF 17) 2 [.str [x], .str [y]]=some (pn (ig x y)):=by
 have fU:eI (aF 17) [.str [x], .str [y]] none=⟨[some (.str [x]),some (.str [y])],none⟩:=rfl
 have key:∃g',zU U DY (eI (aF 17) [.str [x], .str [y]] none)=some (g', .ret (pn (ig x y))):=by
  rw[fU]
  refine cu ⟨[some (.str [x]),some (.str [y])],none⟩ ?_
  have t1:aZ U (.cmp .Eq (.var 0) (.var 1)) [some (.str [x]),some (.str [y])]=some (x==y):=by
   refine(?_:some (([x]:List Nat)==[y])=_)
   simp
  have m:∀(i c:Nat),c<128->At [some (.str [x]),some (.str [y])] i (.str [c])->ev U (.me 1 (.var i) .nil) [some (.str [x]),some (.str [y])]=some (.str [ni c]):=fun i c hc h=>by
   refine(?_:(ev U (.var i) _).bind _=_)
   refine zK (zA h) ?_
   refine(?_:(if c<128 then some (PV.str [if 65<=c&&c<=90 then c+32 else c])else none)=_)
   refine xT hc ?_;rfl
  have t2:aZ U (.cmp .Eq (.me 1 (.var 0) .nil) (.me 1 (.var 1) .nil)) [some (.str [x]),some (.str [y])]=some (ni x==ni y):=by
   refine(?_:(ev U (.me 1 (.var 0) .nil) _).bind _=_)
   (refine zK (m 0 x hx rfl) ?_;refine zK (m 1 y hy rfl) ?_)
   refine(?_:some (([ni x]:List Nat)==[ni y])=_)
   simp
  unfold ig
  by_cases h1:x==y
  ·rw[if_pos h1]
   exact yU (gE (t1.trans (by rw[h1])) rfl)
  ·have h1':(x==y)=false:=by simpa using h1
   rw[if_neg h1]
   refine(zG (fQ (t1.trans (by rw[h1'])) rfl)).trans ?_
   by_cases h2:ni x==ni y
   ·rw[if_pos h2]
    exact yU (gE (t2.trans (by rw[h2])) rfl)
   ·have vW:(ni x==ni y)=false:=by simpa using h2
    rw[if_neg h2]
    refine(zG (fQ (t2.trans (by rw[vW])) rfl)).trans ?_
    exact yU rfl
 refine aH key fun g' e=>?_
 exact(if_pos rfl).trans (by rw[e])
noncomputable def small(l:List Nat):Prop:=∀c∈l,c<128
structure LV(σ:List (Option PV))(s l:List Nat)(c:Nat)(row:List Nat):Prop where
 len:σ.length=14
 s:At σ 0 (.str s)
 l:At σ 1 (.str l)
 c:At σ 2 (pn c)
 row:At σ 5 (.list (row.map pn))
section
variable{U:Uc}{σ:List (Option PV)}{β:Option (Value×aj)}{s l:List Nat}{c:Nat}{row:List Nat}
theorem LV.set(h:LV σ s l c row){i:Nat}{p:PV}(hi:6<=i\/i=3\/i=4):LV (σ.set i (some p)) s l c row:=by
 refine⟨by rw[Ct];exact h.len,h.s.set ?_,h.l.set ?_,h.c.set ?_,h.row.set ?_⟩<;>exact xJ ‹_› rfl
theorem N5{a b:PE}{m n:Nat}(ha:ev U a σ=some (pn m))(hb:ev U b σ=some (pn n)):ev U (.bi 3 (.cons a (.cons b .nil))) σ=some (pn (jC m n)):=by
 refine(?_:((ev U a σ).bind fun x=>((ev U b σ).bind fun y=>(some []).map (y:: ·)).map (x:: ·)).bind (tT 3)=_)
 rw[ha,As,hb]
 refine(?_:some (PV.int (if(n:Int)<(m:Int)then(n:Int)else(m:Int)))=_)
 unfold jC
 by_cases h:n<m
 ·rw[if_pos (by exact Int.ofNat_lt.mpr ‹_›),if_pos h]
 ·rw[if_neg (by lia),if_neg h]
theorem zX5{i n:Nat}{a b:PE}{l:List Nat}{m:Nat}(hl:At σ i (.list (l.map pn)))(ha:ev U a σ=some (pn n))(hb:ev U b σ=some (pn m))(hn:n<l.length)(hs:l.length<=1000):den U (.set i a b) ⟨σ,β⟩=some (⟨σ.set i (some (.list ((l.set n m).map pn))),β⟩, .next):=by
 have e1:lB ⟨σ,β⟩ i=some (l.map pn):=HZ hl
 refine(?_:(ev U b σ).bind _=_)
 (refine zK hb ?_;refine zK e1 ?_)
 refine(?_:(ev U a σ).bind _=_)
 refine zK ha ?_
 refine(?_:(if(true&&decide ((0:Int)<=(n:Int))&&decide ((n:Int)<((l.map pn).length:Int))&&decide ((l.map pn).length<=1000))=true then some ((⟨σ,β⟩:Sg).set i (.list ((l.map pn).set ((n:Int)).toNat (pn m))),Fl.next)else none)=_)
 refine xT (by simp;exact Jw ‹_› ‹_›) ?_
 rw[List.map_set];rfl
theorem zXv(hU:∀x y:Nat,x<128->y<128->U 0 [.str [x], .str [y]]=some (pn (ig x y)))(hs:small s)(lF:s.length<=40){bc:Nat}(gA:bc<128){q:td}{i:Nat}(hi:i<s.length)(hr:q.row.length=s.length)
  (h:LV σ s l c q.row) (h8:At σ 8 (.str [bc])) (h9:At σ 9 (pn q.d)) (h6:At σ 6 (pn q.r)) (gC:At σ 10 (pn q.m)) (uS:At σ 11 (pn i)):
  ∃aJ,zU U ti ⟨σ,β⟩=some (⟨aJ,β⟩, .next)/\LV aJ s l c (kY s bc q i).row/\At aJ 8 (.str [bc])/\At aJ 9 (pn (kY s bc q i).d)/\At aJ 6 (pn (kY s bc q i).r)/\At aJ 10 (pn (kY s bc q i).m)/\aJ[7]?=σ[7]?:=by
 have hsi:s.getD i 0<128:=by
  rw[A4,Aw hi]
  exact hs _ (List.getElem_mem _)
 have v1:ev U (.bin .Add (.var 9) (.uc 0 (.cons (.var 8) (.cons (.idx (.var 0) (.var 11)) .nil)))) σ=some (pn (q.d+ig bc (s.getD i 0))):=by
  refine wL (zA h9) ?_
  refine(?_:((ev U (.var 8) σ).bind fun x=>((ev U (.idx (.var 0) (.var 11)) σ).bind fun y=>(some []).map (y:: ·)).map (x:: ·)).bind (U 0)=_)
  rw[zA h8,As,uP (zA h.s) (zA uS) (tb 0 hi) (by exact zB)]
  exact hU _ _ gA hsi
 have e1:den U (.assign 12 _) ⟨σ,β⟩=some (⟨σ.set 12 (some (pn (q.d+ig bc (s.getD i 0)))),β⟩, .next):=zD v1 zO
 generalize eM:σ.set 12 (some (pn (q.d+ig bc (s.getD i 0))))=bT at e1
 have H1:LV bT s l c q.row:=by rw[<-eM];exact h.set (.inl (by decide))
 have a8:At bT 8 (.str [bc]):=by rw[<-eM];exact h8.set (by decide)
 have a6:At bT 6 (pn q.r):=by rw[<-eM];exact h6.set (by decide)
 have o8:At bT 10 (pn q.m):=by rw[<-eM];exact gC.set (by decide)
 have Ug:At bT 11 (pn i):=by rw[<-eM];exact uS.set (by decide)
 have a12:At bT 12 (pn (q.d+ig bc (s.getD i 0))):=by rw[<-eM];exact yO (by rw[h.len];decide)
 have a7:bT[7]?=σ[7]?:=by rw[<-eM,Bl (by decide)]
 have e2:den U (.assign 9 _) ⟨bT,β⟩=some (⟨bT.set 9 (some (pn (q.row.getD i 0))),β⟩, .next):=zD (wB (zA H1.row) (zA Ug) (ng pn 0 (by exact zH)) (by rw[An];exact xE)) zO
 generalize cy:bT.set 9 (some (pn (q.row.getD i 0)))=bR at e2
 have H2:LV bR s l c q.row:=by rw[<-cy];exact H1.set (.inl (by decide))
 have b8:At bR 8 (.str [bc]):=by rw[<-cy];exact a8.set (by decide)
 have b6:At bR 6 (pn q.r):=by rw[<-cy];exact a6.set (by decide)
 have uT:At bR 10 (pn q.m):=by rw[<-cy];exact o8.set (by decide)
 have b11:At bR 11 (pn i):=by rw[<-cy];exact Ug.set (by decide)
 have b12:At bR 12 (pn (q.d+ig bc (s.getD i 0))):=by rw[<-cy];exact a12.set (by decide)
 have b9:At bR 9 (pn (q.row.getD i 0)):=by rw[<-cy];exact yO (by rw[H1.len];decide)
 have b7:bR[7]?=σ[7]?:=by rw[<-cy,Bl (by decide),a7]
 have e3:den U (.assign 13 (.bin .Add (.bi 3 (.cons (.var 6) (.cons (.var 9) .nil))) (.lit (.int 2)))) ⟨bR,β⟩=some (⟨bR.set 13 (some (pn (jC q.r (q.row.getD i 0)+2))),β⟩, .next):=zD (wL (n:=2) (N5 (zA b6) (zA b9)) rfl) zO
 generalize cZ:bR.set 13 (some (pn (jC q.r (q.row.getD i 0)+2)))=cJ at e3
 have H3:LV cJ s l c q.row:=by rw[<-cZ];exact H2.set (.inl (by decide))
 have c8:At cJ 8 (.str [bc]):=by rw[<-cZ];exact b8.set (by decide)
 have c10:At cJ 10 (pn q.m):=by rw[<-cZ];exact uT.set (by decide)
 have c11:At cJ 11 (pn i):=by rw[<-cZ];exact b11.set (by decide)
 have c12:At cJ 12 (pn (q.d+ig bc (s.getD i 0))):=by rw[<-cZ];exact b12.set (by decide)
 have c9:At cJ 9 (pn (q.row.getD i 0)):=by rw[<-cZ];exact b9.set (by decide)
 have c13:At cJ 13 (pn (jC q.r (q.row.getD i 0)+2)):=by rw[<-cZ];exact yO (by rw[H2.len];decide)
 have c7:cJ[7]?=σ[7]?:=by rw[<-cZ,Bl (by decide),b7]
 generalize uU:jC (jC q.r (q.row.getD i 0)+2) (q.d+ig bc (s.getD i 0))=r'
 have e4:den U (.assign 6 _) ⟨cJ,β⟩=some (⟨cJ.set 6 (some (pn r')),β⟩, .next):=zD (by rw[<-uU];exact N5 (zA c13) (zA c12)) zO
 generalize jE:cJ.set 6 (some (pn r'))=gn at e4
 have H4:LV gn s l c q.row:=by rw[<-jE];exact H3.set (.inl (by decide))
 have d8:At gn 8 (.str [bc]):=by rw[<-jE];exact c8.set (by decide)
 have d10:At gn 10 (pn q.m):=by rw[<-jE];exact c10.set (by decide)
 have d11:At gn 11 (pn i):=by rw[<-jE];exact c11.set (by decide)
 have d9:At gn 9 (pn (q.row.getD i 0)):=by rw[<-jE];exact c9.set (by decide)
 have d6:At gn 6 (pn r'):=by rw[<-jE];exact yO (by rw[H3.len];decide)
 have d7:gn[7]?=σ[7]?:=by rw[<-jE,Bl (by decide),c7]
 have e5:den U (.set 5 (.var 11) (.var 6)) ⟨gn,β⟩=some (⟨gn.set 5 (some (.list ((q.row.set i r').map pn))),β⟩, .next):=zX5 H4.row (zA d11) (zA d6) (by exact zH) (by exact xE)
 generalize k9:gn.set 5 (some (.list ((q.row.set i r').map pn)))=lg at e5
 have H5:LV lg s l c (q.row.set i r'):=by
  rw[<-k9]
  exact⟨by rw[Ct];exact H4.len,H4.s.set (by decide),H4.l.set (by decide),H4.c.set (by decide),yO (by rw[H4.len];decide)⟩
 have f8:At lg 8 (.str [bc]):=by rw[<-k9];exact d8.set (by decide)
 have Uh:At lg 10 (pn q.m):=by rw[<-k9];exact d10.set (by decide)
 have f9:At lg 9 (pn (q.row.getD i 0)):=by rw[<-k9];exact d9.set (by decide)
 have f6:At lg 6 (pn r'):=by rw[<-k9];exact d6.set (by decide)
 have f7:lg[7]?=σ[7]?:=by rw[<-k9,Bl (by decide),d7]
 have t:aZ U (.cmp .Lt (.var 6) (.var 10)) lg=some (decide (r'<q.m)):=by
  refine(?_:(ev U (.var 6) lg).bind _=_)
  (refine zK (zA f6) ?_;refine zK (zA Uh) ?_)
  refine(?_:some (decide ((r':Int)<(q.m:Int)))=_)
  congr 1
  simp
 have st:kY s bc q i=⟨q.row.getD i 0,r',if r'<q.m then r' else q.m,q.row.set i r'⟩:=by rw[<-uU];rfl
 rw[st]
 by_cases hm:r'<q.m
 ·rw[if_pos hm]
  refine OR (lg.set 10 (some (pn r'))) ?_ (H5.set (.inl (by decide))) (f8.set (by decide)) (f9.set (by decide)) (f6.set (by decide)) (yO (by rw[H5.len];decide)) (by rw[Bl (by decide),f7])
  unfold ti
  rw[zG e1,zG e2,zG e3,zG e4,zG e5]
  exact fk (gE (t.trans (by rw[decide_eq_true hm])) (fk (zD (zA f6) zO)))
 ·rw[if_neg hm]
  refine OR lg ?_ H5 f8 f9 f6 Uh f7
  unfold ti
  rw[zG e1,zG e2,zG e3,zG e4,zG e5]
  exact fk (fQ (t.trans (by rw[decide_eq_false hm])) rfl)
end
section
variable{U:Uc}{β:Option (Value×aj)}{s l:List Nat}{c:Nat}
theorem yDg{a b:Int}(ha:wC a=true)(hb:wC b=true):AS .Mult (.int a) (.int b)=some (.int (a*b)):=by
 refine(?_:(if(wC a&&wC b)=true then some (PV.int (a*b))else none)=_)
 exact xT (by rw[ha,hb];rfl) rfl
theorem z7{σ:List (Option PV)}{a b:PE}{m n:Nat}(ha:ev U a σ=some (pn m))(hb:ev U b σ=some (pn n))(hm:m<=16777216)(hn:n<=16777216):ev U (.bin .Mult a b) σ=some (pn (m*n)):=by
 refine(?_:(ev U a σ).bind _=_)
 (refine zK ha ?_;refine zK hb ?_)
 refine(yDg (uO hm) (uO hn)).trans ?_
 refine(?_:some (PV.int ((m:Int)*(n:Int)))=some (PV.int ((m*n:Nat):Int)))
 rw[Int.natCast_mul]
theorem Ui(s:List Nat)(bc:Nat)(q:td)(i:Nat):(kY s bc q i).row.length=q.row.length:=by
 refine(?_:(q.row.set i _).length=_)
 simp
theorem Uj(s:List Nat)(bc:Nat):∀(is:List Nat) (q:td),(is.foldl (kY s bc) q).row.length=q.row.length
 |[],q=>rfl
 |i::is,q=>by rw[F3,Uj s bc is,Ui]
theorem Uk(hU:∀x y:Nat,x<128->y<128->U 0 [.str [x], .str [y]]=some (pn (ig x y)))(hs:small s)(lF:s.length<=40){bc:Nat}(gA:bc<128):∀(is:List Nat) (σ:List (Option PV)) (q:td),(∀i∈is,i<s.length)->q.row.length=s.length->
  LV σ s l c q.row->At σ 8 (.str [bc])->At σ 9 (pn q.d)->At σ 6 (pn q.r)->At σ 10 (pn q.m)->
  ∃aJ,wE [11] (zU U ti) (is.map fun i=> [pn i]) ⟨σ,β⟩=some (⟨aJ,β⟩, .next)/\LV aJ s l c (is.foldl (kY s bc) q).row/\At aJ 6 (pn (is.foldl (kY s bc) q).r)/\At aJ 10 (pn (is.foldl (kY s bc) q).m)/\aJ[7]?=σ[7]?
 |[],σ,q,_,_,h,_,_,h6,gC=>⟨σ,rfl,h,h6,gC,rfl⟩
 |i::is,σ,q,hi,hr,h,h8,h9,h6,gC=>by
  obtain⟨cg,e1,H1,a8,a9,a6,o8,a7⟩:=zXv (U:=U) (β:=β) hU hs lF gA (hi i (Aj ..)) hr (h.set (i:=11) (p:=pn i) (.inl (by decide))) (h8.set (by decide)) (h9.set (by decide)) (h6.set (by decide)) (gC.set (by decide)) (yO (by rw[h.len];decide))
  obtain⟨fO,e2,H2,b6,uT,b7⟩:=Uk hU hs lF gA is cg (kY s bc q i) (fun j hj=>hi j (Ai _ hj)) (by rw[Ui];exact hr) H1 a8 a9 a6 o8
  refine GG fO ?_ H2 b6 uT (by rw[b7,a7,Bl (by decide)])
  refine(?_:((zU U ti ⟨σ.set 11 (some (pn i)),β⟩).bind _)=_)
  rw[e1];exact e2
theorem zSl(hU:∀x y:Nat,x<128->y<128->U 0 [.str [x], .str [y]]=some (pn (ig x y)))(hs:small s)(lF:s.length<=40)(hl:small l)(ij:l.length<=40){σ:List (Option PV)}{row:List Nat}{bi:Nat}(tj:bi<l.length)(hr:row.length=s.length)
  (h:LV σ s l c row) (h7:At σ 7 (pn bi)):
  (c<(kZ s (l.getD bi 0) bi row).m/\∃g',zU U jD ⟨σ,β⟩=some (g', .ret (pn (c+1))))\/
  (¬c<(kZ s (l.getD bi 0) bi row).m/\∃aJ,zU U jD ⟨σ,β⟩=some (⟨aJ,β⟩, .next)/\LV aJ s l c (kZ s (l.getD bi 0) bi row).row/\At aJ 6 (pn (kZ s (l.getD bi 0) bi row).r)):=by
 have gA:l.getD bi 0<128:=by
  rw[A4,Aw tj]
  exact hl _ (List.getElem_mem _)
 generalize N6:l.getD bi 0=bc at gA
 have e1:den U (.assign 8 (.idx (.var 1) (.var 7))) ⟨σ,β⟩=some (⟨σ.set 8 (some (.str [bc])),β⟩, .next):=zD (uP (zA h.l) (zA h7) (by rw[<-N6];exact tb 0 tj) (by exact zB)) yL
 have H1:LV (σ.set 8 (some (.str [bc]))) s l c row:=h.set (.inl (by decide))
 have e2:den U (.df 9 6 (.bin .Mult (.var 7) (.lit (.int 2)))) ⟨σ.set 8 (some (.str [bc])),β⟩=some (⟨((σ.set 8 (some (.str [bc]))).set 9 (some (pn (bi*2)))).set 6 (some (pn (bi*2))),β⟩, .next):=by
  have v:ev U (.bin .Mult (.var 7) (.lit (.int 2))) (σ.set 8 (some (.str [bc])))=some (pn (bi*2)):=z7 (n:=2) (zA (h7.set (by decide))) rfl (by exact xP) (by decide)
  refine(?_:((JA U _ _).bind _)=_)
  unfold JA
  rw[v,As,if_pos (show(pn (bi*2)).ba=true from rfl)];rfl
 generalize cy:((σ.set 8 (some (.str [bc]))).set 9 (some (pn (bi*2)))).set 6 (some (pn (bi*2)))=bR at e2
 have H2:LV bR s l c row:=by rw[<-cy];exact(H1.set (.inl (by decide))).set (.inl (by decide))
 have e3:den U (.assign 10 (.lit (.int 9223372036854775807))) ⟨bR,β⟩=some (⟨bR.set 10 (some (pn uQ)),β⟩, .next):=zD (e:= .lit _) rfl rfl
 generalize cZ:bR.set 10 (some (pn uQ))=cJ at e3
 have L2:bR.length=14:=H2.len
 have H3:LV cJ s l c row:=by rw[<-cZ];exact H2.set (.inl (by decide))
 have a8:At cJ 8 (.str [bc]):=by rw[<-cZ,<-cy];exact(((yO (by rw[h.len];decide)).set (by decide)).set (by decide)).set (by decide)
 have a9:At cJ 9 (pn (bi*2)):=by rw[<-cZ,<-cy];exact((yO (by simp[h.len])).set (by decide)).set (by decide)
 have a6:At cJ 6 (pn (bi*2)):=by rw[<-cZ,<-cy];exact(yO (by simp[h.len])).set (by decide)
 have o8:At cJ 10 (pn uQ):=by rw[<-cZ];exact yO (by rw[L2];decide)
 refine pQ (Uk (U:=U) (β:=β) (c:=c) (l:=l) hU hs lF gA (Au s.length) cJ ⟨bi*2,bi*2,uQ,row⟩ (fun i hi=>B7.mp hi) hr H3 a8 a9 a6 o8) fun gn e4 H4 b6 uT _=>?_
 have e4':den U (.forR 11 (.bi 0 (.cons (.var 0) .nil)) ti) ⟨cJ,β⟩=some (⟨gn,β⟩, .next):=by
  rw[EV (n:=s.length) (qO (zA H3.s) (by exact zB)) (by exact zB)]
  exact e4
 have vy:kZ s bc bi row=(Au s.length).foldl (kY s bc) ⟨bi*2,bi*2,uQ,row⟩:=rfl
 rw[<-vy]at H4 b6 uT
 have t:aZ U (.cmp .Gt (.var 10) (.var 2)) gn=some (decide (c<(kZ s bc bi row).m)):=s9 (zA uT) (zA H4.c)
 have run:zU U jD ⟨σ,β⟩=zU U (.cons (.ifs (.cmp .Gt (.var 10) (.var 2)) (.cons (.ret (.bin .Add (.var 2) (.lit (.int 1)))) .nil) .nil) .nil) ⟨gn,β⟩:=by
  unfold jD
  rw[zG e1,zG e2,zG e3,zG e4']
 by_cases hm:c<(kZ s bc bi row).m
 ·refine .inl ⟨hm,⟨gn,β⟩,?_⟩
  rw[run]
  refine yU (gE (t.trans (by rw[decide_eq_true hm])) (yU ?_))
  refine(?_:((fD U _ ⟨gn,β⟩).bind _)=_)
  unfold fD
  rw[wL (n:=1) (zA H4.c) rfl,As,if_pos zO];rfl
 ·refine .inr ⟨hm,gn,?_,H4,b6⟩
  rw[run]
  exact fk (fQ (t.trans (by rw[decide_eq_false hm])) rfl)
theorem zSz(s:List Nat)(bc bi:Nat)(row:List Nat):(kZ s bc bi row).row.length=row.length:=Uj ..
theorem Ul(hU:∀x y:Nat,x<128->y<128->U 0 [.str [x], .str [y]]=some (pn (ig x y)))(hs:small s)(lF:s.length<=40)(hl:small l)(ij:l.length<=40):∀(r:List Nat) (bi:Nat) (σ:List (Option PV)) (row:List Nat) (res:Nat),l.drop bi=r->row.length=s.length->LV σ s l c row->At σ 6 (pn res)->
  (∃aJ v,wE [7] (zU U jD) ((Ge bi r.length).map fun i=> [pn i]) ⟨σ,β⟩=some (⟨aJ,β⟩, .next)/\At aJ 6 (pn v)/\uR s c r bi row res=v)\/(∃g',wE [7] (zU U jD) ((Ge bi r.length).map fun i=> [pn i]) ⟨σ,β⟩=some (g', .ret (pn (uR s c r bi row res))))
 |[],bi,σ,row,res,_,_,_,h6=> .inl ⟨σ,res,rfl,h6,rfl⟩
 |bc::r,bi,σ,row,res,hd,hr,h,h6=>by
  have tj:bi<l.length:=by
   have:(l.drop bi).length=r.length+1:=by rw[hd];rfl
   rw[Bw]at this;lia
  have gA:l.getD bi 0=bc:=by
   have:=A5 tj
   rw[hd]at this
   rw[A4,Aw tj]
   exact(D9 this).1.symm
  have mr:l.drop (bi+1)=r:=by
   have:=A5 tj
   rw[hd]at this
   exact(D9 this).2.symm
  have run:∀x,((zU U jD ⟨σ.set 7 (some (pn bi)),β⟩).bind fun q=>match q with
   |(g', .next)=>wE [7] (zU U jD) ((Ge (bi+1) r.length).map fun i=> [pn i]) g'
   |(g', .cont)=>wE [7] (zU U jD) ((Ge (bi+1) r.length).map fun i=> [pn i]) g'
   |(g', .brk)=>some (g', .next)
   |(g', .ret p)=>some (g', .ret p))=x->wE [7] (zU U jD) ((Ge bi (bc::r).length).map fun i=> [pn i]) ⟨σ,β⟩=x:=fun x e=>e
  rcases zSl (U:=U) (β:=β) hU hs lF hl ij tj hr (h.set (i:=7) (p:=pn bi) (.inl (by decide))) (yO (by rw[h.len];decide))with⟨hm,g',e⟩|⟨hm,cg,e,H1,b6⟩
  ·rw[gA]at hm
   refine .inr ⟨g',run _ ?_⟩
   rw[e]
   refine(?_:some (g',Fl.ret (pn (c+1)))=some (g',Fl.ret (pn (if c<(kZ s bc bi row).m then c+1 else _))))
   rw[if_pos hm]
  ·rw[gA]at hm H1 b6
   have rr:uR s c (bc::r) bi row res=uR s c r (bi+1) (kZ s bc bi row).row (kZ s bc bi row).r:=by
    refine(?_:(if c<(kZ s bc bi row).m then c+1 else _)=_)
    exact eV hm rfl
   rw[rr]
   rcases Ul hU hs lF hl ij r (bi+1) cg _ _ mr (by rw[zSz];exact hr) H1 b6 with⟨aJ,v,e',h',c'⟩|⟨g',e'⟩
   ·exact .inl ⟨aJ,v,run _ (by rw[e];exact e'),h',c'⟩
   ·exact .inr ⟨g',run _ (by rw[e];exact e')⟩
noncomputable def EZ:ey:=(.cons (.ifs (.cmp .Gt (.bin .Mult (.bin .Sub (.bi 0 (.cons (.var 1) .nil)) (.bi 0 (.cons (.var 0) .nil))) (.lit (.int 2))) (.var 2)) (.cons (.ret (.bin .Add (.var 2) (.lit (.int 1)))) .nil) .nil) (.cons (.assign 5 (.bi 5 (.cons (.lit (.int 2)) (.cons (.bin .Mult (.lit (.int 2)) (.bin .Add (.bi 0 (.cons (.var 0) .nil)) (.lit (.int 1)))) (.cons (.lit (.int 2)) .nil))))) (.cons (.assign 6 (.lit (.int 0))) (.cons (.forR 7 (.bi 0 (.cons (.var 1) .nil)) jD) (.cons (.ret (.var 6)) .nil)))))
theorem zOo(n:Nat):ra 2 (2*((n:Int)+1)) 2=((Au n).map fun i=>2+2*i).map pn:=by
 unfold ra
 have hc:(if(2:Int)<2*((n:Int)+1)then((2*((n:Int)+1)-2-1)/2+1).toNat else 0)=n:=by
  split<;>lia
 rw[hc,A9]
 refine Cv fun i _=>?_
 refine(?_:PV.int (2+(i:Int)*2)=PV.int ((2+2*i:Nat):Int))
 congr 1
 lia
theorem Um(hU:∀x y:Nat,x<128->y<128->U 0 [.str [x], .str [y]]=some (pn (ig x y)))(hs:small s)(lF:s.length<=40)(hl:small l)(ij:l.length<=40)(hle:s.length<=l.length){σ:List (Option PV)}
  (hL:σ.length=14) (h0:At σ 0 (.str s)) (h1:At σ 1 (.str l)) (h2:At σ 2 (pn c)):∃g',zU U EZ ⟨σ,β⟩=some (g', .ret (pn (EY s l c))):=by
 have n0:ev U (.bi 0 (.cons (.var 0) .nil)) σ=some (pn s.length):=qO (zA h0) (by exact xQ)
 have n1:ev U (.bi 0 (.cons (.var 1) .nil)) σ=some (pn l.length):=qO (zA h1) (by exact zB)
 have v:ev U (.bin .Mult (.bin .Sub (.bi 0 (.cons (.var 1) .nil)) (.bi 0 (.cons (.var 0) .nil))) (.lit (.int 2))) σ=some (pn ((l.length-s.length)*2)):=by
  have v0:ev U (.bin .Sub (.bi 0 (.cons (.var 1) .nil)) (.bi 0 (.cons (.var 0) .nil))) σ=some (pn (l.length-s.length)):=by
   refine(?_:(ev U (.bi 0 (.cons (.var 1) .nil)) σ).bind _=_)
   (refine zK n1 ?_;refine zK n0 ?_)
   refine(?_:some (PV.int ((l.length:Int)-(s.length:Int)))=some (PV.int ((l.length-s.length:Nat):Int)))
   congr 2
   lia
  exact z7 (n:=2) v0 rfl (by exact zL) (by decide)
 have t:aZ U (.cmp .Gt (.bin .Mult (.bin .Sub (.bi 0 (.cons (.var 1) .nil)) (.bi 0 (.cons (.var 0) .nil))) (.lit (.int 2))) (.var 2)) σ=some (decide (c<(l.length-s.length)*2)):=s9 v (zA h2)
 unfold EY
 by_cases hb:c<(l.length-s.length)*2
 ·rw[if_pos hb]
  refine cu ⟨σ,β⟩ (yU (gE (t.trans (by rw[decide_eq_true hb])) (yU ?_)))
  refine(?_:((fD U _ ⟨σ,β⟩).bind _)=_)
  unfold fD
  rw[wL (n:=1) (zA h2) rfl,As,if_pos zO];rfl
 ·rw[if_neg hb]
  have e0:=fQ (U:=U) (β:=β) (a:= .cons (.ret (.bin .Add (.var 2) (.lit (.int 1)))) .nil) (b:= .nil) (t.trans (by rw[decide_eq_false hb])) rfl
  have e1:den U (.assign 5 (.bi 5 (.cons (.lit (.int 2)) (.cons (.bin .Mult (.lit (.int 2)) (.bin .Add (.bi 0 (.cons (.var 0) .nil)) (.lit (.int 1)))) (.cons (.lit (.int 2)) .nil))))) ⟨σ,β⟩=some (⟨σ.set 5 (some (.list (((Au s.length).map fun i=>2+2*i).map pn))),β⟩, .next):=by
   refine zD (p:= .list _) ?_ (by
    refine(?_:(List.all _ PV.ba)=true)
    rw[Hd,Ao]
    exact fun _ _=>rfl)
   have m:ev U (.bin .Mult (.lit (.int 2)) (.bin .Add (.bi 0 (.cons (.var 0) .nil)) (.lit (.int 1)))) σ=some (.int (2*((s.length:Int)+1))):=by
    rw[z7 (m:=2) rfl (wL (n:=1) n0 rfl) (by decide) (by lia)]
    refine(?_:some (PV.int ((2*(s.length+1):Nat):Int))=_)
    congr 2
   refine(?_:((some (PV.int 2)).bind fun x=>((ev U (.bin .Mult _ _) σ).bind fun y=>((some (PV.int 2)).bind fun z=>(some []).map (z:: ·)).map (y:: ·)).map (x:: ·)).bind (tT 5)=_)
   rw[m]
   refine(?_:(if(decide ((0:Int)<=2)&&decide ((2:Int)<=1000)&&decide (0<=2*((s.length:Int)+1))&&decide (2*((s.length:Int)+1)<=1000)&&decide ((0:Int)<2)&&decide ((2:Int)<=1000))=true then some (PV.list (ra 2 (2*((s.length:Int)+1)) 2))else none)=_)
   (refine xT (by simp;lia) ?_;rw[zOo])
  have e2:∀σ,den U (.assign 6 (.lit (.int 0))) ⟨σ,β⟩=some (⟨σ.set 6 (some (pn 0)),β⟩, .next):=fun σ=>zD (e:= .lit _) rfl rfl
  generalize cy:(σ.set 5 (some (.list (((Au s.length).map fun i=>2+2*i).map pn)))).set 6 (some (pn 0))=bR
  have H2:LV bR s l c ((Au s.length).map fun i=>2+2*i):=by
   rw[<-cy]
   exact⟨by simp[hL],(h0.set (by decide)).set (by decide),(h1.set (by decide)).set (by decide),(h2.set (by decide)).set (by decide),(yO (by rw[hL];decide)).set (by decide)⟩
  have a6:At bR 6 (pn 0):=by rw[<-cy];exact yO (by simp[hL])
  have run:zU U EZ ⟨σ,β⟩=zU U (.cons (.forR 7 (.bi 0 (.cons (.var 1) .nil)) jD) (.cons (.ret (.var 6)) .nil)) ⟨bR,β⟩:=by
   unfold EZ
   rw[zG e0,zG e1,zG (e2 _),cy]
  rw[run]
  have fr:den U (.forR 7 (.bi 0 (.cons (.var 1) .nil)) jD) ⟨bR,β⟩=wE [7] (zU U jD) ((Ge 0 l.length).map fun i=> [pn i]) ⟨bR,β⟩:=by
   rw[EV (n:=l.length) (qO (zA H2.l) (by exact zB)) (by exact zB),Ib]
  rcases Ul (U:=U) (β:=β) hU hs lF hl ij l 0 bR _ 0 (by rfl) (by simp) H2 a6 with⟨aJ,v,e,h',c'⟩|⟨g',e⟩
  ·refine cu ⟨aJ,β⟩ ((zG (fr.trans e)).trans (yU ?_))
   rw[c']
   refine(?_:((fD U _ ⟨aJ,β⟩).bind _)=_)
   unfold fD
   rw[zA h',As,if_pos zO];rfl
  ·exact cu g' (yU (fr.trans e))
end
noncomputable def lR(a b:List Nat)(k:Nat):Bool:=match a.drop k,b.drop k with
 |x::_,y::_=>x==y
 |_,_=>false
theorem Un(a b:List Nat)(k:Nat):gY (a.drop k) (b.drop k)=if lR a b k then gY (a.drop (k+1)) (b.drop (k+1))+1 else 0:=by
 have h1:a.drop (k+1)=(a.drop k).drop 1:=by rw[I6,Em]
 have h2:b.drop (k+1)=(b.drop k).drop 1:=by rw[I6,Em]
 unfold lR
 rw[h1,h2]
 generalize a.drop k=x
 generalize b.drop k=y
 match x,y with
 |[],_=>rfl
 |_::_,[]=>rfl
 |x::a,y::b=>rfl
theorem FA{a b:List Nat}{k:Nat}(h:lR a b k=true):k<a.length/\k<b.length/\a[k]?=b[k]?:=by
 unfold lR at h
 split at h
 ·next x r y t e1 e2=>
  have l1:k<a.length:=by
   have:(a.drop k).length=r.length+1:=by rw[e1];rfl
   rw[Bw]at this;exact Nat.lt_of_sub_pos (this▸Ha _)
  have l2:k<b.length:=by
   have:(b.drop k).length=t.length+1:=by rw[e2];rfl
   rw[Bw]at this;exact Nat.lt_of_sub_pos (this▸Ha _)
  refine nU l1 l2 ?_
  rw[A5 l1]at e1
  rw[A5 l2]at e2
  rw[Aw l1,Aw l2,(D9 e1).1,(D9 e2).1]
  exact eq_of_beq h
 ·exact ft h
theorem Uo{a b:List Nat}{k:Nat}(h1:k<a.length)(h2:k<b.length):lR a b k=(a.getD k 0==b.getD k 0):=by
 unfold lR
 rw[A5 h1,A5 h2]
 rw[A4,Aw h1,A4,Aw h2];rfl
theorem Up{a b:List Nat}{k:Nat}(h:¬(k<a.length/\k<b.length)):lR a b k=false:=by
 cases e:lR a b k with
 |false=>rfl
 |true=>exact absurd ⟨(FA e).1,(FA e).2.1⟩ h
theorem zXj(a b:List Nat):gY a b<=a.length/\gY a b<=b.length:=by
 induction a generalizing b with
 |nil=>cases b<;>simp[gY]
 |cons x a ih=>
  cases b with
  |nil=>simp[gY]
  |cons y b=>
   have:=ih b
   refine(?_:(if x==y then gY a b+1 else 0)<=_/\(if x==y then gY a b+1 else 0)<=_)
   split<;>simp<;>lia
section
variable{U:Uc}{σ:List (Option PV)}{β:Option (Value×aj)}{a b:List Nat}
theorem uV{e:PE}{s:List Nat}(h:ev U e σ=some (.str s))(hs:s.length<=ag):aZ U (.eO e) σ=some (!s.isEmpty):=by
 refine(?_:(ev U e σ).bind qZ=_)
 refine zK h ?_
 refine(?_:(if s.length<=ag then some (!s.isEmpty)else none)=_)
 exact xT hs rfl
theorem FC{t1 t2 t3:PT}{b1 b2 b3:Bool}(h1:aZ U t1 σ=some b1)(h2:b1=true->aZ U t2 σ=some b2)(h3:b1=true->b2=true->aZ U t3 σ=some b3):aZ U (.and (.cons t1 (.cons t2 (.cons t3 .nil)))) σ=some (b1&&b2&&b3):=by
 refine(?_:((aZ U t1 σ).bind fun b=>if b==true then(aZ U t2 σ).bind fun b=>if b==true then(aZ U t3 σ).bind fun b=>if b==true then some true else some (!true)else some (!true)else some (!true))=_)
 refine zK h1 ?_
 cases b1 with
 |false=>rfl
 |true=>
  (refine xT (show(true==true)=true from rfl) ?_;refine zK (h2 rfl) ?_)
  cases b2 with
  |false=>rfl
  |true=>
   (refine xT (show(true==true)=true from rfl) ?_;refine zK (h3 rfl rfl) ?_)
   cases b3<;>rfl
theorem N7{e f:PE}{x y:List Nat}(h1:ev U e σ=some (.str x))(h2:ev U f σ=some (.str y)):aZ U (.cmp .Eq e f) σ=some (x==y):=by
 refine(?_:(ev U e σ).bind _=_)
 (refine zK h1 ?_;rw[h2]);rfl
theorem FD{i j k:Nat}{s:List Nat}(hs:At σ i (.str s))(hl:s.length<=ag)(hk:k<=s.length)(ha:At σ j (pn k)):ev U (.bI (.var i) (.yes (.var j)) .no .no) σ=some (.str (s.drop k)):=by
 rw[T4 hs hl ha]
 unfold xD
 rw[Dr hk,Mh,Fw (by rw[Bw];lia)]
theorem zV5{k:Nat}(h0:At σ 0 (.str a))(h1:At σ 1 (.str b))(h3:At σ 3 (pn k))(ha:a.length<=60)(hb:b.length<=60)(hk:k<=a.length/\k<=b.length):aZ U z5 σ=some (lR a b k):=by
 have sa:a.length<=ag:=by unfold ag;lia
 have sb:b.length<=ag:=by unfold ag;lia
 have t1:=uV (FD (U:=U) h0 sa hk.1 h3) (by rw[Bw];lia)
 have t2:=uV (FD (U:=U) h1 sb hk.2 h3) (by rw[Bw];lia)
 by_cases aX:k<a.length/\k<b.length
 ·have t3:=N7 (U:=U) (uP (zA h0) (zA h3) (tb 0 aX.1) sa) (uP (zA h1) (zA h3) (tb 0 aX.2) sb)
  refine(FC t1 (fun _=>t2) (fun _ _=>t3)).trans ?_
  rw[Uo aX.1 aX.2]
  have e1:(a.drop k).isEmpty=false:=by rw[A5 aX.1];rfl
  have e2:(b.drop k).isEmpty=false:=by rw[A5 aX.2];rfl
  rw[e1,e2]
  simp
 ·refine(FC (b3:=false) t1 (fun _=>t2) (fun q1 q2=>?_)).trans ?_
  ·exfalso
   apply aX
   constructor
   ·apply De;intro h
    rw[Kf (by lia)]at q1;exact ft q1
   ·apply De;intro h
    rw[Kf (by lia)]at q2;exact ft q2
  ·rw[Up aX];simp
theorem Uq(ha:a.length<=60)(hb:b.length<=60):∀(n k:Nat) (σ:List (Option PV)),σ.length=14->At σ 0 (.str a)->At σ 1 (.str b)->At σ 3 (pn k)->k<=a.length->k<=b.length->a.length<n+k->
  nB U z5 (zU U (.cons (.aug .Add 3 (.lit (.int 1))) .nil)) n ⟨σ,β⟩=some (⟨σ.set 3 (some (pn (k+gY (a.drop k) (b.drop k)))),β⟩, .next)
 |0,k,σ,_,_,_,_,h1,_,h2=>by lia
 |n+1,k,σ,hL,h0,h1,h3,iD,hkb,hn=>by
  refine(?_:((aZ U z5 σ).bind _)=_)
  (refine zK (zV5 h0 h1 h3 ha hb ⟨iD,hkb⟩) ?_;rw[Un])
  cases hs:lR a b k with
  |true=>
   refine dY (FA hs) fun l1 l2 _=>?_
   rw[if_pos rfl,if_pos rfl]
   have e:zU U (.cons (.aug .Add 3 (.lit (.int 1))) .nil) ⟨σ,β⟩=some (⟨σ.set 3 (some (pn (k+1))),β⟩, .next):=by
    refine fk ?_
    refine(?_:((σ[3]?).bind id).bind _=_)
    rw[h3];rfl
   refine zK e ?_
   dsimp only
   rw[Uq ha hb n (k+1) _ (by rw[Ct];exact hL) (h0.set (by decide)) (h1.set (by decide)) (yO (by rw[hL];decide)) l1 l2 (by lia)]
   rw[Mi,show k+(gY (a.drop (k+1)) (b.drop (k+1))+1)=k+1+gY (a.drop (k+1)) (b.drop (k+1))from by rw[C5,Em 1]]
  |false=>
   rw[if_neg (by decide),if_neg (by decide)]
   congr 3
   apply List.ext_getElem?
   intro j
   by_cases hj:3=j
   ·subst hj
    rw[D0 (by rw[hL];decide),h3];rfl
   ·rw[Bl hj]
theorem yBh(k n:Nat)(hk:0<k):Fu (some (-(k:Int))) n=n-k:=by
 unfold Fu
 refine xT (by lia) ?_
 congr 1
 lia
theorem FE{i k:Nat}{s:List Nat}(hs:At σ i (.str s))(hl:s.length<=ag)(h4:At σ 4 (.int (-(k:Int)))):ev U (.bI (.var i) .no (.yes (.gH (.var 4) (.lit .none))) .no) σ=some (.str (s.take (s.length-k))):=by
 have ho:tV U (.yes (.gH (.var 4) (.lit .none))) σ=some (if k=0 then none else some (-(k:Int))):=by
  refine(?_:((ev U (.var 4) σ).bind fun x=>(qZ x).bind fun t=>if t then some x else some PV.none).bind (fun x=>GN (some x))=_)
  rw[zA h4,As]
  refine(?_:((some ((-(k:Int)) !=0)).bind fun t=>if t then some (PV.int (-(k:Int)))else some PV.none).bind (fun x=>GN (some x))=_)
  rw[As]
  by_cases h:k=0
  ·subst h;rfl
  ·have e1:((-(k:Int)) !=0)=true:=by simp;lia
   rw[e1,if_pos rfl,if_neg h];rfl
 refine(?_:(ev U (.var i) σ).bind _=_)
 refine zK (zA hs) ?_
 refine(?_:(tV U (.yes (.gH (.var 4) (.lit .none))) σ).bind _=_)
 refine zK ho ?_
 refine(?_:(if s.length<=ag then some (PV.str ((s.drop 0).take (Fu (if k=0 then none else some (-(k:Int))) s.length-0)))else none)=_)
 refine xT hl ?_
 by_cases h:k=0
 ·subst h
  rw[if_pos rfl];rfl
 ·rw[if_neg h,yBh k _ (by lia)];rfl
theorem Ur{i k:Nat}{s:List Nat}(hs:At σ i (.str s))(hl:s.length<=60)(h4:At σ 4 (.int (-(k:Int))))(hk:k<s.length):ev U (.idx (.var i) (.bin .Sub (.var 4) (.lit (.int 1)))) σ=some (.str [s.reverse.getD k 0]):=by
 have v:ev U (.bin .Sub (.var 4) (.lit (.int 1))) σ=some (.int (-(k:Int)-1)):=by
  refine(?_:(ev U (.var 4) σ).bind _=_)
  refine zK (zA h4) ?_;rfl
 refine(?_:(ev U (.var i) σ).bind _=_)
 (refine zK (zA hs) ?_;refine zK v ?_)
 refine TX (k:=s.length-1-k) ?_ ?_ ?_
 ·unfold wC
  exact Ba.mpr ⟨decide_eq_true (by lia),decide_eq_true (by lia)⟩
 ·have hj:(if(-(k:Int)-1)<0 then(-(k:Int)-1)+(s.length:Int)else(-(k:Int)-1))=((s.length-1-k:Nat):Int):=by
   refine xT (by lia) ?_;lia
  unfold F6
  rw[hj,if_pos (by simp;lia)];rfl
 ·have hr:k<s.reverse.length:=by simpa using hk
  rw[A4,Aw hr,List.getElem_reverse]
  rw[Aw (Ds (Hr _ _) (Nat.sub_lt (Nat.zero_lt_of_lt hk) Nat.one_pos))];rfl
theorem zVm{k:Nat}(h0:At σ 0 (.str a))(h1:At σ 1 (.str b))(h4:At σ 4 (.int (-(k:Int))))(ha:a.length<=60)(hb:b.length<=60):aZ U z6 σ=some (lR a.reverse b.reverse k):=by
 have sa:a.length<=ag:=by unfold ag;lia
 have sb:b.length<=ag:=by unfold ag;lia
 have t1:=uV (FE (U:=U) h0 sa h4) (by rw[Cu];exact Ad (J1 _ _) sa)
 have t2:=uV (FE (U:=U) h1 sb h4) (by rw[Cu];exact Ad (J1 _ _) sb)
 by_cases aX:k<a.reverse.length/\k<b.reverse.length
 ·have l1:k<a.length:=by simpa using aX.1
  have l2:k<b.length:=by simpa using aX.2
  have t3:=N7 (U:=U) (Ur h0 ha h4 l1) (Ur h1 hb h4 l2)
  refine(FC t1 (fun _=>t2) (fun _ _=>t3)).trans ?_
  rw[Uo aX.1 aX.2]
  have e1:(a.take (a.length-k)).isEmpty=false:=by
   cases h:(a.take (a.length-k))with
   |nil=>
    have:(a.take (a.length-k)).length=0:=by rw[h];rfl
    rw[Cu,Dr (Hr _ _)]at this;exact absurd this (Hi (Gb l1))
   |cons _ _=>rfl
  have e2:(b.take (b.length-k)).isEmpty=false:=by
   cases h:(b.take (b.length-k))with
   |nil=>
    have:(b.take (b.length-k)).length=0:=by rw[h];rfl
    rw[Cu,Dr (Hr _ _)]at this;exact absurd this (Hi (Gb l2))
   |cons _ _=>rfl
  rw[e1,e2]
  simp
 ·refine(FC (b3:=false) t1 (fun _=>t2) (fun q1 q2=>?_)).trans ?_
  ·exfalso
   apply aX
   rw[Dj,Dj]
   constructor
   ·apply De;intro h
    rw[Kp (Ci h)]at q1;exact ft q1
   ·apply De;intro h
    rw[Kp (Ci h)]at q2;exact ft q2
  ·rw[Up aX];simp
theorem Us(ha:a.length<=60)(hb:b.length<=60):∀(n k:Nat) (σ:List (Option PV)),σ.length=14->At σ 0 (.str a)->At σ 1 (.str b)->At σ 4 (.int (-(k:Int)))->k<=a.length->a.length<n+k->
  nB U z6 (zU U (.cons (.aug .Sub 4 (.lit (.int 1))) .nil)) n ⟨σ,β⟩=some (⟨σ.set 4 (some (.int (-((k+gY (a.reverse.drop k) (b.reverse.drop k):Nat):Int)))),β⟩, .next)
 |0,k,σ,_,h0,h1,h4,iD,hn=>by lia
 |n+1,k,σ,hL,h0,h1,h4,iD,hn=>by
  refine(?_:((aZ U z6 σ).bind _)=_)
  (refine zK (zVm h0 h1 h4 ha hb) ?_;rw[Un])
  cases hs:lR a.reverse b.reverse k with
  |true=>
   refine dY (FA hs) fun l1 l2 _=>?_
   rw[if_pos rfl,if_pos rfl]
   have e:zU U (.cons (.aug .Sub 4 (.lit (.int 1))) .nil) ⟨σ,β⟩=some (⟨σ.set 4 (some (.int (-((k+1:Nat):Int)))),β⟩, .next):=by
    refine fk ?_
    refine(?_:((σ[4]?).bind id).bind _=_)
    rw[h4]
    refine(?_:some ((⟨σ,β⟩:Sg).set 4 (.int (-(k:Int)-1)),Fl.next)=_)
    rw[show(-(k:Int)-1)= -((k+1:Nat):Int)by lia];rfl
   refine zK e ?_
   dsimp only
   rw[Us ha hb n (k+1) _ (by rw[Ct];exact hL) (h0.set (by decide)) (h1.set (by decide)) (yO (by rw[hL];decide)) (by rw[Dj]at l1;exact l1) (by lia)]
   rw[Mi,show k+(gY (a.reverse.drop (k+1)) (b.reverse.drop (k+1))+1)=k+1+gY (a.reverse.drop (k+1)) (b.reverse.drop (k+1))from by rw[C5,Em 1]]
  |false=>
   rw[if_neg (by decide),if_neg (by decide)]
   congr 3
   apply List.ext_getElem?
   intro j
   by_cases hj:4=j
   ·subst hj
    rw[D0 (by rw[hL];decide),h4];rfl
   ·rw[Bl hj]
theorem Ut{t1 t2:PT}{b1 b2:Bool}(h1:aZ U t1 σ=some b1)(h2:aZ U t2 σ=some b2):aZ U (.or (.cons t1 (.cons t2 .nil))) σ=some (b1||b2):=by
 refine(?_:((aZ U t1 σ).bind fun b=>if b==false then(aZ U t2 σ).bind fun b=>if b==false then some false else some (!false)else some (!false))=_)
 refine zK h1 ?_
 cases b1 with
 |true=>rfl
 |false=>
  (refine xT (show(false==false)=true from rfl) ?_;refine zK h2 ?_)
  cases b2<;>rfl
theorem N8{t:PT}{b:Bool}(h:aZ U t σ=some b):aZ U (.not t) σ=some (!b):=by
 refine(?_:(aZ U t σ).map _=_)
 rw[h];rfl
theorem zTy(hU:∀x y:Nat,x<128->y<128->U 0 [.str [x], .str [y]]=some (pn (ig x y))){c:Nat}(qx:small a)(ha:a.length<=40)(iG:small b)(hb:b.length<=40)
  (hL:σ.length=14) (h0:At σ 0 (.str a)) (h1:At σ 1 (.str b)) (h2:At σ 2 (pn c)):∃g',zU U N4 ⟨σ,β⟩=some (g', .ret (pn (N3 a b c))):=by
 have sa:a.length<=ag:=by unfold ag;lia
 have sb:b.length<=ag:=by unfold ag;lia
 have n0:ev U (.bi 0 (.cons (.var 0) .nil)) σ=some (pn a.length):=qO (zA h0) sa
 have n1:ev U (.bi 0 (.cons (.var 1) .nil)) σ=some (pn b.length):=qO (zA h1) sb
 have tA:aZ U (.or (.cons (.not (.eO (.var 0))) (.cons (.not (.eO (.var 1))) .nil))) σ=some (a.isEmpty||b.isEmpty):=by
  rw[Ut (N8 (uV (zA h0) sa)) (N8 (uV (zA h1) sb))]
  simp
 unfold N3
 by_cases he:(a.isEmpty||b.isEmpty)=true
 ·rw[if_pos he]
  refine cu ⟨σ,β⟩ (yU (gE (tA.trans (by rw[he])) (yU ?_)))
  refine(?_:((fD U _ ⟨σ,β⟩).bind _)=_)
  unfold fD
  rw[z7 (m:=2) rfl (wL n0 n1) (by decide) (by lia),As,if_pos zO];rfl
 ·have he':(a.isEmpty||b.isEmpty)=false:=by simpa using he
  rw[if_neg he]
  have e1:=fQ (U:=U) (β:=β) (a:= .cons (.ret (.bin .Mult (.lit (.int 2)) (.bin .Add (.bi 0 (.cons (.var 0) .nil)) (.bi 0 (.cons (.var 1) .nil))))) .nil) (b:= .nil) (tA.trans (by rw[he'])) rfl
  have tB:aZ U (.or (.cons (.cmp .Gt (.bi 0 (.cons (.var 0) .nil)) (.lit (.int 40))) (.cons (.cmp .Gt (.bi 0 (.cons (.var 1) .nil)) (.lit (.int 40))) .nil))) σ=some false:=by
   rw[Ut (s9 (n:=40) n0 rfl) (s9 (n:=40) n1 rfl),decide_eq_false (by lia),decide_eq_false (by lia)];rfl
  have e2:=fQ (U:=U) (β:=β) (a:= .cons (.ret (.bin .Add (.var 2) (.lit (.int 1)))) .nil) (b:= .nil) tB rfl
  have tC:aZ U (.cmp .Lt (.bi 0 (.cons (.var 1) .nil)) (.bi 0 (.cons (.var 0) .nil))) σ=some (decide (b.length<a.length)):=by
   refine(?_:(ev U (.bi 0 (.cons (.var 1) .nil)) σ).bind _=_)
   (refine zK n1 ?_;refine zK n0 ?_)
   refine(?_:some (decide ((b.length:Int)<(a.length:Int)))=_)
   congr 1
   simp
  have t7:zU U N4 ⟨σ,β⟩=zU U (.cons (.ifs (.cmp .Lt (.bi 0 (.cons (.var 1) .nil)) (.bi 0 (.cons (.var 0) .nil))) (.cons (.swap 0 1 (.var 1) (.var 0)) .nil) .nil) EZ) ⟨σ,β⟩:=(zG e1).trans (zG e2)
  rw[t7]
  by_cases aX:b.length<a.length
  ·rw[if_pos aX]
   have sw:den U (.swap 0 1 (.var 1) (.var 0)) ⟨σ,β⟩=some (⟨(σ.set 1 (some (.str a))).set 0 (some (.str b)),β⟩, .next):=by
    refine(?_:((ev U (.var 1) σ).bind _)=_)
    (refine zK (zA h1) ?_;rw[zA h0]);rfl
   have e3:=gE (U:=U) (β:=β) (a:= .cons (.swap 0 1 (.var 1) (.var 0)) .nil) (b:= .nil) (tC.trans (by rw[decide_eq_true aX])) (fk sw)
   obtain⟨g',e4⟩:=Um (U:=U) (β:=β) (c:=c) (σ:=(σ.set 1 (some (.str a))).set 0 (some (.str b))) hU iG hb qx ha (by lia) (by simp[hL]) (yO (by simp[hL])) ((yO (by rw[hL];decide)).set (by decide)) ((h2.set (by decide)).set (by decide))
   exact cu g' ((zG e3).trans e4)
  ·rw[if_neg aX]
   have e3:=fQ (U:=U) (β:=β) (a:= .cons (.swap 0 1 (.var 1) (.var 0)) .nil) (b:= .nil) (tC.trans (by rw[decide_eq_false aX])) rfl
   refine aH (Um (U:=U) (β:=β) (c:=c) hU qx ha iG hb (by lia) hL h0 h1 h2) fun g' e4=>?_
   exact cu g' ((zG e3).trans e4)
theorem zYb(hU:∀x y:Nat,x<128->y<128->U 0 [.str [x], .str [y]]=some (pn (ig x y))){c:Nat}(qx:small a)(ha:a.length<=40)(iG:small b)(hb:b.length<=40):
  lO (zU U zj) (aF 18) 3 [.str a, .str b,pn c]=some (pn (te a b c)):=by
 have fU:eI (aF 18) [.str a, .str b,pn c] none=⟨[some (.str a),some (.str b),some (pn c),none,none,none,none,none,none,none,none,none,none,none],none⟩:=rfl
 have key:∃g',zU U zj (eI (aF 18) [.str a, .str b,pn c] none)=some (g', .ret (pn (te a b c))):=by
  rw[fU,zZ4]
  generalize bu:[some (PV.str a),some (.str b),some (pn c),none,none,none,none,none,none,none,none,none,none,none]=σ
  have hL:σ.length=14:=by rw[<-bu];rfl
  have h0:At σ 0 (.str a):=by rw[<-bu];rfl
  have h1:At σ 1 (.str b):=by rw[<-bu];rfl
  have h2:At σ 2 (pn c):=by rw[<-bu];rfl
  have sa:a.length<=ag:=by unfold ag;lia
  have sb:b.length<=ag:=by unfold ag;lia
  have t1:=N7 (U:=U) (zA h0) (zA h1)
  unfold te
  by_cases FF:(a==b)=true
  ·rw[if_pos FF]
   exact cu ⟨σ,none⟩ (yU (gE (t1.trans (by rw[FF])) rfl))
  ·have N9:(a==b)=false:=by simpa using FF
   rw[if_neg FF]
   dsimp only
   have e1:=fQ (U:=U) (β:=none) (a:= .cons (.ret (.lit (.int 0))) .nil) (b:= .nil) (t1.trans (by rw[N9])) rfl
   rw[zG e1]
   have e2:den U (.assign 3 (.lit (.int 0))) ⟨σ,none⟩=some (⟨σ.set 3 (some (pn 0)),none⟩, .next):=zD (e:= .lit _) rfl rfl
   rw[zG e2]
   have e3:=Uq (U:=U) (β:=none) (a:=a) (b:=b) (by lia) (by lia) 64 0 (σ.set 3 (some (pn 0))) (by simp[hL]) (h0.set (by decide)) (h1.set (by decide)) (yO (by rw[hL];decide)) (C2 _) (C2 _) (by lia)
   rw[Dz,Dz,Cp,Mi]at e3
   refine aq (zXj a b) fun nz nA=>?_
   generalize gY a b=p at e3 nz nA⊢
   rw[zG (q:= .oJ z5 (.cons (.aug .Add 3 (.lit (.int 1))) .nil)) e3]
   generalize eM:σ.set 3 (some (pn p))=bT
   have L1:bT.length=14:=by rw[<-eM];simp[hL]
   have a0:At bT 0 (.str a):=by rw[<-eM];exact h0.set (by decide)
   have a1:At bT 1 (.str b):=by rw[<-eM];exact h1.set (by decide)
   have a2:At bT 2 (pn c):=by rw[<-eM];exact h2.set (by decide)
   have a3:At bT 3 (pn p):=by rw[<-eM];exact yO (by rw[hL];decide)
   have e4:den U (.assign 0 (.bI (.var 0) (.yes (.var 3)) .no .no)) ⟨bT,none⟩=some (⟨bT.set 0 (some (.str (a.drop p))),none⟩, .next):=zD (FD a0 sa nz a3) yL
   rw[zG e4]
   have e5:den U (.assign 1 (.bI (.var 1) (.yes (.var 3)) .no .no)) ⟨bT.set 0 (some (.str (a.drop p))),none⟩=some (⟨(bT.set 0 (some (.str (a.drop p)))).set 1 (some (.str (b.drop p))),none⟩, .next):=zD (FD (a1.set (by decide)) sb nA (a3.set (by decide))) yL
   rw[zG e5]
   have e6:∀σ,den U (.assign 4 (.lit (.int 0))) ⟨σ,none⟩=some (⟨σ.set 4 (some (.int (-((0:Nat):Int)))),none⟩, .next):=fun σ=>zD (e:= .lit _) rfl rfl
   rw[zG (e6 _)]
   generalize cy:((bT.set 0 (some (.str (a.drop p)))).set 1 (some (.str (b.drop p)))).set 4 (some (.int (-((0:Nat):Int))))=bR
   have L2:bR.length=14:=by rw[<-cy];simp[L1]
   have b0:At bR 0 (.str (a.drop p)):=by rw[<-cy];exact((yO (by rw[L1];decide)).set (by decide)).set (by decide)
   have b1:At bR 1 (.str (b.drop p)):=by rw[<-cy];exact(yO (by simp[L1])).set (by decide)
   have b2:At bR 2 (pn c):=by rw[<-cy];exact((a2.set (by decide)).set (by decide)).set (by decide)
   have b4:At bR 4 (.int (-((0:Nat):Int))):=by rw[<-cy];exact yO (by simp[L1])
   have lx:(a.drop p).length<=40:=by rw[Bw];lia
   have ly:(b.drop p).length<=40:=by rw[Bw];lia
   have sx:small (a.drop p):=fun c hc=>qx c (Ih hc)
   have sy:small (b.drop p):=fun c hc=>iG c (Ih hc)
   generalize a.drop p=x at b0 lx sx⊢
   generalize b.drop p=y at b1 ly sy⊢
   have e7:=Us (U:=U) (β:=none) (a:=x) (b:=y) (by lia) (by lia) 64 0 bR L2 b0 b1 b4 (C2 _) (by lia)
   rw[Dz,Dz,Cp]at e7
   rw[zG (q:= .oJ z6 (.cons (.aug .Sub 4 (.lit (.int 1))) .nil)) e7]
   unfold Ue
   generalize gY x.reverse y.reverse=q at e7⊢
   generalize cZ:bR.set 4 (some (.int (-(q:Int))))=cJ
   have L3:cJ.length=14:=by rw[<-cZ];simp[L2]
   have c0:At cJ 0 (.str x):=by rw[<-cZ];exact b0.set (by decide)
   have c1:At cJ 1 (.str y):=by rw[<-cZ];exact b1.set (by decide)
   have c2:At cJ 2 (pn c):=by rw[<-cZ];exact b2.set (by decide)
   have c4:At cJ 4 (.int (-(q:Int))):=by rw[<-cZ];exact yO (by rw[L2];decide)
   have e8:den U (.assign 0 (.bI (.var 0) .no (.yes (.gH (.var 4) (.lit .none))) .no)) ⟨cJ,none⟩=some (⟨cJ.set 0 (some (.str (x.take (x.length-q)))),none⟩, .next):=zD (FE c0 (by unfold ag;lia) c4) yL
   rw[zG e8]
   have e9:den U (.assign 1 (.bI (.var 1) .no (.yes (.gH (.var 4) (.lit .none))) .no)) ⟨cJ.set 0 (some (.str (x.take (x.length-q)))),none⟩=some (⟨(cJ.set 0 (some (.str (x.take (x.length-q))))).set 1 (some (.str (y.take (y.length-q)))),none⟩, .next):=zD (FE (c1.set (by decide)) (by unfold ag;lia) (c4.set (by decide))) yL
   rw[zG e9]
   exact zTy hU (fun c hc=>sx c (Gm hc)) (by rw[Cu];lia) (fun c hc=>sy c (Gm hc)) (by rw[Cu];lia) (by simp[L3]) ((yO (by rw[L3];decide)).set (by decide)) (yO (by simp[L3])) ((c2.set (by decide)).set (by decide))
 refine aH key fun g' e=>?_
 exact(if_pos rfl).trans (by rw[e])
end
structure Kn(n:Nat)(σ:List (Option PV))(K:List (Nat×PV)):Prop where
 len:σ.length=n
 get:∀i p,K.lookup i=some p->At σ i p
theorem Kn.set{n:Nat}{σ:List (Option PV)}{K:List (Nat×PV)}(h:Kn n σ K){i:Nat}(hi:i<n)(p:PV):Kn n (σ.set i (some p)) ((i,p)::K):=by
 refine⟨by rw[Ct];exact h.len,fun j q e=>?_⟩
 rw[A7]at e
 by_cases hj:j=i
 ·subst hj
  rw[show(j==j)=true by simp]at e
  obtain rfl:=Aa e
  exact yO (by rw[h.len];exact hi)
 ·rw[show(j==i)=false by simpa using hj]at e
  exact(h.get j q e).set (fun q=>hj q.symm)
section
variable{U:Uc}{σ:List (Option PV)}{β:Option (Value×aj)}{n:Nat}{K:List (Nat×PV)}
theorem z8{a b:PE}{m n:Nat}(ha:ev U a σ=some (pn m))(hb:ev U b σ=some (pn n))(hle:n<=m):ev U (.bin .Sub a b) σ=some (pn (m-n)):=by
 refine(?_:(ev U a σ).bind _=_)
 rw[ha]
 refine(?_:(ev U b σ).bind _=_)
 rw[hb]
 refine(?_:some (PV.int ((m:Int)-(n:Int)))=_)
 rw[(Int.ofNat_sub hle).symm]
theorem yBm{a b:PE}{m n:Int}(ha:ev U a σ=some (.int m))(hb:ev U b σ=some (.int n)):ev U (.bin .Sub a b) σ=some (.int (m-n)):=by
 refine(?_:(ev U a σ).bind _=_)
 rw[ha]
 refine(?_:(ev U b σ).bind _=_)
 rw[hb];rfl
theorem zZ2{a:PE}{m n:Nat}(ha:ev U a σ=some (.int ((m:Int)-(n:Int)))):ev U (.bi 4 (.cons a .nil)) σ=some (pn ((m-n)+(n-m))):=by
 refine(?_:((ev U a σ).bind fun x=>(some []).map (x:: ·)).bind _=_)
 rw[ha]
 refine(?_:some (PV.int (if(m:Int)-(n:Int)<0 then -((m:Int)-(n:Int))else(m:Int)-(n:Int)))=_)
 congr 2
 split<;>lia
theorem Uu{t1 t2:PT}{b1 b2:Bool}(h1:aZ U t1 σ=some b1)(h2:b1=true->aZ U t2 σ=some b2):aZ U (.and (.cons t1 (.cons t2 .nil))) σ=some (b1&&b2):=by
 refine(?_:((aZ U t1 σ).bind fun b=>if b==true then(aZ U t2 σ).bind fun b=>if b==true then some true else some (!true)else some (!true))=_)
 refine zK h1 ?_
 cases b1 with
 |false=>rfl
 |true=>
  (refine xT (show(true==true)=true from rfl) ?_;refine zK (h2 rfl) ?_)
  cases b2<;>rfl
theorem z9{k:Nat}{a:PE}{x r:PV}(ha:ev U a σ=some x)(h:U k [x]=some r):ev U (.uc k (.cons a .nil)) σ=some r:=by
 refine(?_:((ev U a σ).bind fun x=>(some []).map (x:: ·)).bind _=_)
 rw[ha];exact h
theorem zZp{k:Nat}{a b c:PE}{x y z r:PV}(ha:ev U a σ=some x)(hb:ev U b σ=some y)(hc:ev U c σ=some z)(h:U k [x,y,z]=some r):ev U (.uc k (.cons a (.cons b (.cons c .nil)))) σ=some r:=by
 refine(?_:((ev U a σ).bind fun x=>((ev U b σ).bind fun y=>((ev U c σ).bind fun z=>(some []).map (z:: ·)).map (y:: ·)).map (x:: ·)).bind _=_)
 rw[ha,hb,hc];exact h
theorem Uv{a b:PE}{x y:Bool}(ha:ev U a σ=some (.bool x))(hb:ev U b σ=some (.bool y)):aZ U (.cmp .IsNot a b) σ=some (!(x==y)):=by
 refine(?_:(ev U a σ).bind _=_)
 (refine zK ha ?_;rw[hb]);rfl
end
section
variable{U:Uc}{σ:List (Option PV)}{β:Option (Value×aj)}
end
theorem Uw{Inv:Nat->Sg->Prop}{i n:Nat}{f:Den}(step:∀k g,k<n->Inv k g->∃g',f (g.set i (pn k))=some (g', .next)/\Inv (k+1) g'):∀(m k:Nat) (g:Sg),k+m=n->Inv k g->∃g',wE [i] f ((Ge k m).map fun k=> [pn k]) g=some (g', .next)/\Inv n g'
 |0,k,g,hk,h=>⟨g,rfl,by rw[Nat.add_zero]at hk;rw[<-hk];exact h⟩
 |m+1,k,g,hk,h=>by
  refine aB (step k g (by exact xS) h) fun g₁ e1 h1=>?_
  refine aB (Uw step m (k+1) g₁ (by lia) h1) fun ct e2 h2=>?_
  refine i12 ct ?_ h2
  rw[List.range'_succ,Dp]
  refine(?_:((f (g.set i (pn k))).bind _)=_)
  rw[e1];exact e2
theorem Ux{Inv:Nat->Sg->Prop}{i n:Nat}{f:Den}{g:Sg}(h:Inv 0 g)(step:∀k g,k<n->Inv k g->∃g',f (g.set i (pn k))=some (g', .next)/\Inv (k+1) g'):∃g',wE [i] f ((Au n).map fun k=> [pn k]) g=some (g', .next)/\Inv n g':=by
 rw[Ib]
 exact Uw step n 0 g (Cp n) h
section
variable{U:Uc}{σ:List (Option PV)}{β:Option (Value×aj)}{xs:List Nat}{tot:Nat}{t:Nat×Nat×Nat}{w:Value}{K:List (Nat×PV)}
theorem AA{p:PV}:ev U (.lit p) σ=some p:=rfl
theorem Kn.nil{n:Nat}(h:σ.length=n):Kn n σ []:=⟨h,fun _ _ e=>nn e⟩
theorem Kn.cons{n i:Nat}{p:PV}(h:At σ i p)(k:Kn n σ K):Kn n σ ((i,p)::K):=⟨k.len,fun j q e=>by
 rw[A7]at e
 by_cases hj:(j==i)=true
 ·rw[hj]at e
  obtain rfl:=Aa e
  rw[eq_of_beq hj];exact h
 ·rw[Bool.eq_false_iff.mpr hj]at e
  exact k.get j q e⟩
end
noncomputable def cU(ms:List Nat):List Nat:=ms.flatMap fun m=>40::A0 m 41
noncomputable def yM(ms:List Nat):List Nat:=(Au ms.length).filter fun k=>decide (0<ms.getD k 0)
noncomputable def iZ(xs ms:List Nat):Nat:=if ms.length=4 then ms.length+1-ms.sum else xs.getD ms.length 0/24%(ms.length+1-ms.sum+1)
noncomputable def bD(xs:List Nat):Nat->List Nat
 |0=> []
 |n+1=>bD xs n++[iZ xs (bD xs n)]
noncomputable def lS:Nat->List (List Nat)
 |0=> [[]]
 |n+1=>(lS n).flatMap fun ms=>if n=4 then [ms++[5-ms.sum]]else(Au (n+2-ms.sum)).map fun m=>ms++[m]
theorem tm(xs:List Nat):∀n,(bD xs n).length=n
 |0=>rfl
 |n+1=>by
  refine(?_:(bD xs n++[_]).length=_)
  rw[Ah,tm xs n];rfl
theorem Oa:∀n ms,ms∈lS n->n<=5->ms.length=n/\ms.sum<=n:=by
 intro n
 induction n with
 |zero=>intro ms h _;cases Ae.mp h;exact⟨rfl,Bv _⟩
 |succ n ih=>
  intro ms h hn
  obtain⟨q,hq,h⟩:=Fq.mp h
  obtain⟨h1,h2⟩:=ih q hq (Cy hn)
  by_cases h4:n=4
  ·rw[if_pos h4]at h
   cases Ae.mp h
   rw[Ah,Gy,h1]
   exact⟨rfl,by simp;omega⟩
  ·rw[if_neg h4]at h
   obtain⟨m,hm,rfl⟩:=F1.mp h
   have:=B7.mp hm
   rw[Ah,Gy,h1]
   exact⟨rfl,by simp;omega⟩
theorem uW(xs:List Nat):∀n,n<=5->bD xs n∈lS n
 |0,_=> .head _
 |n+1,hn=>by
  have hs:=(Oa n _ (uW xs n (Cy hn)) (Cy hn)).2
  refine Fq.mpr ⟨_,uW xs n (Cy hn),?_⟩
  refine(?_:bD xs n++[iZ xs (bD xs n)]∈(if n=4 then [bD xs n++[5-(bD xs n).sum]]else(Au (n+2-(bD xs n).sum)).map fun m=>bD xs n++[m]))
  unfold iZ
  rw[tm]
  by_cases h:n=4
  ·rw[if_pos h,if_pos h,h];exact Bg _
  ·rw[if_neg h,if_neg h]
   refine F1.mpr ⟨_,B7.mpr ?_,rfl⟩
   exact D7 (Bn _ (Ha _)) (Cr (Nat.sub_add_comm (Jg hs)).symm)
theorem zYv(ms:List Nat)(m:Nat):cU (ms++[m])=cU ms++[40]++A0 m 41:=by
 unfold cU;rw[List.flatMap_append];simp
theorem Uy(ms:List Nat):(cU ms++[40]).count 40=ms.length+1:=by
 induction ms with
 |nil=>rfl
 |cons m r ih=>
  unfold cU at ih⊢
  rw[D1,Bf,List.count_append,ih,List.count_cons_self,List.count_replicate]
  simp;omega
theorem Uz(ms:List Nat):(cU ms++[40]).count 41=ms.sum:=by
 induction ms with
 |nil=>rfl
 |cons m r ih=>
  unfold cU at ih⊢
  rw[D1,Bf,List.count_append,ih]
  simp
theorem Ob(ms:List Nat):(cU ms).length=ms.length+ms.sum:=by
 induction ms with
 |nil=>rfl
 |cons m r ih=>
  unfold cU at ih⊢
  rw[D1,Ah,ih];simp;omega
theorem zRw(ms:List Nat)(m:Nat):yM (ms++[m])=yM ms++(if 0<m then [ms.length]else []):=by
 unfold yM
 rw[Ah,List.length_singleton,List.range_succ,List.filter_append]
 congr 1
 ·refine List.filter_congr fun k hk=>?_
  have:=B7.mp hk
  rw[A4,A4,B6 this]
 ·simp[Gn]
theorem zNn{l:List (Nat×PV)}{i:Nat}{p:PV}(h:l.lookup i=some p):(i,p)∈l:=by
 induction l with
 |nil=>exact nn h
 |cons z r ih=>
  obtain⟨j,q⟩:=z
  rw[A7]at h
  by_cases e:i==j
  ·rw[e]at h
   obtain rfl:=Aa h
   rw[eq_of_beq e];exact Aj ..
  ·rw[Bool.not_eq_true]at e
   rw[e]at h
   exact Ai _ (ih h)
section
variable{U:Uc}{σ:List (Option PV)}{β:Option (Value×aj)}{xs:List Nat}
theorem UA{e:PE}{l:List Nat}{c:Nat}(h:ev U e σ=some (.str l)):ev U (.me 2 e (.cons (.lit (.str [c])) .nil)) σ=some (pn (l.count c)):=by
 refine(?_:(ev U e σ).bind _=_)
 exact zK h rfl
theorem Kn.step{n:Nat}{K:List (Nat×PV)}(h:Kn n σ K){i:Nat}(hi:i<n){st:PS}{p:PV}(e:den U st ⟨σ,β⟩=some (⟨σ.set i (some p),β⟩, .next)):∃aJ,(∀r,zU U (.cons st r) ⟨σ,β⟩=zU U r ⟨aJ,β⟩)/\Kn n aJ ((i,p)::K):=
 ⟨_,fun r=>zG e,h.set hi p⟩
theorem Kn.sub{n:Nat}{K L:List (Nat×PV)}(h:Kn n σ K)(k:∀z∈L,K.lookup z.1=some z.2):Kn n σ L:=⟨h.len,fun i p e=>h.get i p (k _ (zNn e))⟩
noncomputable def mK(xs:List Nat)(tot:Nat)(ms:List Nat):List (Nat×PV):=[(2, .list (xs.map pn)),(3,pn tot),(4, .str (cU ms)),(5, .list ((yM ms).map pn))]
theorem zYs{K:List (Nat×PV)}{ms:List Nat}(h:Kn 27 σ K)(hx:xs.length=5)(hm:ms.length<5)(h2:K.lookup 2=some (.list (xs.map pn)))(h1:K.lookup 1=some (pn ms.length))(h6:K.lookup 6=some (pn (ms.length+1-ms.sum))):
  ev U (.ite (.cmp .Eq (.var 1) (.lit (.int 4))) (.var 6) (.bin .Mod (.bin .FloorDiv (.idx (.var 2) (.var 1)) (.lit (.int 24))) (.bin .Add (.var 6) (.lit (.int 1))))) σ=some (pn (iZ xs ms)):=by
 rw[ET (NW (n:=4) (zA (h.get 1 _ h1)) rfl)]
 unfold iZ
 by_cases h4:ms.length=4
 ·rw[if_pos (by simpa using h4),if_pos h4];exact zA (h.get 6 _ h6)
 ·rw[if_neg (by simpa using h4),if_neg h4]
  exact jB (pK (n:=24) (wB (zA (h.get 2 _ h2)) (zA (h.get 1 _ h1)) (ng pn 0 (hx▸hm)) (by rw[An,hx];decide)) rfl (by decide)) (wL (zA (h.get 6 _ h6)) (AA (p:=pn 1))) (Ha _)
theorem zYl{tot:Nat}{ms:List Nat}(h:Kn 27 σ ((1,pn ms.length)::mK xs tot ms))(hx:xs.length=5)(hm:ms.length<5)(hs:ms.sum<=ms.length)(dq:iZ xs ms<=5):
  ∃aJ,zU U (EU m4) ⟨σ,β⟩=some (⟨aJ,β⟩, .next)/\Kn 27 aJ (mK xs tot (ms++[iZ xs ms])):=by
 have hml:=Ob ms
 have hb:(cU ms).length<=10:=by omega
 have FG:(yM ms).length<=ms.length:=Ad (Kq ..) (Cr F9)
 have kr:(cU ms++[40]).length<=11:=by rw[Ah];exact By hb 1
 have uU:(A0 (iZ xs ms) 41).length<=5:=by rw[E3];exact dq
 obtain⟨bT,e1,h1⟩:=h.step (U:=U) (β:=β) (i:=4) (by decide) (TS (h.get 4 _ rfl) (AA (p:= .str [40])) (Ad (By hb 1) (by decide)))
 obtain⟨bR,e2,h2⟩:=h1.step (U:=U) (β:=β) (i:=6) (by decide) (zD (by have:=z8 (U:=U) (UA (c:=40) (zA (h1.get 4 _ rfl))) (UA (c:=41) (zA (h1.get 4 _ rfl))) (by rw[Uy,Uz];omega);rw[Uy,Uz]at this;exact this) zO)
 obtain⟨cJ,e3,h3⟩:=h2.step (U:=U) (β:=β) (i:=7) (by decide) (zD (zYs h2 hx hm rfl rfl rfl) zO)
 obtain⟨gn,e4,h4⟩:=h3.step (U:=U) (β:=β) (i:=4) (by decide) (TS (h3.get 4 _ rfl) (TZ (zA (h3.get 7 _ rfl)) (Ad dq (by decide))) (Ad (Hn kr uU) (by decide)))
 refine i12 (if 0<iZ xs ms then gn.set 5 (some (.list ((yM ms).map pn++[pn ms.length])))else gn) ?_ ?_
 ·refine(e1 _).trans<|(e2 _).trans<|(e3 _).trans<|(e4 _).trans ?_
  refine(?_:zZ (den U _) aA _=_)
  by_cases hp:0<iZ xs ms
  ·rw[if_pos hp]
   refine pJ ?_
   rw[zz (s9 (n:=0) (zA (h4.get 7 _ rfl)) rfl),if_pos (by simpa using hp)]
   exact pJ (zy (h4.get 5 _ rfl) (zA (h4.get 1 _ rfl)) zO (by rw[An];exact Ad FG (Ad (Cj hm) (by decide))))
  ·rw[if_neg hp]
   refine pJ ?_
   rw[zz (s9 (n:=0) (zA (h4.get 7 _ rfl)) rfl),if_neg (by simpa using hp)]
   rfl
 ·have g5:(yM (ms++[iZ xs ms])).map pn=if 0<iZ xs ms then(yM ms).map pn++[pn ms.length]else(yM ms).map pn:=by
   rw[zRw]
   split<;>simp
  have g4:cU ms++[40]++A0 (iZ xs ms) 41=cU (ms++[iZ xs ms]):=(zYv ..).symm
  by_cases hp:0<iZ xs ms
  ·rw[if_pos hp]at g5⊢
   exact(h4.set (i:=5) (by decide) _).sub (fa rfl (fa rfl (fa (congrArg (some∘PV.str) g4) (fa (congrArg (some∘PV.list) g5.symm) dO))))
  ·rw[if_neg hp]at g5⊢
   exact h4.sub (fa rfl (fa rfl (fa (congrArg (some∘PV.str) g4) (fa (congrArg (some∘PV.list) g5.symm) dO))))
theorem yAk{tot:Nat}(h:Kn 27 σ (mK xs tot []))(hx:xs.length=5):∃aJ,den U m4 ⟨σ,β⟩=some (⟨aJ,β⟩, .next)/\Kn 27 aJ (mK xs tot (bD xs 5)):=by
 obtain⟨g,e,aJ,rfl,h'⟩:=Ux (i:=1) (n:=5) (f:=zU U (EU m4)) (g:=⟨σ,β⟩) (Inv:=fun k g=>∃σ,g=⟨σ,β⟩/\Kn 27 σ (mK xs tot (bD xs k))) ⟨σ,rfl,h⟩ fun k g hk ⟨τ,e,hK⟩=>by
  subst e
  have hl:=tm xs k
  have hM:=Oa _ _ (uW xs k (Cj hk)) (Cj hk)
  have hM':=Oa _ _ (uW xs (k+1) hk) hk
  have dq:(bD xs k++[iZ xs (bD xs k)]).sum<=k+1:=hM'.2
  rw[Gy,List.sum_singleton]at dq
  obtain⟨aJ,e',h'⟩:=zYl (U:=U) (β:=β) (σ:=τ.set 1 (some (pn k))) (ms:=bD xs k) (by have:=hK.set (i:=1) (by decide) (pn k);rw[hl];exact this) hx (by rw[hl];exact hk) (by rw[hl];exact hM.2) (by omega)
  exact⟨_,e',aJ,rfl,h'⟩
 exact⟨aJ,(EV (n:=5) rfl (by decide)).trans e,h'⟩
end
noncomputable def nj(th:List Nat)(q turn k:Nat):Bool:=k==q%10||(decide (2<th.length)&&k==(q+turn)%10)
noncomputable def tw(M th:List Nat)(q turn:Nat):List (List Nat):=(Au 10).map fun k=> [M.getD k 0]++if nj th q turn k then th else []
noncomputable def gp(tot:Nat):Nat:=1+tot%5*2
noncomputable def gZ(tot:Nat):List Nat:=things.getD (tot%9) []
noncomputable def jX:List (List Nat):=[[],[32],[34],[92],[9],[45]]
noncomputable def FH(tot:Nat):List Nat:=jX.getD (tot%6) []
theorem FI(tot:Nat):(gZ tot).length<=5:=by
 have key:∀k<9,(things.getD k []).length<=5:=by decide
 exact key _ (Bn _ (by decide))
section
variable{U:Uc}{σ:List (Option PV)}{β:Option (Value×aj)}{xs:List Nat}
theorem zXb{t1 t2:PT}{b1 b2:Bool}(h1:aZ U t1 σ=some b1)(h2:b1=false->aZ U t2 σ=some b2):aZ U (.or (.cons t1 (.cons t2 .nil))) σ=some (b1||b2):=by
 refine(?_:((aZ U t1 σ).bind fun b=>if b==false then(aZ U t2 σ).bind fun b=>if b==false then some false else some (!false)else some (!false))=_)
 refine zK h1 ?_
 cases b1 with
 |true=>rfl
 |false=>
  (refine xT (show(false==false)=true from rfl) ?_;refine zK (h2 rfl) ?_)
  cases b2<;>rfl
theorem tD{ls:List (List Nat)}{e:PE}{n:Nat}{j:PE}(he:ev U e σ=some (.list (ls.map PV.str)))(hj:ev U j σ=some (pn n))(hn:n<ls.length)(hs:ls.length<=ag):ev U (.idx e j) σ=some (.str (ls.getD n [])):=
 wB he hj (ng PV.str [] hn) (by rw[An];exact hs)
theorem zT6{tot k:Nat}{M th:List Nat}(bu:σ.length=27)(h3:At σ 3 (pn tot))(h4:At σ 4 (.str M))(hM:M.length=10)(h8:At σ 8 (.str th))(ht:th.length<=100)(h9:At σ 9 (pn (gp tot)))(hk:k<10):
  ev U (.bin .Add (.idx (.var 4) (.var 27)) (.ite (.or (.cons (.cmp .Eq (.var 27) (.bin .Mod (.bin .FloorDiv (.var 3) (.lit (.int 9))) (.lit (.int 10)))) (.cons (.and (.cons (.cmp .Gt (.bi 0 (.cons (.var 8) .nil)) (.lit (.int 2))) (.cons (.cmp .Eq (.var 27) (.bin .Mod (.bin .Add (.bin .FloorDiv (.var 3) (.lit (.int 9))) (.var 9)) (.lit (.int 10)))) .nil))) .nil))) (.var 8) (.lit (.str [])))) (σ++[some (pn k)])=some (.str ([M.getD k 0]++if nj th (tot/9) (gp tot) k then th else [])):=by
 have v:ev U (.var 27) (σ++[some (pn k)])=some (pn k):=zA (wY bu)
 have d:ev U (.bin .FloorDiv (.var 3) (.lit (.int 9))) (σ++[some (pn k)])=some (pn (tot/9)):=pK (n:=9) (zA h3.app) rfl (by decide)
 refine pL (uP (zA h4.app) v (c:=M.getD k 0) (tb 0 (hM▸hk)) (by rw[hM];decide)) ?_ ?_
 ·rw[ET (zXb (NW v (jB (n:=10) d rfl (by decide))) fun _=>Uu (s9 (n:=2) (qO (zA h8.app) (Ad ht (by decide))) rfl) fun _=>NW v (jB (n:=10) (wL d (zA h9.app)) rfl (by decide)))]
  refine(?_:(if nj th (tot/9) (gp tot) k=true then _ else _)=some (PV.str (if nj th (tot/9) (gp tot) k=true then th else [])))
  cases nj th (tot/9) (gp tot) k with
  |true=>exact zA (U:=U) (p:= .str th) h8.app
  |false=>rfl
 ·refine Ad (m:=101) ?_ (by decide)
  split
  ·exact Ad (Cr (Em ..)) (By ht 1)
  ·exact Ei _ _
noncomputable def aK(xs:List Nat):List (Nat×PV):=[(2, .list (xs.map pn)),(3,pn xs.sum),(4, .str (cU (bD xs 5))),(5, .list ((yM (bD xs 5)).map pn)),(8, .str (gZ xs.sum)),(9,pn (gp xs.sum)),(10, .list ((tw (cU (bD xs 5)) (gZ xs.sum) (xs.sum/9) (gp xs.sum)).map .str)),(11, .str (FH xs.sum))]
theorem UB:∀ms∈lS 5,ms.sum=5:=by decide+kernel
theorem zZz{is:List Int}(h0:At σ 0 (.list (is.map .int)))(hl:is.length<=1000)(bu:σ.length=27):∃xs aJ,xs.length=5/\zU U mA ⟨σ,β⟩=some (⟨aJ,β⟩, .next)/\Kn 27 aJ (aK xs):=by
 obtain⟨xs,hx,e0⟩:=zZj (U:=U) (β:=β) h0 hl bu
 have k0:Kn 27 (σ.set 2 (some (.list (xs.map pn)))) [(2, .list (xs.map pn))]:=(Kn.nil bu).set (by decide) _
 generalize σ.set 2 (some (.list (xs.map pn)))=FJ at e0 k0
 obtain⟨bT,e1,k1⟩:=k0.step (U:=U) (β:=β) (st:=m1) (i:=3) (by decide) (zD (yBl (k0.get 2 _ rfl)) zO)
 obtain⟨bR,e2,k2⟩:=k1.step (U:=U) (β:=β) (st:=m2) (i:=4) (by decide) (zD (e:= .lit (.str [])) rfl rfl)
 obtain⟨cJ,e3,k3⟩:=k2.step (U:=U) (β:=β) (st:=m3) (i:=5) (by decide) (zD (e:= .list _) rfl rfl)
 obtain⟨gn,e4,k4⟩:=yAk (U:=U) (β:=β) (xs:=xs) (tot:=xs.sum) (k3.sub (fa rfl (fa rfl (fa rfl (fa rfl dO))))) hx
 have fv:=uW xs 5 (Bv _)
 have hM:(cU (bD xs 5)).length=10:=by rw[Ob,tm,UB _ fv]
 obtain⟨lg,e5,k5⟩:=k4.step (U:=U) (β:=β) (st:=m5) (i:=8) (p:= .str (gZ xs.sum)) (by decide) (zD (e:= .idx (.list _) (.bin .Mod (.var 3) (.lit (.int 9)))) (tD (ls:=things) rfl (jB (n:=9) (zA (k4.get 3 _ rfl)) rfl (by decide)) (Bn _ (by decide)) (by decide)) yL)
 obtain⟨σ6,e6,k6⟩:=k5.step (U:=U) (β:=β) (st:=m6) (i:=9) (p:=pn (gp xs.sum)) (by decide) (zD (wL (m:=1) rfl (z7 (n:=2) (jB (n:=5) (zA (k5.get 3 _ rfl)) rfl (by decide)) rfl (Ad (Cj (Bn _ (by decide))) (by decide)) (by decide))) zO)
 obtain⟨σ7,e7,k7⟩:=k6.step (U:=U) (β:=β) (st:=m7) (i:=10) (p:= .list ((tw (cU (bD xs 5)) (gZ xs.sum) (xs.sum/9) (gp xs.sum)).map .str)) (by decide) (by
  refine zD (e:= .comp _ _ _) ?_ (show fresh (.comp _ _ _) (.list ((tw (cU (bD xs 5)) (gZ xs.sum) (xs.sum/9) (gp xs.sum)).map .str))=true from wR fun x _=>yL)
  refine(kX (U:=U) (src:= .eD (.lit (.int 10))) (l:=Au 10) (it:=fun i=> [pn i]) (g:=fun k=> .str ([(cU (bD xs 5)).getD k 0]++if nj (gZ xs.sum) (xs.sum/9) (gp xs.sum) k then gZ xs.sum else [])) (qN (n:=10) rfl (by decide)) (by decide) fun k hk=>⟨zT6 k6.len (k6.get 3 _ rfl) (k6.get 4 _ rfl) hM (k6.get 8 _ rfl) (Ad (FI _) (by decide)) (k6.get 9 _ rfl) (B7.mp hk),yL⟩).trans ?_
  unfold tw
  rw[A9];rfl)
 obtain⟨σ8,e8,k8⟩:=k7.step (U:=U) (β:=β) (st:=m8) (i:=11) (p:= .str (FH xs.sum)) (by decide) (zD (e:= .idx (.list _) (.bin .Mod (.var 3) (.lit (.int 6)))) (tD (ls:=jX) rfl (jB (n:=6) (zA (k7.get 3 _ rfl)) rfl (by decide)) (Bn _ (by decide)) (by decide)) yL)
 refine⟨xs,σ8,hx,?_,k8.sub (fa rfl (fa rfl (fa rfl (fa rfl (fa rfl (fa rfl (fa rfl (fa rfl dO))))))))⟩
 exact(zG e0).trans<|(e1 _).trans<|(e2 _).trans<|(e3 _).trans<|(zG e4).trans<|(e5 _).trans<|(e6 _).trans<|(e7 _).trans<|(e8 _).trans rfl
end
noncomputable def lT(w h:List Nat):List Nat:=w.flatMap fun c=>if h.contains c then [92,c]else [c]
noncomputable def jY(d:Nat)(bt:List Nat):List (List Nat):=[[97,98],[97,66],[65,98],[65,66]].map fun q=>A0 (1+d) 46++q.take 1++bt++q.drop 1
noncomputable def qQ:List (List Nat):=[[32,9,92],[32,9,92,97,66,34,45]]
noncomputable def AB:List (List Nat):=[[10],[13],[13,10]]
noncomputable def ff(tot:Nat):List (List Nat):=jY (tot/6%3) (FH tot)
noncomputable def g6(tot:Nat):List (List Nat):=(ff tot).map (46:: ·)
noncomputable def fS(tot:Nat)(xs:List Nat)(k:Nat):List Nat:=lT ((ff tot).getD (xs.getD k 0%4) []) (qQ.getD (xs.getD k 0/4%2) [])
noncomputable def nk(tot:Nat)(xs L:List Nat):List (List Nat):=L.map (fS tot xs)
noncomputable def iR(tot:Nat)(xs L:List Nat):List Nat:=L.flatMap fun k=>46::fS tot xs k++[13,10]
theorem yBi:∀d<3,∀t<6,(jY d (jX.getD t [])).map kR=(jY d (jX.getD t [])).map (46:: ·):=by decide+kernel
section
variable{U:Uc}{σ:List (Option PV)}{β:Option (Value×aj)}{xs:List Nat}
theorem UC{e:PE}{p:PV}(h:ev U e σ=some p)(hf:fresh e p=true):den U (.ret e) ⟨σ,β⟩=some (⟨σ,β⟩, .ret p):=by
 refine(?_:(fD U e ⟨σ,β⟩).bind _=_)
 unfold fD
 rw[h]
 refine(?_:(if fresh e p=true then _ else _:Option (Sg×PV)).bind _=_)
 rw[if_pos hf];rfl
theorem zSg{e:PE}{l:List Nat}(h:ev U e σ=some (.str l)):kh U (.items e) σ=some (l.map fun c=> [.str [c]]):=by
 refine(?_:(ev U e σ).bind pV=_)
 rw[h];rfl
theorem yBv{a b:PE}{c:Nat}{l:List Nat}(ha:ev U a σ=some (.str [c]))(hb:ev U b σ=some (.str l)):aZ U (.cmp .In a b) σ=some (l.contains c):=by
 refine(?_:(ev U a σ).bind _=_)
 refine zK ha ?_
 exact zK hb rfl
theorem zUe{w h:List Nat}(hw:w.length<=1000):ev U (.me 0 (.lit (.str [])) (.cons (.comp (.ite (.cmp .In (.var 2) (.var 1)) (.bin .Add (.lit (.str [92])) (.var 2)) (.var 2)) (.items (.var 0)) .nil) .nil)) [some (.str w),some (.str h)]=some (.str (lT w h)):=by
 have e:=kX (U:=U) (σ:=[some (.str w),some (.str h)]) (elt:= .ite (.cmp .In (.var 2) (.var 1)) (.bin .Add (.lit (.str [92])) (.var 2)) (.var 2)) (src:= .items (.var 0)) (l:=w) (it:=fun c=> [.str [c]]) (g:=fun c=> .str (if h.contains c then [92,c]else [c])) (zSg rfl) (Ad hw (by decide)) fun c _=>⟨by
  rw[ET (yBv (c:=c) (l:=h) rfl rfl)]
  cases h.contains c<;>rfl,yL⟩
 have:=s7 (l:=w.map fun c=>if h.contains c then [92,c]else [c]) (e.trans (by rw[A9];rfl)) ?_
 ·rw[<-J2]at this;exact this
 ·rw[A9]
  refine Ad (qP (fun c=>(if h.contains c then [92,c]else [c]).length) 2 w fun c _=>?_) (Ad (Ee 2 hw) (by decide))
  split
  ·exact Bv 2
  ·exact Ft 1
theorem zRr{w h:List Nat}(hw:w.length<=1000):lO (zU U EH) (aF 21) 2 [.str w, .str h]=some (.str (lT w h)):=by
 have key:zU U EH ⟨[some (.str w),some (.str h)],none⟩=some (⟨[some (.str w),some (.str h)],none⟩, .ret (.str (lT w h))):=by
  refine(?_:zZ (den U _) aA _=_)
  exact yU (UC (zUe hw) yL)
 unfold lO
 rw[if_pos (show [PV.str w,PV.str h].length=2 from rfl),show eI (aF 21) [.str w, .str h] none=⟨[some (.str w),some (.str h)],none⟩from rfl,key]
theorem zV6{tot:Nat}{bt:List Nat}{a b:Nat}(bu:σ.length=27)(h3:At σ 3 (pn tot))(uS:At σ 11 (.str bt))(hb:bt.length<=10):
  ev U uM (σ++([[PV.str [a],PV.str [b]]].flatten).map some)=some (.str (A0 (1+tot/6%3) 46++[a]++bt++[b])):=by
 have hd:tot/6%3<3:=Bn _ (by decide)
 have v1:ev U (.var 27) (σ++[some (.str [a]),some (.str [b])])=some (.str [a]):=zA (wY bu)
 have v2:ev U (.var 28) (σ++[some (.str [a]),some (.str [b])])=some (.str [b]):=zA (by
  refine(?_:At (σ++([some (.str [a])]++[some (.str [b])])) 28 _)
  rw[<-Bf]
  exact wY (by rw[Ah,bu];rfl))
 refine pL (pL (pL (TZ (wL (m:=1) rfl (jB (n:=3) (pK (n:=6) (zA h3.app) rfl (by decide)) rfl (by decide))) (Ad (Dg (Cj hd) 1) (by decide))) v1 ?_) (zA uS.app) ?_) v2 ?_
 all_goals simp only[Ah,E3,Cg,F4];exact Ad (m:=20) (by omega) (by decide)
theorem zZ7{tot:Nat}{bt:List Nat}(bu:σ.length=27)(h3:At σ 3 (pn tot))(uS:At σ 11 (.str bt))(hb:bt.length<=10):
  NP U ⟨σ,β⟩=some (⟨σ.set 12 (some (.list ((jY (tot/6%3) bt).map .str))),β⟩, .next):=by
 have e:∀a b,lN U uM σ [.str [a], .str [b]]=some (some (.str (A0 (1+tot/6%3) 46++[a]++bt++[b]))):=fun a b=>by
  refine(?_:(ev U uM (σ++_)).bind _=_)
  exact zK (zV6 bu h3 uS hb) rfl
 have r:zQ (lN U uM σ) (pD [97,65] [98,66])=some ((jY (tot/6%3) bt).map .str):=by
  refine(?_:zQ _ [[.str [97], .str [98]],[.str [97], .str [66]],[.str [65], .str [98]],[.str [65], .str [66]]]=_)
  simp only[zQ,e]
  rfl
 refine(?_:((zQ (lN U uM σ) (pD [97,65] [98,66])).bind _).bind _=_)
 rw[r]
 rfl
end
noncomputable def i0(w k:Nat):Nat:=(w/2-k/2+(k/2-w/2))+(w%2-k%2+(k%2-w%2))
noncomputable def UD:List (List Nat):=(Au 4).map fun w=>(Au 4).map fun k=>2+i0 w k
noncomputable def ik:PV:= .list (UD.map fun r=> .list (r.map pn))
theorem zN0:∀d<3,∀t<6,∀i<4,((jY d (jX.getD t [])).getD i []).length<=6:=by decide+kernel
theorem zLv:∀d<3,∀t<6,∀i<4,(((jY d (jX.getD t [])).getD i []).all fun c=>c !=10&&c !=13)=true:=by decide+kernel
theorem yB8:∀d<3,∀t<6,∀w<4,∀k<4,te ((jY d (jX.getD t [])).getD w []) (46::(jY d (jX.getD t [])).getD k []) (2+i0 w k-(w+t)%2)=2+i0 w k:=by decide+kernel
theorem zWq:∀d<3,∀t<6,∀w<4,((jY d (jX.getD t [])).getD w []).all (fun c=>decide (c<128))=true:=by decide+kernel
theorem pM(tot:Nat):tot%6<6:=Bn _ (by decide)
theorem qR(tot:Nat):tot/6%3<3:=Bn _ (by decide)
theorem uX(tot i:Nat)(hi:i<4):((ff tot).getD i []).length<=6:=zN0 _ (qR tot) _ (pM tot) i hi
theorem UE{ms:List Nat}{k:Nat}(h:k∈yM ms):k<ms.length:=B7.mp (Kh.mp h).1
theorem Oc(ms:List Nat):(yM ms).length<=ms.length:=Ad (Kq ..) (Cr F9)
theorem zRe{w h:List Nat}:(lT w h).length<=2*w.length:=by
 unfold lT
 rw[Li,Nat.mul_comm]
 refine qP _ 2 w fun c _=>?_
 split
 ·exact Bv 2
 ·exact Ft 1
theorem AD(tot:Nat)(xs:List Nat)(k:Nat):(fS tot xs k).length<=12:=Ad zRe (D2 2 (uX tot _ (Bn _ (by decide))))
theorem UG{α:Type}(f g:α->PV):∀l:List α,nX (l.map f) (l.map g)=l.map fun x=> [f x,g x]
 |[]=>rfl
 |x::l=>congrArg ([f x,g x]:: ·) (UG f g l)
section
variable{U:Uc}{σ:List (Option PV)}{β:Option (Value×aj)}{xs:List Nat}
theorem zZw{k:Nat}{a b:PE}{x y r:PV}(ha:ev U a σ=some x)(hb:ev U b σ=some y)(h:U k [x,y]=some r):ev U (.uc k (.cons a (.cons b .nil))) σ=some r:=by
 refine(?_:((ev U a σ).bind fun x=>((ev U b σ).bind fun y=>(some []).map (y:: ·)).map (x:: ·)).bind _=_)
 rw[ha,hb];exact h
theorem zWy{a b:PE}{x y:List Nat}(ha:ev U a σ=some (.str x))(hb:ev U b σ=some (.str y)):aZ U (.cmp .NotEq a b) σ=some (!(x==y)):=by
 refine(?_:(ev U a σ).bind _=_)
 refine zK ha ?_
 exact zK hb rfl
theorem zZ1{tot k:Nat}(bu:σ.length=27)(h2:At σ 2 (.list (xs.map pn)))(hx:xs.length=5)(zo:At σ 12 (.list ((ff tot).map .str)))(Od:∀w h:List Nat,w.length<=1000->U 5 [.str w, .str h]=some (.str (lT w h)))(hk:k<5):
  ev U (.uc 5 (.cons (.idx (.var 12) (.bin .Mod (.idx (.var 2) (.var 27)) (.lit (.int 4)))) (.cons (.idx (.list (.cons (.lit (.str [32,9,92])) (.cons (.lit (.str [32,9,92,97,66,34,45])) .nil))) (.bin .Mod (.bin .FloorDiv (.idx (.var 2) (.var 27)) (.lit (.int 4))) (.lit (.int 2)))) .nil))) (σ++[some (pn k)])=some (.str (fS tot xs k)):=by
 have v:ev U (.var 27) (σ++[some (pn k)])=some (pn k):=zA (wY bu)
 have x:ev U (.idx (.var 2) (.var 27)) (σ++[some (pn k)])=some (pn (xs.getD k 0)):=wB (zA h2.app) v (ng pn 0 (hx▸hk)) (by rw[An,hx];decide)
 exact zZw (tD (zA zo.app) (jB (n:=4) x rfl (by decide)) (Bn _ (by decide)) (show 4<=ag by decide)) (tD (ls:=qQ) rfl (jB (n:=2) (pK (n:=4) x rfl (by decide)) rfl (by decide)) (Bn _ (by decide)) (by decide)) (Od _ _ (Ad (uX tot _ (Bn _ (by decide))) (by decide)))
noncomputable def qS(xs:List Nat)(k:Nat):List Nat:=AB.getD (xs.getD k 0/8%3) []
theorem zWs{k:Nat}{r:List Nat}(bu:σ.length=27)(h2:At σ 2 (.list (xs.map pn)))(hx:xs.length=5)(hr:r.length<=100)(hk:k<5):
  ev U (.bin .Add (.var 27) (.idx (.list (.cons (.lit (.str [10])) (.cons (.lit (.str [13])) (.cons (.lit (.str [13,10])) .nil)))) (.bin .Mod (.bin .FloorDiv (.idx (.var 2) (.var 28)) (.lit (.int 8))) (.lit (.int 3))))) (σ++[some (.str r),some (pn k)])=some (.str (r++qS xs k)):=by
 have v1:ev U (.var 27) (σ++[some (.str r),some (pn k)])=some (.str r):=zA (wY bu)
 have v2:ev U (.var 28) (σ++[some (.str r),some (pn k)])=some (pn k):=zA (by
  refine(?_:At (σ++([some (.str r)]++[some (pn k)])) 28 _)
  rw[<-Bf]
  exact wY (by rw[Ah,bu];rfl))
 have x:ev U (.idx (.var 2) (.var 28)) (σ++[some (.str r),some (pn k)])=some (pn (xs.getD k 0)):=wB (zA h2.app) v2 (ng pn 0 (hx▸hk)) (by rw[An,hx];decide)
 refine pL v1 (tD (ls:=AB) rfl (jB (n:=3) (pK (n:=8) x rfl (by decide)) rfl (by decide)) (Bn _ (by decide)) (by decide)) ?_
 have:∀i<3,(AB.getD i []).length<=2:=by decide
 exact Ad (Hn hr (this _ (Bn _ (by decide)))) (by decide)
end
noncomputable def bK(xs:List Nat):List (Nat×PV):=[(2, .list (xs.map pn)),(4, .str (cU (bD xs 5))),(5, .list ((yM (bD xs 5)).map pn)),(9,pn (gp xs.sum)),(10, .list ((tw (cU (bD xs 5)) (gZ xs.sum) (xs.sum/9) (gp xs.sum)).map .str)),(13, .list ((g6 xs.sum).map .str)),(15, .str (iR xs.sum xs (yM (bD xs 5)))),(16,ik)]
theorem zOw{w h:List Nat}(hw:m9 w):m9 (lT w h):=fun c hc=>by
 obtain⟨x,hx,hc⟩:=Fq.mp hc
 split at hc
 ·rcases Ay.mp hc with rfl|hc
  ·exact⟨by decide,by decide⟩
  ·exact Ae.mp hc▸hw x hx
 ·exact Ae.mp hc▸hw x hx
theorem zWa(tot i:Nat)(hi:i<4):m9 ((ff tot).getD i []):=fun c hc=>by
 have:=Ao.mp (zLv _ (qR tot) _ (pM tot) i hi) c hc
 obtain⟨h1,h2⟩:=Ba.mp this
 exact⟨bne_iff_ne.mp h2,bne_iff_ne.mp h1⟩
theorem zX8:∀d<3,∀t<6,∀i<4,((jY d (jX.getD t [])).getD i []).head?=some 46:=by decide+kernel
theorem zXt(tot i:Nat)(hi:i<4):((ff tot).getD i []).head?=some 46:=zX8 _ (qR tot) _ (pM tot) i hi
theorem yCj:∀i<2,(qQ.getD i []).contains 46=false:=by decide
theorem UH(tot:Nat)(xs:List Nat)(k:Nat):(fS tot xs k).head?=some 46:=by
 have h:=zXt tot (xs.getD k 0%4) (Bn _ (by decide))
 unfold fS
 generalize(ff tot).getD (xs.getD k 0%4) []=w at h
 cases w with
 |nil=>exact nn h
 |cons c r=>
  obtain rfl:=Aa h
  unfold lT
  rw[D1,yCj _ (Bn _ (by decide))];rfl
theorem UI(tot:Nat)(xs:List Nat)(k:Nat):fS tot xs k≠ []/\m9 (fS tot xs k):=⟨fun q=>by have:=UH tot xs k;rw[q]at this;exact nn this,zOw (zWa tot _ (Bn _ (by decide)))⟩
theorem zW3(xs:List Nat)(k:Nat):qS xs k∈uN:=by
 have:∀i<3,AB.getD i []∈uN:=by decide
 exact this _ (Bn _ (by decide))
theorem zWm(tot:Nat)(xs L:List Nat):kR (L.map fun k=>fS tot xs k++qS xs k).flatten=iR tot xs L:=by
 have:=zMm (L.map fun k=>(fS tot xs k,qS xs k)) fun q hq=>by
  obtain⟨k,_,rfl⟩:=F1.mp hq
  exact⟨(UI tot xs k).1,(UI tot xs k).2,zW3 xs k⟩
 rw[List.flatMap_map,List.flatMap_map,J2]at this
 rw[this]
 unfold iR
 refine congrArg List.flatten (Cv fun k _=>?_)
 refine(?_:(if(fS tot xs k).head?=some 46 then [46]else [])++fS tot xs k++[13,10]=_)
 rw[if_pos (UH tot xs k)];rfl
section
variable{U:Uc}{σ:List (Option PV)}{β:Option (Value×aj)}{xs:List Nat}
theorem zXg{tot w k:Nat}(bu:σ.length=27)(h3:At σ 3 (pn tot))(zo:At σ 12 (.list ((ff tot).map .str)))(mJ:At σ 13 (.list ((g6 tot).map .str)))(Oe:∀(a b:List Nat) (c:Nat),small a->a.length<=40->small b->b.length<=40->U 1 [.str a, .str b,pn c]=some (pn (te a b c)))(hw:w<4)(hk:k<4):
  ev U (.uc 1 (.cons (.idx (.var 12) (.var 27)) (.cons (.idx (.var 13) (.var 28)) (.cons (.bin .Sub (.bin .Add (.bin .Add (.lit (.int 2)) (.bi 4 (.cons (.bin .Sub (.bin .FloorDiv (.var 27) (.lit (.int 2))) (.bin .FloorDiv (.var 28) (.lit (.int 2)))) .nil))) (.bi 4 (.cons (.bin .Sub (.bin .Mod (.var 27) (.lit (.int 2))) (.bin .Mod (.var 28) (.lit (.int 2)))) .nil))) (.bin .Mod (.bin .Add (.var 27) (.var 3)) (.lit (.int 2)))) .nil)))) (σ++[some (pn w)]++[some (pn k)])=some (pn (2+i0 w k)):=by
 have v1:ev U (.var 27) (σ++[some (pn w)]++[some (pn k)])=some (pn w):=zA (At.app (wY bu))
 have v2:ev U (.var 28) (σ++[some (pn w)]++[some (pn k)])=some (pn k):=zA (wY (by rw[Ah,bu];rfl))
 have l2:ev U (.lit (.int 2)) (σ++[some (pn w)]++[some (pn k)])=some (pn 2):=rfl
 have a {e1 e2:PE} {x y:Nat} (h1:ev U e1 (σ++[some (pn w)]++[some (pn k)])=some (pn x)) (h2:ev U e2 (σ++[some (pn w)]++[some (pn k)])=some (pn y)):ev U (.bi 4 (.cons (.bin .Sub e1 e2) .nil)) (σ++[some (pn w)]++[some (pn k)])=some (pn (x-y+(y-x))):=zZ2 (yBm h1 h2)
 have Of:=z8 (U:=U) (wL (wL (m:=2) l2 (a (pK (n:=2) v1 l2 (by decide)) (pK (n:=2) v2 l2 (by decide)))) (a (jB (n:=2) v1 l2 (by decide)) (jB (n:=2) v2 l2 (by decide)))) (jB (n:=2) (wL v1 (zA h3.app.app)) (AA (p:=pn 2)) (by decide)) (Ad (Jj (Bn _ (by decide))) (Ad (by decide:1<=2) (Ad (C8 _ _) (C8 _ _))))
 have hl:=yB8 _ (qR tot) _ (pM tot) w hw k hk
 have par:(w+tot%6)%2=(w+tot)%2:=by rw[Nat.add_mod,Nat.mod_mod_of_dvd tot (by decide:2∣6),<-Nat.add_mod]
 rw[par]at hl
 have sm:∀i,i<4->small ((ff tot).getD i []):=fun i hi c hc=>of_decide_eq_true (Ao.mp (zWq _ (qR tot) _ (pM tot) i hi) c hc)
 have s13:(g6 tot).getD k []=46::(ff tot).getD k []:=by
  unfold g6
  rw[A4,Bj,tb (l:=ff tot) [] (show k<4 from hk)];rfl
 refine zZp (tD (zA zo.app.app) v1 (show w<4 from hw) (show 4<=ag by decide)) (tD (zA mJ.app.app) v2 (show k<4 from hk) (show 4<=ag by decide)) Of ?_
 rw[s13,show 2+(w/2-k/2+(k/2-w/2))+(w%2-k%2+(k%2-w%2))-(w+tot)%2=2+i0 w k-(w+tot)%2 by rw[i0,C5]]
 rw[Oe _ _ _ (sm w hw) (Ad (uX tot w hw) (by decide)) (fun c hc=>(Ay.mp hc).elim (fun q=>q▸by decide) (sm k hk c)) (Ad (Du (uX tot k hk)) (by decide))]
 exact congrArg (fun n=>some (pn n)) hl
theorem yAf(Oe:∀(a b:List Nat) (c:Nat),small a->a.length<=40->small b->b.length<=40->U 1 [.str a, .str b,pn c]=some (pn (te a b c)))(UJ:∀l:List Nat,l.length<=100000->U 4 [.str l]=some (.str (kR l)))(Od:∀w h:List Nat,w.length<=1000->U 5 [.str w, .str h]=some (.str (lT w h)))
  (hx:xs.length=5) (h:Kn 27 σ ((12, .list ((ff xs.sum).map .str))::aK xs)):∃aJ,zU U mB ⟨σ,β⟩=some (⟨aJ,β⟩, .next)/\Kn 27 aJ (bK xs):=by
 have fv:(bD xs 5).length=5:=tm xs 5
 have FG:∀k∈yM (bD xs 5),k<5:=fun k hk=>fv▸UE hk
 have qj:(yM (bD xs 5)).length<=5:=Ad (Oc _) (Cr fv)
 obtain⟨bT,e1,h1⟩:=h.step (U:=U) (β:=β) (st:=Tw) (i:=13) (p:= .list ((g6 xs.sum).map .str)) (by decide) (by
  refine zD (e:= .comp _ _ _) ?_ (show fresh (.comp _ _ _) (.list ((g6 xs.sum).map .str))=true from wR fun x _=>yL)
  refine(kX (U:=U) (src:= .items (.var 12)) (l:=ff xs.sum) (it:=fun w=> [.str w]) (g:=fun w=> .str (kR w)) (by rw[ES (zA (h.get 12 _ rfl)),A9];rfl) (show 4<=ag by decide) fun w hw=>⟨z9 (zA (wY h.len)) (UJ w ?_),yL⟩).trans ?_
  ·obtain⟨i,hi,rfl⟩:=List.mem_iff_getElem.mp hw
   have:=uX xs.sum i hi
   rw[A4,Aw hi]at this
   exact Ad this (by decide)
  ·have q:(ff xs.sum).map kR=g6 xs.sum:=yBi _ (qR xs.sum) _ (pM xs.sum)
   rw[<-q,A9];rfl)
 obtain⟨bR,e2,h2⟩:=h1.step (U:=U) (β:=β) (st:=Tx) (i:=14) (p:= .list ((nk xs.sum xs (yM (bD xs 5))).map .str)) (by decide) (by
  refine zD (e:= .comp _ _ _) ?_ (show fresh (.comp _ _ _) (.list ((nk xs.sum xs (yM (bD xs 5))).map .str))=true from wR fun x _=>yL)
  refine(kX (U:=U) (src:= .items (.var 5)) (l:=yM (bD xs 5)) (it:=fun k=> [pn k]) (g:=fun k=> .str (fS xs.sum xs k)) (by rw[ES (zA (h1.get 5 _ rfl)),A9];rfl) (Ad qj (by decide)) fun k hk=>⟨zZ1 h1.len (h1.get 2 _ rfl) hx (h1.get 12 _ rfl) Od (FG k hk),yL⟩).trans ?_
  unfold nk
  rw[A9];rfl)
 obtain⟨cJ,e3,h3⟩:=h2.step (U:=U) (β:=β) (st:=Tz) (i:=15) (p:= .str (iR xs.sum xs (yM (bD xs 5)))) (by decide) (by
  have c:=kX (U:=U) (σ:=bR) (elt:= .bin .Add (.var 27) (.idx (.list (.cons (.lit (.str [10])) (.cons (.lit (.str [13])) (.cons (.lit (.str [13,10])) .nil)))) (.bin .Mod (.bin .FloorDiv (.idx (.var 2) (.var 28)) (.lit (.int 8))) (.lit (.int 3))))) (src:= .zip (.var 14) (.var 5)) (l:=yM (bD xs 5)) (it:=fun k=> [.str (fS xs.sum xs k),pn k]) (g:=fun k=> .str (fS xs.sum xs k++qS xs k)) (by
   refine(?_:(ev U (.var 14) bR).bind _=_)
   rw[zA (h2.get 14 _ rfl)]
   refine(?_:(ev U (.var 5) bR).bind _=_)
   rw[zA (h2.get 5 _ rfl)]
   refine(?_:some (nX ((nk xs.sum xs (yM (bD xs 5))).map PV.str) ((yM (bD xs 5)).map pn))=_)
   unfold nk
   rw[A9,UG];rfl) (Ad qj (by decide)) fun k hk=>⟨zWs h2.len (h2.get 2 _ rfl) hx (Ad (AD ..) (by decide)) (FG k hk),yL⟩
  have hlen:((yM (bD xs 5)).map fun k=>(fS xs.sum xs k++qS xs k).length).sum<=70:=Ad (qP (fun k=>(fS xs.sum xs k++qS xs k).length) 14 _ fun k _=>by
   have h2:∀i<3,(AB.getD i []).length<=2:=by decide
   rw[Ah]
   exact Hn (AD ..) (h2 _ (Bn _ (by decide)))) (Ee 14 qj)
  have j:=s7 (U:=U) (l:=(yM (bD xs 5)).map fun k=>fS xs.sum xs k++qS xs k) (c.trans (by rw[A9];rfl)) (by rw[A9];exact Ad hlen (by decide))
  refine zD (z9 j ((UJ _ ?_).trans ?_)) yL
  ·rw[Gs,A9];exact Ad hlen (by decide)
  ·rw[zWm])
 have e4:den U NG ⟨cJ,β⟩=some (⟨cJ,β⟩, .next):=by
  have c:=kX (U:=U) (σ:=cJ) (elt:= .bin .Add (.bin .Add (.lit (.str [46])) (.var 27)) (.lit (.str [13,10]))) (src:= .items (.var 14)) (l:=nk xs.sum xs (yM (bD xs 5))) (it:=fun r=> [.str r]) (g:=fun r=> .str (46::r++[13,10])) (by rw[ES (zA (h3.get 14 _ rfl)),A9];rfl) (by unfold nk;rw[An];exact Ad qj (by decide)) fun r hr=>⟨by
   obtain⟨k,_,rfl⟩:=F1.mp hr
   have hb:=AD xs.sum xs k
   refine pL (m:=46::fS xs.sum xs k) (pL (m:=[46]) rfl (zA (wY h3.len)) (Ad (Dg hb _) (by decide))) rfl (Ad (By (Du hb) 2) (by decide)),yL⟩
  have j:=s7 (U:=U) (l:=(nk xs.sum xs (yM (bD xs 5))).map fun r=>46::r++[13,10]) (c.trans (by rw[A9];rfl)) (by
   unfold nk
   rw[A9,A9]
   refine Ad (qP _ 15 _ fun k _=>?_) (Ad (Ee 15 qj) (by decide))
   refine(?_:(46::fS xs.sum xs k++[13,10]).length<=15)
   rw[Ah]
   exact By (Du (AD ..)) 2)
  have q:((nk xs.sum xs (yM (bD xs 5))).map fun r=>46::r++[13,10]).flatten=iR xs.sum xs (yM (bD xs 5)):=by
   unfold nk iR
   rw[A9,J2];rfl
  rw[q]at j
  rw[show NG= .ifs (.cmp .NotEq (.var 15) _) _ _ from rfl,zz (zWy (zA (h3.get 15 _ rfl)) j),beq_self_eq_true]
  rfl
 obtain⟨lg,e5,h5⟩:=h3.step (U:=U) (β:=β) (st:=TF) (i:=16) (p:=ik) (by decide) (by
  refine zD (e:= .comp _ _ _) ?_ (show fresh (.comp _ _ _) (.list ((Au 4).map fun w=> .list ((Au 4).map fun k=>pn (2+i0 w k))))=true from wR fun w _=>wR fun k _=>zO)
  exact kX (U:=U) (src:= .eD (.lit (.int 4))) (l:=Au 4) (it:=fun w=> [pn w]) (g:=fun w=> .list ((Au 4).map fun k=>pn (2+i0 w k))) (qN (n:=4) rfl (by decide)) (by decide) fun w hw=>⟨
   kX (U:=U) (src:= .eD (.lit (.int 4))) (l:=Au 4) (it:=fun k=> [pn k]) (g:=fun k=>pn (2+i0 w k)) (qN (n:=4) rfl (by decide)) (by decide) fun k hk=>⟨zXg h3.len (h3.get 3 _ rfl) (h3.get 12 _ rfl) (h3.get 13 _ rfl) Oe (B7.mp hw) (B7.mp hk),zO⟩,wR fun k _=>zO⟩)
 refine⟨lg,(e1 _).trans<|(e2 _).trans<|(e3 _).trans<|(zG e4).trans<|(e5 _).trans rfl,h5.sub (fa rfl (fa rfl (fa rfl (fa rfl (fa rfl (fa rfl (fa rfl (fa rfl dO))))))))⟩
end
noncomputable def par(A:List Nat):Prop:=∀c∈A,c=40\/c=41
theorem par.cons{c:Nat}{A:List Nat}(h:par (c::A)):(c=40\/c=41)/\par A:=⟨h c (.head _),fun x hx=>h x (.tail _ hx)⟩
theorem par.app{A B:List Nat}(h:par A)(k:par B):par (A++B):=fun c hc=>(Bb.mp hc).elim (h c) (k c)
theorem jZ(i p q:Nat):∀s:List Nat,xI i false s p=xI i false s q
 |[]=>rfl
 |_::_=>rfl
theorem uY:∀{A:List Nat} (i p q:Nat) (s:List Nat),par A->xI i false (A++s) p=xI i false A q++xI (i+A.length) false s q
 |[],i,p,q,s,_=>jZ i p q s
 |c::A,i,p,q,s,h=>by
  obtain⟨hc,hA⟩:=h.cons
  have ih:=uY (i+1) i i s hA
  have hq:(c==92)=false:=by rcases hc with rfl|rfl<;>rfl
  refine(?_:(if c==92 then xI (i+1) true (A++s) i else(i,[c])::xI (i+1) false (A++s) i)=(if c==92 then xI (i+1) true A i else(i,[c])::xI (i+1) false A i)++_)
  rw[hq,if_neg Bt,if_neg Bt,ih,jZ (i+1+A.length) i q s,I3 i 1]
  rfl
theorem uZ:∀(s:List Nat) (e:Bool) (i j p q o:Nat),xC (xI i e s p) o=xC (xI j e s q) o
 |[],e,i,j,p,q,o=>by cases e<;>rfl
 |c::r,true,i,j,p,q,o=>by
  refine(?_:xC ((i,[92,c])::xI (i+1) false r i) o=xC ((j,[92,c])::xI (j+1) false r j) o)
  rw[wQ,wQ]
  exact uZ r false _ _ _ _ o
 |c::r,false,i,j,p,q,o=>by
  refine(?_:xC (if c==92 then xI (i+1) true r i else(i,[c])::xI (i+1) false r i) o=xC (if c==92 then xI (j+1) true r j else(j,[c])::xI (j+1) false r j) o)
  split
  ·exact uZ r true _ _ _ _ o
  ·rw[wQ,wQ]
   split
   ·exact uZ r false _ _ _ _ _
   ·split
    ·cases o with
     |zero=>rfl
     |succ o=>exact uZ r false _ _ _ _ _
    ·exact uZ r false _ _ _ _ _
theorem FK{r r':List (Nat×List Nat)}(h:∀o,xC r o=xC r' o):∀(l:List (Nat×List Nat)) (o:Nat),xC (l++r) o=xC (l++r') o
 |[],o=>h o
 |x::l,o=>by
  rw[B9,B9,wQ,wQ]
  split
  ·exact FK h l _
  ·split
   ·cases o with
    |zero=>rfl
    |succ o=>exact FK h l _
   ·exact FK h l _
theorem UK:∀(m r:List (Nat×List Nat)) (o:Nat),(m.all fun x=>x.2 !=[40]&&x.2 !=[41])=true->xC (m++r) o=xC r o
 |[],_,_,_=>rfl
 |x::m,r,o,h=>by
  obtain⟨h1,h2⟩:=Ba.mp h
  obtain⟨a,b⟩:=Ba.mp h1
  rw[B9,wQ,if_neg (by simpa using a),if_neg (by simpa using b)]
  exact UK m r o h2
theorem tE(ad:List Nat):∀{A:List Nat} (i p:Nat) (r:List (Nat×List Nat)) (s:lP),par A->iQ ad (xI i false A p++r) s=iQ ad r s
 |[],i,p,r,s,_=>rfl
 |c::A,i,p,r,s,h=>by
  obtain⟨hc,hA⟩:=h.cons
  have hq:(c==92)=false:=by rcases hc with rfl|rfl<;>rfl
  have h4:([c]==[34])=false:=by rcases hc with rfl|rfl<;>rfl
  refine(?_:iQ ad ((if c==92 then xI (i+1) true A i else(i,[c])::xI (i+1) false A i)++r) s=_)
  rw[hq]
  refine(?_:iQ ad (xI (i+1) false A i++r) (nh ad (i,[c]) s)=_)
  rw[tE ad (i+1) i r _ hA]
  unfold nh
  rw[h4];rfl
theorem UL(ad:List Nat){A:List Nat}(i p:Nat)(s:lP)(h:par A):iQ ad (xI i false A p) s=s:=by
 have:=tE ad i p [] s h
 rw[Bx]at this;exact this
theorem Og{A:List Nat}(h:par A){c:Nat}(hc:c≠40/\c≠41):A.contains c=false:=by
 rw[Bz]
 exact decide_eq_false fun q=>(h c q).elim hc.1 hc.2
theorem Oh{A:List Nat}(h:par A):zX A=xC (xI 0 false A 0) 0:=by
 unfold zX xZ
 rw[Og h (by decide)];rfl
noncomputable def iS(th:List Nat)(i:Nat):List (Nat×List Nat):=xI i false th 0
theorem zV0:∀th∈things,∀(i p:Nat) (B:List Nat),par B->xI i false (th++B) p=iS th i++xI (i+th.length) false B 0:=by
 intro th bY i p B hB
 simp only[things,Ay,Aq,or_false]at bY
 rcases bY with rfl|rfl|rfl|rfl|rfl|rfl|rfl|rfl|rfl
 ·exact jZ i p 0 B
 ·exact congrArg (iS [92,40] i++ ·) (jZ (i+2) (i+1) 0 B)
 ·exact congrArg (iS [92,41] i++ ·) (jZ (i+2) (i+1) 0 B)
 ·exact congrArg (iS [34,40,34] i++ ·) (jZ (i+3) (i+2) 0 B)
 ·exact congrArg (iS [34,41,34] i++ ·) (jZ (i+3) (i+2) 0 B)
 ·exact congrArg (iS [34,92,34,41,34] i++ ·) (jZ (i+5) (i+4) 0 B)
 ·exact congrArg (iS [92,92] i++ ·) (jZ (i+2) (i+1) 0 B)
 ·exact congrArg (iS [92,34] i++ ·) (jZ (i+2) (i+1) 0 B)
 ·exact congrArg (iS [34] i++ ·) (jZ (i+1) i 0 B)
theorem UM{th A B:List Nat}(bY:th∈things)(hA:par A)(hB:par B):xI 0 false (A++(th++B)) 0=xI 0 false A 0++(iS th (0+A.length)++xI (0+A.length+th.length) false B 0):=by
 rw[uY 0 0 0 _ hA,zV0 th bY _ _ _ hB]
theorem zRz{A B:List Nat}{m:List (Nat×List Nat)}{i:Nat}(hA:par A)(hB:par B)(hm:(m.all fun x=>x.2 !=[40]&&x.2 !=[41])=true)(o:Nat):
  xC (xI 0 false A 0++(m++xI i false B 0)) o=xC (xI 0 false (A++B) 0) o:=by
 rw[uY 0 0 0 B hA]
 exact FK (fun o=>(UK m _ o hm).trans (uZ B false _ _ _ _ o)) _ _
theorem Oi{th A B:List Nat}(bY:th∈things)(hA:par A)(hB:par B)(hm:∀i,((iS th i).all fun x=>x.2 !=[40]&&x.2 !=[41])=true)(hs:xZ (A++(th++B))=A++(th++B)):zX (A++(th++B))=zX (A++B):=by
 rw[Oh (hA.app hB)]
 unfold zX
 rw[hs,UM bY hA hB]
 exact zRz hA hB (hm _) 0
theorem zUc{s:List Nat}(h:s.contains 34=false):xZ s=s:=by unfold xZ;rw[h];rfl
theorem yA0{th A B:List Nat}(hA:par A)(hB:par B)(h:th.contains 34=false):(A++(th++B)).contains 34=false:=by
 have a:=Og hA (c:=34) (by decide)
 have b:=Og hB (c:=34) (by decide)
 rw[Bz]at*
 simp only[Bb,decide_eq_false_iff_not]at*
 exact fun q=>q.elim a fun q=>q.elim h b
theorem zQ7(s:List Nat):xD s 0 s.length=s:=by unfold xD;simp
theorem UN{th A B:List Nat}(bY:th=[92,34]\/th=[34])(hA:par A)(hB:par B):xZ (A++(th++B))=A++(th++B):=by
 have Oj:th∈things:=by rcases bY with rfl|rfl<;>decide
 have hc:(A++(th++B)).contains 34=true:=by
  rw[Bz]
  exact decide_eq_true (Ar _ (Ax _ (by rcases bY with rfl|rfl<;>decide)))
 have hl:0<(A++(th++B)).length:=List.length_pos_of_mem (a:=34) (by rw[Bz]at hc;exact of_decide_eq_true hc)
 have e:∀ad,iQ ad (xI 0 false (A++(th++B)) 0) ⟨0,none,[]⟩=⟨0,(if th=[34]then some (0+A.length)else none),[]⟩:=fun ad=>by
  rw[UM Oj hA hB,tE ad 0 0 _ _ hA]
  have Ol:=fun s=>tE ad (0+A.length+th.length) 0 [] s hB
  simp only[Bx]at Ol
  rcases bY with rfl|rfl
  ·exact Ol _
  ·exact Ol _
 generalize A++(th++B)=s at hc hl e⊢
 unfold xZ
 rw[hc,e]
 refine(?_:(if 0<s.length then []++[xD s 0 s.length]else []).flatten=s)
 rw[if_pos hl,zQ7];simp
noncomputable def nP:List (List Nat):=[[34,40,34],[34,41,34],[34,92,34,41,34]]
theorem Om{th:List Nat}(bY:th∈nP)(ad:List Nat)(i st:Nat)(rs:List (List Nat))(r:List (Nat×List Nat)):iQ ad (iS th i++r) ⟨st,none,rs⟩=iQ ad r ⟨i+th.length,none,if st==i then rs else rs++[xD ad st i]⟩:=by
 simp only[nP,Ay,Aq,or_false]at bY
 rcases bY with rfl|rfl|rfl<;>rfl
theorem AE(P Q R:List Nat):xD (P++(Q++R)) P.length (P.length+Q.length)=Q:=by
 unfold xD
 have h1:min P.length (P++(Q++R)).length=P.length:=Dr (by rw[Ah];exact C8 _ _)
 have h2:min (P.length+Q.length) (P++(Q++R)).length=P.length+Q.length:=Dr (by rw[Ah,Ah];omega)
 rw[h1,h2,List.drop_left,G6,List.take_left]
theorem Oo(ad:List Nat)(st i:Nat)(rs:List (List Nat)):(if st==i then rs else rs++[xD ad st i]).flatten=rs.flatten++xD ad st i:=by
 by_cases h:st=i
 ·subst h
  rw[if_pos (beq_self_eq_true st)]
  unfold xD
  rw[Mg,K8,Bx]
 ·rw[if_neg (by simpa using h),Cw];simp
theorem UO(ad:List Nat)(st:Nat)(rs:List (List Nat)):(if st<ad.length then rs++[xD ad st ad.length]else rs).flatten=rs.flatten++xD ad st ad.length:=by
 by_cases h:st<ad.length
 ·rw[if_pos h,Cw];simp
 ·rw[if_neg h]
  unfold xD
  rw[Nat.min_eq_right (Ci h),Mh,Mg,K8,Bx]
theorem UP{th:List Nat}(bY:th∈nP):th∈things/\th.contains 34=true:=by
 simp only[nP,Ay,Aq,or_false]at bY
 rcases bY with rfl|rfl|rfl<;>exact⟨by decide,by decide⟩
theorem UQ{th A X:List Nat}(h:th.contains 34=true):(A++(th++X)).contains 34=true:=by
 rw[Bz]at*
 exact decide_eq_true (Ar _ (Ax _ (of_decide_eq_true h)))
theorem Oq{th:List Nat}(bY:th∈nP)(i p:Nat)(X:List Nat):xI i false (th++X) p=iS th i++xI (i+th.length) false X 0:=by
 simp only[nP,Ay,Aq,or_false]at bY
 rcases bY with rfl|rfl|rfl
 ·exact congrArg (iS [34,40,34] i++ ·) (jZ (i+3) (i+2) 0 X)
 ·exact congrArg (iS [34,41,34] i++ ·) (jZ (i+3) (i+2) 0 X)
 ·exact congrArg (iS [34,92,34,41,34] i++ ·) (jZ (i+5) (i+4) 0 X)
theorem Ot{th A B:List Nat}(bY:th∈nP)(hA:par A)(hB:par B):zX (A++(th++B))=zX (A++B):=by
 have hs:xZ (A++(th++B))=A++B:=by
  unfold xZ
  rw[UQ (UP bY).2,uY 0 0 0 _ hA,Oq bY,tE _ 0 0 _ _ hA,Om bY]
  rw[UL _ _ _ _ hB]
  refine(UO ..).trans ?_
  rw[Oo,List.flatten_nil,F5,Cp]
  have e1:=AE [] A (th++B)
  have e2:=AE (A++th) B []
  simp only[F5,F4,Cp,Bx,Bf,Ah]at e1 e2
  rw[e1]
  refine congrArg (A++ ·) ?_
  rw[Ah,Ah,<-C5];exact e2
 rw[Oh (hA.app hB)]
 unfold zX
 rw[hs]
theorem yBa{th A B D:List Nat}(bY:th∈nP)(hA:par A)(hB:par B)(hD:par D):zX (A++(th++(B++(th++D))))=zX (A++(B++D)):=by
 have hs:xZ (A++(th++(B++(th++D))))=A++(B++D):=by
  unfold xZ
  rw[UQ (UP bY).2,uY 0 0 0 _ hA,Oq bY,tE _ 0 0 _ _ hA,Om bY,uY _ 0 0 _ hB,Oq bY,tE _ _ 0 _ _ hB,Om bY]
  rw[UL _ _ _ _ hD]
  refine(UO ..).trans ?_
  rw[Oo,Oo,List.flatten_nil,F5,Cp]
  have e1:=AE [] A (th++(B++(th++D)))
  have e2:=AE (A++th) B (th++D)
  have e3:=AE (A++(th++(B++th))) D []
  simp only[F5,F4,Cp,Bx,Bf,Ah]at e1 e2 e3
  simp only[Ah]
  simp only[C5]at e2 e3⊢
  rw[e1,e2,e3,Bf]
 rw[Oh (hA.app (hB.app hD))]
 unfold zX
 rw[hs]
theorem yDt{th A B:List Nat}(bY:th∈things)(hA:par A)(hB:par B):zX (A++(th++B))=zX (A++B):=by
 have keep:∀{t:List Nat},t∈things->t.contains 34=false->(∀i,((iS t i).all fun x=>x.2 !=[40]&&x.2 !=[41])=true)->zX (A++(t++B))=zX (A++B):=fun h1 h2 h3=>Oi h1 hA hB h3 (zUc (yA0 hA hB h2))
 simp only[things,Ay,Aq,or_false]at bY
 rcases bY with rfl|rfl|rfl|rfl|rfl|rfl|rfl|rfl|rfl
 ·rfl
 ·exact keep (by decide) (by decide) fun _=>rfl
 ·exact keep (by decide) (by decide) fun _=>rfl
 ·exact Ot (by decide) hA hB
 ·exact Ot (by decide) hA hB
 ·exact Ot (by decide) hA hB
 ·exact keep (by decide) (by decide) fun _=>rfl
 ·exact Oi (by decide) hA hB (fun _=>rfl) (UN (.inl rfl) hA hB)
 ·exact Oi (by decide) hA hB (fun _=>rfl) (UN (.inr rfl) hA hB)
noncomputable abbrev DL:=List (Nat×Bool)
noncomputable def dT(th:List Nat)(d:DL):List (List Nat):=d.map fun z=> [z.1]++if z.2 then th else []
noncomputable def cv(d:DL):List Nat:=d.map (·.1)
noncomputable def g7(d:DL):Nat:=d.countP (·.2)
theorem AF{th:List Nat}:∀{d:DL},g7 d=0->(dT th d).flatten=cv d
 |[],_=>rfl
 |(c,b)::d,h=>by
  unfold g7 at h
  cases b with
  |true=>rw[J3 (by rfl)]at h;exact absurd h (Jz _)
  |false=>
   rw[G9 Bt]at h
   refine(?_:[c]++[]++(dT th d).flatten=c::cv d)
   rw[AF h];rfl
theorem Ou{k:Nat}:∀{d:DL},g7 d=k+1->∃d1 c d2,d=d1++(c,true)::d2/\g7 d1=0/\g7 d2=k
 |[],h=>nomatch h
 |(c,b)::d,h=>by
  unfold g7 at h
  cases b with
  |true=>rw[J3 (by rfl)]at h;exact⟨[],c,d,rfl,rfl,Iu h⟩
  |false=>
   rw[G9 Bt]at h
   obtain⟨d1,c',d2,rfl,h1,h2⟩:=Ou (d:=d) h
   exact⟨(c,false)::d1,c',d2,rfl,(G9 Bt).trans h1,h2⟩
theorem Ov(th:List Nat)(a b:DL):dT th (a++b)=dT th a++dT th b:=D5
theorem AG(a b:DL):cv (a++b)=cv a++cv b:=D5
theorem UR(th:List Nat)(d1 d2:DL)(c:Nat)(h:g7 d1=0):(dT th (d1++(c,true)::d2)).flatten=(cv d1++[c])++(th++(dT th d2).flatten):=by
 rw[Ov,Cw,AF h]
 refine(?_:cv d1++([c]++th++(dT th d2).flatten)=_)
 simp
noncomputable def nq(th:List Nat):Nat:=if th∈nP then 2 else 1
theorem Ow{th:List Nat}(bY:th∈things){d:DL}(hp:par (cv d))(hc:g7 d<=nq th):zX (dT th d).flatten=zX (cv d):=by
 cases e:g7 d with
 |zero=>rw[AF e]
 |succ k=>
  obtain⟨d1,c,d2,rfl,h1,h2⟩:=Ou e
  rw[UR th d1 d2 c h1]
  have hm:cv (d1++(c,true)::d2)=(cv d1++[c])++cv d2:=by rw[AG];simp[cv]
  rw[hm]at hp⊢
  have hA:par (cv d1++[c]):=fun x hx=>hp x (Ax _ hx)
  have hB:par (cv d2):=fun x hx=>hp x (Ar _ hx)
  cases k with
  |zero=>rw[AF h2];exact yDt bY hA hB
  |succ k=>
   rw[e]at hc
   unfold nq at hc
   by_cases hq:th∈nP
   ·rw[if_pos hq]at hc
    obtain rfl:k=0:=by omega
    obtain⟨d3,c',d4,rfl,h3,h4⟩:=Ou h2
    rw[UR th d3 d4 c' h3,AF h4]
    have qb:cv (d3++(c',true)::d4)=(cv d3++[c'])++cv d4:=by rw[AG];simp[cv]
    rw[qb]at hB⊢
    exact yBa hq hA (fun x hx=>hB x (Ax _ hx)) (fun x hx=>hB x (Ar _ hx))
   ·rw[if_neg hq]at hc;omega
inductive Fo where
 |e
 |n (i r:Fo)
noncomputable def Fo.mk:Fo->List Nat
 | .e=> []
 | .n i r=>40::(i.mk++41::r.mk)
noncomputable def Fo.sz:Fo->Nat
 | .e=>0
 | .n i r=>i.sz+r.sz+1
theorem Fo.eN:∀f:Fo,f.mk.length=2*f.sz
 | .e=>rfl
 | .n i r=>by
  refine(?_:(40::(i.mk++41::r.mk)).length=2*(i.sz+r.sz+1))
  rw[Cg,Ah,Cg,i.eN,r.eN];omega
theorem Fo.par:∀f:Fo,par f.mk
 | .e=>fun c h=>nomatch h
 | .n i r=>fun c h=>by
  rcases Ay.mp h with rfl|h
  ·exact .inl rfl
  ·rcases Bb.mp h with h|h
   ·exact i.par c h
   ·rcases Ay.mp h with rfl|h
    ·exact .inr rfl
    ·exact r.par c h
noncomputable def Fo.gen:Nat->Nat->List Fo
 |0,s=>if s=0 then [.e]else []
 |_+1,0=> [.e]
 |k+1,s+1=>(Au (s+1)).flatMap fun a=>(gen k a).flatMap fun i=>(gen k (s-a)).map fun r=> .n i r
theorem Fo.ej:∀(k:Nat) (f:Fo),f.sz<=k->f∈Fo.gen k f.sz
 |0, .e,_=> .head _
 |0, .n i r,h=>absurd h (K9 _)
 |k+1, .e,_=> .head _
 |k+1, .n i r,h=>by
  have h:i.sz+r.sz+1<=k+1:=h
  refine(?_:Fo.n i r∈(Au (i.sz+r.sz+1)).flatMap fun a=>(gen k a).flatMap fun i'=>(gen k (i.sz+r.sz-a)).map fun r'=> .n i' r')
  refine Fq.mpr ⟨i.sz,B7.mpr (by omega),Fq.mpr ⟨i,ej k i (by omega),F1.mpr ⟨r,?_,rfl⟩⟩⟩
  rw[G6]
  exact ej k r (by omega)
noncomputable def US:Fo->Bool
 | .e=>true
 | .n i r=>(Au i.sz).all (fun m=>!zX ((Fo.n i r).mk.take (2*(m+1))))&&zX ((Fo.n i r).mk.take (2*(i.sz+1)))
theorem zV9:((Au 6).all fun s=>(Fo.gen 5 s).all US)=true:=by decide+kernel
theorem zZg(f:Fo)(h:f.sz<=5):US f=true:=Ao.mp (Ao.mp zV9 f.sz (B7.mpr (Hm h))) f (Fo.ej 5 f h)
theorem zR4:((lS 5).all fun ms=>(Fo.gen 5 5).any fun f=>f.mk==cU ms)=true:=by decide+kernel
theorem zXy:((Fo.gen 5 5).all fun f=>f.sz==5)=true:=by decide+kernel
theorem yCu{ms:List Nat}(h:ms∈lS 5):∃f:Fo,f.sz=5/\f.mk=cU ms:=by
 obtain⟨f,hf,e⟩:=List.any_eq_true.mp (Ao.mp zR4 ms h)
 exact⟨f,eq_of_beq (Ao.mp zXy f hf),eq_of_beq e⟩
noncomputable def nQ(M th:List Nat)(q turn:Nat):DL:=(Au 10).map fun k=>(M.getD k 0,nj th q turn k)
theorem yA2(M th:List Nat)(q turn:Nat):tw M th q turn=dT th (nQ M th q turn):=by unfold tw dT nQ;rw[A9];rfl
theorem zXs:∀i<9,∀q<10,∀t<10,((Au 10).countP fun k=>nj (things.getD i []) q t k)<=nq (things.getD i []):=by decide+kernel
noncomputable def nr(m:Nat):List Nat:=(Au 4).map fun k=>if k=m then 0 else 1000
noncomputable def FN(l:List Nat):Nat:=l.tail.foldl min (l.headD 0)
noncomputable def qT(b:List Nat)(w:Nat):Nat:=FN ((Au 4).map fun k=>b.getD k 0+(2+i0 w k))
noncomputable def j0(acc b:List Nat):List Nat:=(Au 4).map fun w=>acc.getD w 0+qT b w
noncomputable def pN:List Nat:=[0,0,0,0]
noncomputable def i4:Fo->List Nat->List Nat->List Nat×List Nat
 | .e,W,acc=>(acc,W)
 | .n i r,W,acc=>
  let q:=if i.sz=0 then(nr (W.headD 0),W.tail)else i4 i W pN
  i4 r q.2 (j0 acc q.1)
noncomputable def gq(f:Fo)(W:List Nat):List Nat×List Nat:=if f.sz=0 then(nr (W.headD 0),W.tail)else i4 f W pN
noncomputable def jF:Fo->Nat
 | .e=>0
 | .n i r=>(if i.sz=0 then 1 else jF i)+jF r
noncomputable def ln(f:Fo):Nat:=if f.sz=0 then 1 else jF f
inductive qU(fget:aj->Option (aj×List Nat))(ws:List (List Nat)):aj->List Nat->aj->Prop
 |nil (b:aj):qU fget ws b [] b
 |cons {b b1 b':aj} {m:Nat} {W:List Nat} (e:fget b=some (b1,46::ws.getD m [])) (hm:m<4) (r:qU fget ws b1 W b'):qU fget ws b (m::W) b'
section
variable{U:Uc}{σ:List (Option PV)}{β:Option (Value×aj)}
theorem zUg{e a c:PE}{l:List PV}{m n:Nat}(h:ev U e σ=some (.list l))(ha:ev U a σ=some (pn m))(hc:ev U c σ=some (pn n))(hl:l.length<=ag)(hm:m<=n)(hn:n<=l.length):ev U (.bI e (.yes a) (.yes c) .no) σ=some (.list ((l.drop m).take (n-m))):=by
 refine(?_:(ev U e σ).bind _=_)
 refine zK h ?_
 refine(?_:((ev U a σ).bind _).bind _=_)
 rw[ha,As]
 refine(?_:Option.bind (some (some (m:Int))) (fun lo=>((ev U c σ).bind _).bind _)=_)
 rw[As,hc,As]
 refine(?_:(if l.length<=ag then some (PV.list ((l.drop (C9 (some (m:Int)) l.length)).take (Fu (some (n:Int)) l.length-C9 (some (m:Int)) l.length)))else none)=_)
 rw[if_pos hl,EX,NY,Dr (Ad hm hn),Dr hn]
theorem UT{e c:PE}{l:List PV}{n:Nat}(h:ev U e σ=some (.list l))(hc:ev U c σ=some (pn n))(hl:l.length<=ag)(hn:n<=l.length):ev U (.bI e .no (.yes c) .no) σ=some (.list (l.take n)):=by
 refine(?_:(ev U e σ).bind _=_)
 refine zK h ?_
 refine(?_:((ev U c σ).bind _).bind _=_)
 rw[hc,As]
 refine(?_:(if l.length<=ag then some (PV.list ((l.drop (C9 none l.length)).take (Fu (some (n:Int)) l.length-C9 none l.length)))else none)=_)
 rw[if_pos hl,NY,Dr hn];rfl
theorem UU{e a:PE}{l:List PV}{m:Nat}(h:ev U e σ=some (.list l))(ha:ev U a σ=some (pn m))(hl:l.length<=ag)(hm:m<=l.length):ev U (.bI e (.yes a) .no .no) σ=some (.list (l.drop m)):=by
 refine(?_:(ev U e σ).bind _=_)
 refine zK h ?_
 refine(?_:((ev U a σ).bind _).bind _=_)
 rw[ha,As]
 refine(?_:(if l.length<=ag then some (PV.list ((l.drop (C9 (some (m:Int)) l.length)).take (l.length-C9 (some (m:Int)) l.length)))else none)=_)
 rw[if_pos hl,EX,Dr hm,Fw (by rw[Bw];exact Bv _)]
theorem UW:∀(l:List Nat) (a:Nat),(l.map fun n:Nat=>(n:Int)).foldl min (a:Int)=((l.foldl min a:Nat):Int)
 |[],_=>rfl
 |x::l,a=>by
  refine(?_:(l.map fun n:Nat=>(n:Int)).foldl min (min (a:Int) (x:Int))=((l.foldl min (min a x):Nat):Int))
  rw[<-UW l (min a x)];congr 1;omega
theorem UX{e:PE}{l:List Nat}(h:ev U e σ=some (.list (l.map pn)))(hl:l≠ []):ev U (.bi 2 (.cons e .nil)) σ=some (pn (FN l)):=by
 cases l with
 |nil=>exact absurd rfl hl
 |cons a r=>
  refine(?_:((ev U e σ).bind fun x=>(some []).map (x:: ·)).bind (tT 2)=_)
  rw[h]
  refine(?_:((PV.ints ((a::r).map pn)).bind fun is=>(GO is).map PV.int)=_)
  rw[NV]
  refine(?_:some (PV.int ((r.map fun n:Nat=>(n:Int)).foldl min (a:Int)))=_)
  rw[UW];rfl
theorem zWb:∀w<4,UD[w]?=some ((Au 4).map fun k=>2+i0 w k):=by decide
theorem zUy:∀w<4,∀k<4,((Au 4).map fun k=>2+i0 w k)[k]?=some (2+i0 w k):=by decide
theorem zS9{acc b:List Nat}(bu:σ.length=8)(h5:At σ 5 (.list (acc.map pn)))(h7:At σ 7 (.list (b.map pn)))(h2:At σ 2 ik)(ha:acc.length=4)(hb:b.length=4):
  den U Ts ⟨σ,β⟩=some (⟨σ.set 5 (some (.list ((j0 acc b).map pn))),β⟩, .next):=by
 have q:PV.list ((Au 4).map fun w=>pn (acc.getD w 0+qT b w))= .list ((j0 acc b).map pn):=by unfold j0;rw[A9];rfl
 rw[<-q]
 refine zD (e:= .comp _ _ _) ?_ (show fresh (.comp _ _ _) (.list ((Au 4).map fun w=>pn (acc.getD w 0+qT b w)))=true from wR fun w _=>zO)
 refine kX (U:=U) (src:= .eD (.lit (.int 4))) (l:=Au 4) (it:=fun w=> [pn w]) (g:=fun w=>pn (acc.getD w 0+qT b w)) (qN (n:=4) rfl (by decide)) (by decide) fun w hw=>⟨?_,zO⟩
 have hw:=B7.mp hw
 have v8:ev U (.var 8) (σ++[some (pn w)])=some (pn w):=zA (wY bu)
 refine wL (wB (zA h5.app) v8 (ng pn 0 (ha▸hw)) (by rw[An,ha];decide)) (UX (l:=(Au 4).map fun k=>b.getD k 0+(2+i0 w k)) ?_ nofun)
 refine(kX (U:=U) (src:= .eD (.lit (.int 4))) (l:=Au 4) (it:=fun k=> [pn k]) (g:=fun k=>pn (b.getD k 0+(2+i0 w k))) (qN (n:=4) rfl (by decide)) (by decide) fun k hk=>⟨?_,zO⟩).trans (by rw[A9];rfl)
 have hk:=B7.mp hk
 have v8':ev U (.var 8) (σ++[some (pn w)]++[some (pn k)])=some (pn w):=zA (At.app (wY bu))
 have v9:ev U (.var 9) (σ++[some (pn w)]++[some (pn k)])=some (pn k):=zA (wY (by rw[Ah,bu];rfl))
 refine wL (wB (zA h7.app.app) v9 (ng pn 0 (hb▸hk)) (by rw[An,hb];decide)) (wB (l:=((Au 4).map fun k=>2+i0 w k).map pn) (wB (zA h2.app.app) v8' (by rw[Bj,zWb w hw];rfl) (show 4<=ag by decide)) v9 (by rw[Bj,zUy w hw k hk];rfl) (show 4<=ag by decide))
noncomputable def lK(d:DL)(th:List Nat)(v:Value)(sp:PV)(acc:List Nat):List (Nat×PV):=[(0, .list ((dT th d).map .str)),(1, .obj v),(2,ik),(3,sp),(5, .list (acc.map pn))]
theorem Ox{th:List Nat}(ht:th.length<=5){d:DL}(hd:d.length<=14):((dT th d).map B3).sum<=84:=by
 unfold dT
 rw[A9]
 refine Ad (qP _ 6 d fun z _=>?_) (Ee 6 hd)
 refine(?_:([z.1]++if z.2 then th else []).length<=6)
 rw[Ah]
 split
 ·exact Dg ht 1
 ·exact C8 1 5
theorem yAv(gF:∀s:List Nat,s.length<=900->U 3 [.str s]=some (.bool (zX s))){th:List Nat}(bY:th∈things)(ht:th.length<=5){d:DL}{j:Nat}(h0:At σ 0 (.list ((dT th d).map .str)))(h6:At σ 6 (pn j))(hp:par (cv d))(hc:g7 d<=nq th)(hl:d.length<=14)(hj:j<=d.length):
  aZ U (.and (.cons (.cmp .LtE (.var 6) (.bi 0 (.cons (.var 0) .nil))) (.cons (.not (.eO (.uc 3 (.cons (.me 0 (.lit (.str [])) (.cons (.bI (.var 0) .no (.yes (.var 6)) .no) .nil)) .nil)))) .nil))) σ=some (!zX ((cv d).take j)):=by
 have ij:((dT th d).map PV.str).length=d.length:=by unfold dT;rw[An,An]
 have hsz:((dT th d).map PV.str).length<=ag:=ij▸Ad hl (by decide)
 have t1:aZ U (.cmp .LtE (.var 6) (.bi 0 (.cons (.var 0) .nil))) σ=some true:=by
  refine(?_:(ev U (.var 6) σ).bind _=_)
  rw[zA h6]
  refine(?_:(ev U (.bi 0 (.cons (.var 0) .nil)) σ).bind _=_)
  rw[TY (zA h0) hsz]
  refine congrArg some (decide_eq_true ?_)
  rw[ij];exact E6.mpr hj
 have sl:ev U (.bI (.var 0) .no (.yes (.var 6)) .no) σ=some (.list ((dT th (d.take j)).map .str)):=by
  rw[UT (zA h0) (zA h6) hsz (ij▸hj)]
  unfold dT;rw[<-Eb,<-Eb]
 have UY:((dT th (d.take j)).map B3).sum<=84:=Ox ht (Ad (K7 ..) hl)
 have jn:=s7 sl (Ad UY (by decide))
 have ck:ev U (.uc 3 (.cons (.me 0 (.lit (.str [])) (.cons (.bI (.var 0) .no (.yes (.var 6)) .no) .nil)) .nil)) σ=some (.bool (zX ((cv d).take j))):=by
  refine(z9 jn (gF _ (by rw[Gs];exact Ad UY (by decide)))).trans ?_
  have hm:cv (d.take j)=(cv d).take j:=Eb
  rw[Ow bY (d:=d.take j) (by rw[hm];exact fun c hc=>hp c (Gm hc)) (Ad (List.Sublist.countP_le (List.take_sublist ..)) hc),hm]
 rw[Uu t1 fun _=>N8 (b:=zX ((cv d).take j)) ?_]
 ·rfl
 ·refine(?_:(ev U _ σ).bind qZ=_)
  rw[ck];rfl
end
section
variable{U:Uc}{σ:List (Option PV)}{β:Option (Value×aj)}{th:List Nat}{v:Value}{sp:PV}
noncomputable def jW:PT:= .and (.cons (.cmp .LtE (.var 6) (.bi 0 (.cons (.var 0) .nil))) (.cons (.not (.eO (.uc 3 (.cons (.me 0 (.lit (.str [])) (.cons (.bI (.var 0) .no (.yes (.var 6)) .no) .nil)) .nil)))) .nil))
theorem yC0{i r:Fo}(h:i.sz+r.sz+1<=5):(∀m<i.sz,zX ((Fo.n i r).mk.take (2*(m+1)))=false)/\zX ((Fo.n i r).mk.take (2*(i.sz+1)))=true:=by
 have:=zZg (.n i r) h
 obtain⟨h1,h2⟩:=Ba.mp this
 exact⟨fun m hm=>by simpa using Ao.mp h1 m (B7.mpr hm),h2⟩
theorem UZ(gF:∀s:List Nat,s.length<=900->U 3 [.str s]=some (.bool (zX s)))(bY:th∈things)(ht:th.length<=5){i r:Fo}(hs:i.sz+r.sz+1<=5){d:DL}(hd:cv d=(Fo.n i r).mk)(hc:g7 d<=nq th){acc:List Nat}:
  ∀(k m fuel:Nat) (σ:List (Option PV)),m+k=i.sz->k<fuel->Kn 8 σ ((6,pn (2*(m+1)))::lK d th v sp acc)->∃aJ,nB U jW (zU U (.cons (.aug .Add 6 (.lit (.int 2))) .nil)) fuel ⟨σ,β⟩=some (⟨aJ,β⟩, .next)/\Kn 8 aJ ((6,pn (2*(i.sz+1)))::lK d th v sp acc)
 |_,_,0,_,_,hf,_=>absurd hf (F2 _)
 |k,m,fuel+1,σ,hk,hf,K=>by
  obtain⟨f1,f2⟩:=yC0 hs
  have hlen:d.length=2*(i.sz+r.sz+1):=by have:=congrArg B3 hd;rw[Fo.eN]at this;unfold cv at this;rw[An]at this;exact this
  have t:=yAv (U:=U) (j:=2*(m+1)) gF bY ht (K.get 0 _ rfl) (K.get 6 _ rfl) (hd▸Fo.par _) hc (by omega) (by omega)
  rw[hd]at t
  refine(?_:∃aJ,(aZ U jW σ).bind _=_/\_)
  rw[show aZ U jW σ=_ from t,As]
  cases k with
  |zero=>
   obtain rfl:m=i.sz:=hk
   rw[f2]
   exact⟨σ,rfl,K⟩
  |succ k=>
   rw[f1 m (by omega)]
   have e:zU U (.cons (.aug .Add 6 (.lit (.int 2))) .nil) ⟨σ,β⟩=some (⟨σ.set 6 (some (pn (2*(m+1)+2))),β⟩, .next):=by
    refine fk ?_
    refine(?_:((σ[6]?).bind id).bind _=_)
    rw[K.get 6 _ rfl];rfl
   obtain⟨aJ,e',K'⟩:=UZ gF bY ht hs hd hc k (m+1) fuel (σ.set 6 (some (pn (2*(m+1)+2)))) (by omega) (by omega) ((K.set (i:=6) (by decide) (pn (2*(m+1)+2))).sub (fa rfl (fa rfl (fa rfl (fa rfl (fa rfl (fa rfl dO)))))))
   refine⟨aJ,?_,K'⟩
   refine(?_:(zU U (.cons (.aug .Add 6 (.lit (.int 2))) .nil) ⟨σ,β⟩).bind _=_)
   rw[e]
   exact e'
theorem aO{i:Nat}{b:aj}(h:At σ i (.obj v)):ia ⟨σ,some (v,b)⟩ i=some (v,b):=by
 unfold ia
 rw[show(⟨σ,some (v,b)⟩:Sg).σ[i]?=some (some (.obj v))from h]
 exact xT (by simp) rfl
theorem U0(a b:List Nat):(j0 a b).length=4:=by unfold j0;rw[An];rfl
theorem zSb(m:Nat):(nr m).length=4:=rfl
theorem U1:∀(f:Fo) (W acc:List Nat),acc.length=4->(i4 f W acc).1.length=4
 | .e,_,_,h=>h
 | .n i r,W,acc,_=>U1 r _ _ (U0 ..)
theorem zYf(f:Fo)(W:List Nat):(gq f W).1.length=4:=by
 unfold gq
 split
 ·exact zSb _
 ·exact U1 _ _ _ rfl
theorem zV1{fL:FL}(gF:∀s:List Nat,s.length<=900->U 3 [.str s]=some (.bool (zX s)))(bY:th∈things)(ht:th.length<=5){i r:Fo}(hs:i.sz+r.sz+1<=5){d:DL}(hd:cv d=(Fo.n i r).mk)(hc:g7 d<=nq th){acc:List Nat}(ha:acc.length=4){b b':aj}{q:List Nat}(hq:q.length=4)
  (K:Kn 8 σ (lK d th v sp acc)) (hL:fL v (.list ((dT th ((d.drop 1).take (2*i.sz))).map .str)) ik sp b=some (b', .list (q.map pn))):
  ∃aJ,EN U fL ⟨σ,some (v,b)⟩=some (⟨aJ,some (v,b')⟩, .next)/\Kn 8 aJ (lK (d.drop (2*(i.sz+1))) th v sp (j0 acc q)):=by
 have hlen:d.length=2*(i.sz+r.sz+1):=by have:=congrArg B3 hd;rw[Fo.eN]at this;unfold cv at this;rw[An]at this;exact this
 have ij:((dT th d).map PV.str).length=d.length:=by unfold dT;rw[An,An]
 have hsz:((dT th d).map PV.str).length<=ag:=ij▸Ad (show d.length<=10 by omega) (by decide)
 have e0:den U Tr ⟨σ,some (v,b)⟩=some (⟨σ.set 6 (some (pn 2)),some (v,b)⟩, .next):=zD (e:= .lit (.int 2)) rfl rfl
 have K0:Kn 8 (σ.set 6 (some (pn 2))) ((6,pn 2)::lK d th v sp acc):=K.set (by decide) _
 obtain⟨bT,e1,K1⟩:=UZ (β:=some (v,b)) gF bY ht hs hd hc i.sz 0 64 _ (Cp _) (by omega) K0
 have mid:newD U sX ⟨bT,some (v,b)⟩=some (.list ((dT th ((d.drop 1).take (2*i.sz))).map .str)):=by
  refine(?_:(ev U sX bT).bind _=_)
  have e:ev U sX bT=some (.list ((dT th ((d.drop 1).take (2*i.sz))).map .str)):=by
   refine(zUg (m:=1) (n:=2*(i.sz+1)-1) (zA (K1.get 0 _ rfl)) rfl (z8 (n:=1) (zA (K1.get 6 _ rfl)) rfl (by omega)) hsz (by omega) (by rw[ij];omega)).trans ?_
   unfold dT
   rw[<-Ep,<-Eb,<-Ep,<-Eb,show 2*(i.sz+1)-1-1=2*i.sz by omega]
  rw[e,As]
  refine if_pos ?_
  refine(?_:(true&&((dT th ((d.drop 1).take (2*i.sz))).map PV.str).all PV.ba)=true)
  rw[H9,Hd]
  exact Ao.mpr fun _ _=>rfl
 have e2:yX 7 (uK fL 1 (newD U sX) (iY 2) (iY 3)) ⟨bT,some (v,b)⟩=some (⟨bT.set 7 (some (.list (q.map pn))),some (v,b')⟩, .next):=by
  refine(?_:(uK fL 1 (newD U sX) (iY 2) (iY 3) ⟨bT,some (v,b)⟩).bind _=_)
  refine zK (a:=(⟨bT,some (v,b')⟩, .list (q.map pn))) ?_ rfl
  refine(?_:(newD U sX ⟨bT,some (v,b)⟩).bind _=_)
  refine zK mid ?_
  refine zK (aO (K1.get 1 _ rfl)) ?_
  refine zK (show iY 2 ⟨bT,some (v,b)⟩=some ik by refine(?_:(bT[2]?).bind id=_);rw[K1.get 2 _ rfl];rfl) ?_
  refine zK (show iY 3 ⟨bT,some (v,b)⟩=some sp by refine(?_:(bT[3]?).bind id=_);rw[K1.get 3 _ rfl];rfl) ?_
  refine(?_:(fL v _ ik sp b).map _=_)
  rw[hL];rfl
 have K2:=K1.set (i:=7) (by decide) (.list (q.map pn))
 generalize bT.set 7 (some (.list (q.map pn)))=bR at e2 K2
 have e3:=zS9 (U:=U) (β:=some (v,b')) K2.len (K2.get 5 _ rfl) (K2.get 7 _ rfl) (K2.get 2 _ rfl) ha hq
 have K3:=K2.set (i:=5) (by decide) (.list ((j0 acc q).map pn))
 generalize bR.set 5 (some (.list ((j0 acc q).map pn)))=cJ at e3 K3
 have e4:den U Tt ⟨cJ,some (v,b')⟩=some (⟨cJ.set 0 (some (.list ((dT th (d.drop (2*(i.sz+1)))).map .str))),some (v,b')⟩, .next):=by
  refine zD (e:= .bI _ _ _ _) ?_ ?_
  ·refine(UU (m:=2*(i.sz+1)) (zA (K3.get 0 _ rfl)) (zA (K3.get 6 _ rfl)) hsz (by rw[ij];omega)).trans ?_
   unfold dT
   rw[<-Ep,<-Ep]
  ·refine(?_:(true&&((dT th (d.drop (2*(i.sz+1)))).map PV.str).all PV.ba)=true)
   rw[H9,Hd]
   exact Ao.mpr fun _ _=>rfl
 refine⟨_,(zM e0).trans<|(zM e1).trans<|(zM e2).trans<|(zM e3).trans<|(zM e4).trans rfl,(K3.set (i:=0) (by decide) _).sub (fa rfl (fa rfl (fa rfl (fa rfl (fa rfl dO)))))⟩
end
theorem U2(i r:Fo)(W acc:List Nat):i4 (.n i r) W acc=i4 r (gq i W).2 (j0 acc (gq i W).1):=rfl
theorem FO:∀(f:Fo) (W acc:List Nat),jF f<=W.length->(i4 f W acc).2.length+jF f=W.length
 | .e,_,_,_=>rfl
 | .n i r,W,acc,h=>by
  have h:(if i.sz=0 then 1 else jF i)+jF r<=W.length:=h
  have hi:(gq i W).2.length+(if i.sz=0 then 1 else jF i)=W.length:=by
   unfold gq
   by_cases hz:i.sz=0
   ·rw[if_pos hz]at h⊢;rw[if_pos hz,List.length_tail];omega
   ·rw[if_neg hz]at h⊢;rw[if_neg hz];exact FO i W pN (by omega)
  have hr:=FO r (gq i W).2 (j0 acc (gq i W).1) (by omega)
  rw[U2]
  refine(?_:_+((if i.sz=0 then 1 else jF i)+jF r)=_)
  omega
theorem U3(f:Fo)(W:List Nat)(h:ln f<=W.length):(gq f W).2.length+ln f=W.length:=by
 unfold gq ln at*
 by_cases hz:f.sz=0
 ·rw[if_pos hz]at h⊢;rw[if_pos hz,List.length_tail];omega
 ·rw[if_neg hz]at h⊢;rw[if_neg hz];exact FO f W pN h
section
variable{U:Uc}{σ:List (Option PV)}{th:List Nat}{v:Value}{sp:PV}{fget:aj->Option (aj×List Nat)}{ws:List (List Nat)}{bE:aj}
theorem yAo{d:DL}(h0:At σ 0 (.list ((dT th d).map .str))):aZ U (.cmp .Eq (.var 0) (.list .nil)) σ=some (d.isEmpty):=by
 refine(?_:(ev U (.var 0) σ).bind _=_)
 rw[zA h0]
 cases d with
 |nil=>rfl
 |cons z d=>rfl
theorem U4{d:DL}(h0:At σ 0 (.list ((dT th d).map .str))):aZ U zq σ=some (!d.isEmpty):=by
 refine(?_:(ev U (.var 0) σ).bind _=_)
 rw[zA h0]
 cases d with
 |nil=>rfl
 |cons z d=>rfl
noncomputable def U5(th:List Nat)(v:Value)(sp:PV)(fget:aj->Option (aj×List Nat))(ws:List (List Nat))(bE:aj)(n:Nat)(fL:FL):Prop:=∀(f:Fo) (d:DL) (b:aj) (W:List Nat),f.sz<n->f.sz<=5->cv d=f.mk->g7 d<=nq th->qU fget ws b W bE->ln f<=W.length->
 ∃b',fL v (.list ((dT th d).map .str)) ik sp b=some (b', .list ((gq f W).1.map pn))/\qU fget ws b' (gq f W).2 bE
theorem U6{fL:FL}{n:Nat}(gF:∀s:List Nat,s.length<=900->U 3 [.str s]=some (.bool (zX s)))(bY:th∈things)(ht:th.length<=5)(IH:U5 th v sp fget ws bE n fL):
  ∀(r:Fo) (fuel:Nat) (d:DL) (σ:List (Option PV)) (b:aj) (W acc:List Nat),r.sz<=n->r.sz<=5->r.sz<fuel->cv d=r.mk->g7 d<=nq th->acc.length=4->Kn 8 σ (lK d th v sp acc)->qU fget ws b W bE->jF r<=W.length->
   ∃aJ b',nB U zq (EN U fL) fuel ⟨σ,some (v,b)⟩=some (⟨aJ,some (v,b')⟩, .next)/\At aJ 5 (.list ((i4 r W acc).1.map pn))/\qU fget ws b' (i4 r W acc).2 bE
 |_,0,_,_,_,_,_,_,_,hf,_,_,_,_,_,_=>absurd hf (F2 _)
 | .e,fuel+1,d,σ,b,W,acc,_,_,_,hd,_,_,K,hT,_=>by
  obtain rfl:d=[]:=It.mp hd
  refine⟨σ,b,?_,K.get 5 _ rfl,hT⟩
  refine(?_:(aZ U zq σ).bind _=_)
  rw[U4 (K.get 0 _ rfl)];rfl
 | .n i r,fuel+1,d,σ,b,W,acc,hn,h5,hf,hd,hc,ha,K,hT,hW=>by
  have hn:i.sz+r.sz+1<=n:=hn
  have h5:i.sz+r.sz+1<=5:=h5
  have hf:i.sz+r.sz+1<fuel+1:=hf
  have hW:ln i+jF r<=W.length:=hW
  have mr:cv d=40::(i.mk++41::r.mk):=hd
  have m1:cv ((d.drop 1).take (2*i.sz))=i.mk:=by
   unfold cv at mr⊢
   rw[Eb,Ep,mr,<-i.eN]
   exact List.take_left
  have m2:cv (d.drop (2*(i.sz+1)))=r.mk:=by
   unfold cv at mr⊢
   rw[Ep,mr,show 2*(i.sz+1)=i.mk.length+1+1 by rw[i.eN];omega,List.drop_succ_cons,<-I6,List.drop_left];rfl
  have Oy:((d.drop 1).take (2*i.sz)).Sublist d:=(List.take_sublist ..).trans (List.drop_sublist ..)
  have Oz:(d.drop (2*(i.sz+1))).Sublist d:=List.drop_sublist ..
  obtain⟨b1,e1,hT1⟩:=IH i _ b W (by omega) (by omega) m1 (Ad Oy.countP_le hc) hT (by omega)
  obtain⟨bT,e2,K1⟩:=zV1 gF bY ht h5 hd hc ha (zYf i W) K e1
  have AH:=U3 i W (by omega)
  obtain⟨bR,b2,e3,h3,hT3⟩:=U6 gF bY ht IH r fuel _ bT b1 (gq i W).2 (j0 acc (gq i W).1) (by omega) (by omega) (by omega) m2 (Ad Oz.countP_le hc) (U0 ..) K1 hT1 (by omega)
  refine⟨bR,b2,?_,h3,hT3⟩
  refine(?_:(aZ U zq σ).bind _=_)
  rw[U4 (K.get 0 _ rfl)]
  have cY:d.isEmpty=false:=by cases d with|nil=>exact absurd (show([]:List Nat)=40::(i.mk++41::r.mk)from mr) nofun|cons z d=>rfl
  rw[cY]
  refine(?_:(EN U fL ⟨σ,some (v,b)⟩).bind _=_)
  rw[e2];exact e3
theorem zT0:∀d<3,∀t<6,∀m<4,(((jY d (jX.getD t [])).map (46:: ·)).map fun s=>if(46::(jY d (jX.getD t [])).getD m [])==s then 0 else 1000)=nr m:=by decide+kernel
theorem U7{a b:PE}{x y:List Nat}(ha:ev U a σ=some (.str x))(hb:ev U b σ=some (.str y)):aZ U (.cmp .Eq a b) σ=some (x==y):=by
 refine(?_:(ev U a σ).bind _=_)
 refine zK ha ?_
 exact zK hb rfl
theorem zYd{tot m:Nat}(hm:m<4)(bu:σ.length=8)(h4:At σ 4 (.str (46::(ff tot).getD m [])))(h3:At σ 3 (.list ((g6 tot).map .str))):ev U EM σ=some (.list ((nr m).map pn)):=by
 refine(kX (U:=U) (src:= .items (.var 3)) (l:=g6 tot) (it:=fun s=> [.str s]) (g:=fun s=>pn (if(46::(ff tot).getD m [])==s then 0 else 1000)) (by rw[ES (zA h3),A9];rfl) (show 4<=ag by decide) fun s _=>⟨?_,zO⟩).trans ?_
 ·refine(?_:ev U (.ite (.cmp .Eq (.var 4) (.var 8)) (.lit (.int 0)) (.lit (.int 1000))) (σ++[some (.str s)])=_)
  rw[ET (U7 (zA h4.app) (zA (wY bu)))]
  cases(46::(ff tot).getD m [])==s<;>rfl
 ·have:=zT0 _ (qR tot) _ (pM tot) m hm
  rw[<-this,A9];rfl
theorem U8{tot:Nat}(gF:∀s:List Nat,s.length<=900->U 3 [.str s]=some (.bool (zX s)))(bY:th∈things)(ht:th.length<=5):∀n,U5 th v (.list ((g6 tot).map .str)) fget (ff tot) bE n (nO U fget n)
 |0=>fun f d b W h=>absurd h (F2 _)
 |n+1=>by
  intro f d b W hn h5 hd hc hT hW
  refine(?_:∃b',EK U fget NF EM (kD U (nO U fget n)) v _ ik _ b=_/\_)
  have h0:At (pH v (.list ((dT th d).map .str)) ik (.list ((g6 tot).map .str)) b).σ 0 (.list ((dT th d).map .str)):=rfl
  unfold EK
  rw[show aZ U NF _=_ from yAo h0,As]
  cases f with
  |e=>
   obtain rfl:d=[]:=It.mp hd
   cases hT with
   |nil=>exact absurd hW (K9 _)
   | @cons _ b1 _ m W e hm r=>
    refine⟨b1,?_,r⟩
    refine(?_:Tg U fget EM _=_)
    have e1:yX 4 (uJ fget 1) (pH v (.list (([]:DL).map fun _=> .none)) ik (.list ((g6 tot).map .str)) b)=some (⟨[some (.list []),some (.obj v),some ik,some (.list ((g6 tot).map .str)),some (.str (46::(ff tot).getD m [])),none,none,none],some (v,b1)⟩, .next):=by
     refine(?_:((ia (pH v (.list []) ik (.list ((g6 tot).map .str)) b) 1).bind _).bind _=_)
     rw[show ia (pH v (.list []) ik (.list ((g6 tot).map .str)) b) 1=some (v,b)from aO (v:=v) rfl,As]
     refine(?_:((fget b).map _).bind _=_)
     rw[e];rfl
    refine(?_:(yX 4 (uJ fget 1) _).bind _=_)
    refine zK e1 ?_
    refine zK (zYd (tot:=tot) hm rfl rfl rfl) ?_
    exact xT rfl rfl
  |n i r=>
   have cY:d.isEmpty=false:=by cases d with|nil=>exact absurd (show([]:List Nat)=40::(i.mk++41::r.mk)from hd) nofun|cons z d=>rfl
   rw[cY]
   have e1:den U k1 (pH v (.list ((dT th d).map .str)) ik (.list ((g6 tot).map .str)) b)=some (⟨[some (.list ((dT th d).map .str)),some (.obj v),some ik,some (.list ((g6 tot).map .str)),none,some (.list (pN.map pn)),none,none],some (v,b)⟩, .next):=zD (e:= .list _) rfl rfl
   have K:Kn 8 [some (.list ((dT th d).map PV.str)),some (.obj v),some ik,some (.list ((g6 tot).map .str)),none,some (.list (pN.map pn)),none,none] (lK d th v (.list ((g6 tot).map .str)) pN):=Kn.cons rfl (Kn.cons rfl (Kn.cons rfl (Kn.cons rfl (Kn.cons rfl (Kn.nil rfl)))))
   obtain⟨bR,b2,e2,h5',hT2⟩:=U6 gF bY ht (U8 (tot:=tot) gF bY ht n) (.n i r) 64 d _ b W pN (Jj hn) h5 (Ds h5 (by decide)) hd hc rfl K hT hW
   refine⟨b2,?_,hT2⟩
   refine(?_:Th _ _=_)
   refine(?_:(kD U (nO U fget n) _).bind _=_)
   refine zK ((zM e1).trans ((zM e2).trans rfl)) ?_
   refine xT (show NC Fl.next=true from rfl) ?_
   refine(?_:((bR[5]?).bind id).bind _=_)
   rw[h5']
   refine xT ?_ rfl
   refine(?_:((i4 (.n i r) W pN).1.map pn).all PV.ba=true)
   rw[Hd]
   exact Ao.mpr fun _ _=>rfl
end
noncomputable def up(g:Nat×Nat):Nat×Nat:=(min g.1 (min g.1 g.2+1),min g.2 (min g.1 g.2+1))
noncomputable def iT(a b:Nat×Nat):Nat×Nat:=(a.1+b.1,a.2+b.2)
noncomputable def lf(b:Nat):Nat×Nat:=(b,1-b)
noncomputable def rh:Fo->List Nat->Nat×Nat->(Nat×Nat)×List Nat
 | .e,B,acc=>(acc,B)
 | .n i r,B,acc=>
  let q:=if i.sz=0 then(lf (B.headD 0),B.tail)else rh i B (0,0)
  rh r q.2 (iT acc (up q.1))
noncomputable def eU(c:Nat)(a b:Nat×Nat):List Nat:=[c+a.1+b.1,c+a.1+b.2,c+a.2+b.1,c+a.2+b.2]
theorem pO(c s a b x y:Nat):c+a+b+(s+x+y)=c+s+(a+x)+(b+y):=(La (c+a) b (s+x) y).trans (congrArg (· +(b+y)) (La c a s x))
theorem FP(s g0 g1 h0 h1 i j k l:Nat):min (min (min (s+g0+h0+(2+(i+k))) (s+g0+h1+(2+(i+l)))) (s+g1+h0+(2+(j+k)))) (s+g1+h1+(2+(j+l)))=s+2+min (g0+i) (g1+j)+min (h0+k) (h1+l):=by
 have e:∀a b m n,s+a+b+(2+(m+n))=(s+2+(a+m))+(b+n):=fun a b m n=>(congrArg (s+a+b+ ·) (C5 2 m n).symm).trans (pO s 2 a b m n)
 rw[e,e,e,e,Ii,Nat.min_assoc,Ii,Kr,Ii]
theorem up1(a b:Nat):min a (min a b+1)=min (a+0) (b+1):=by
 rw[<-Kr,<-Nat.min_assoc,Dr (Ft a)];rfl
theorem U9(a b:Nat):min b (min a b+1)=min (a+1) (b+0):=by
 rw[Nat.min_comm a b,up1,Nat.min_comm]
theorem zUb(c s:Nat)(a b g h:Nat×Nat):j0 (eU c a b) (eU s g h)=eU (c+(s+2)) (iT a (up g)) (iT b (up h)):=by
 refine(?_:[c+a.1+b.1+_,c+a.1+b.2+_,c+a.2+b.1+_,c+a.2+b.2+_]=[_+(a.1+min g.1 (min g.1 g.2+1))+(b.1+min h.1 (min h.1 h.2+1)),_+(a.1+min g.1 (min g.1 g.2+1))+(b.2+min h.2 (min h.1 h.2+1)),_+(a.2+min g.2 (min g.1 g.2+1))+(b.1+min h.1 (min h.1 h.2+1)),_+(a.2+min g.2 (min g.1 g.2+1))+(b.2+min h.2 (min h.1 h.2+1))])
 rw[up1 g.1 g.2,U9 g.1 g.2,up1 h.1 h.2,U9 h.1 h.2]
 refine congr (congrArg _ ?_) (congr (congrArg _ ?_) (congr (congrArg _ ?_) (congrArg (· ::[]) ?_)))
 ·exact(congrArg (c+a.1+b.1+ ·) (FP s g.1 g.2 h.1 h.2 0 1 0 1)).trans (pO ..)
 ·exact(congrArg (c+a.1+b.2+ ·) (FP s g.1 g.2 h.1 h.2 0 1 1 0)).trans (pO ..)
 ·exact(congrArg (c+a.2+b.1+ ·) (FP s g.1 g.2 h.1 h.2 1 0 0 1)).trans (pO ..)
 ·exact(congrArg (c+a.2+b.2+ ·) (FP s g.1 g.2 h.1 h.2 1 0 1 0)).trans (pO ..)
theorem zTt(c:Nat)(a b:Nat×Nat){m:Nat}(hm:m<4):j0 (eU c a b) (nr m)=eU (c+2) (iT a (up (lf (m/2)))) (iT b (up (lf (m%2)))):=by
 have key:∀m<4,qT (nr m) 0=2+(up (lf (m/2))).1+(up (lf (m%2))).1/\qT (nr m) 1=2+(up (lf (m/2))).1+(up (lf (m%2))).2/\qT (nr m) 2=2+(up (lf (m/2))).2+(up (lf (m%2))).1/\qT (nr m) 3=2+(up (lf (m/2))).2+(up (lf (m%2))).2:=by decide
 obtain⟨k0,k1,k2,k3⟩:=key m hm
 refine(?_:[c+a.1+b.1+_,c+a.1+b.2+_,c+a.2+b.1+_,c+a.2+b.2+_]=_)
 rw[k0,k1,k2,k3,pO,pO,pO,pO];rfl
theorem FQ:∀(f:Fo) (W:List Nat) (c:Nat) (a b:Nat×Nat),(∀m∈W,m<4)->jF f<=W.length->
  (i4 f W (eU c a b)).1=eU (c+2*f.sz) (rh f (W.map (· /2)) a).1 (rh f (W.map (· %2)) b).1/\(rh f (W.map (· /2)) a).2=(i4 f W (eU c a b)).2.map (· /2)/\(rh f (W.map (· %2)) b).2=(i4 f W (eU c a b)).2.map (· %2)/\(∀m∈(i4 f W (eU c a b)).2,m<4)
 | .e,W,c,a,b,h,_=>⟨rfl,rfl,rfl,h⟩
 | .n i r,W,c,a,b,h,hl=>by
  have hl:(if i.sz=0 then 1 else jF i)+jF r<=W.length:=hl
  rw[U2]
  by_cases hz:i.sz=0
  ·rw[if_pos hz]at hl
   cases W with
   |nil=>exact absurd hl (by rw[F4];omega)
   |cons m W=>
    have hm:=h m (.head _)
    have hW:∀x∈W,x<4:=fun x hx=>h x (.tail _ hx)
    have c1:gq i (m::W)=(nr m,W):=by unfold gq;rw[if_pos hz];rfl
    have r1:∀(B:Nat) (Bs:List Nat) (x:Nat×Nat),rh (.n i r) (B::Bs) x=rh r Bs (iT x (up (lf B))):=fun B Bs x=>by
     refine(?_:rh r (if i.sz=0 then _ else _:(Nat×Nat)×List Nat).2 (iT x (up (if i.sz=0 then _ else _:(Nat×Nat)×List Nat).1))=_)
     rw[if_pos hz];rfl
    rw[c1,zTt c a b hm,Dp,Dp,r1,r1]
    have ih:=FQ r W (c+2) (iT a (up (lf (m/2)))) (iT b (up (lf (m%2)))) hW (by rw[Cg]at hl;omega)
    refine⟨ih.1.trans ?_,ih.2⟩
    refine congrArg (fun n=>eU n _ _) ?_
    refine(?_:c+2+2*r.sz=c+2*(i.sz+r.sz+1))
    omega
  ·rw[if_neg hz]at hl
   have c1:gq i W=i4 i W (eU 0 (0,0) (0,0)):=by unfold gq;rw[if_neg hz];rfl
   have r1:∀(B:List Nat) (x:Nat×Nat),rh (.n i r) B x=rh r (rh i B (0,0)).2 (iT x (up (rh i B (0,0)).1)):=fun B x=>by
    refine(?_:rh r (if i.sz=0 then _ else _:(Nat×Nat)×List Nat).2 (iT x (up (if i.sz=0 then _ else _:(Nat×Nat)×List Nat).1))=_)
    rw[if_neg hz]
   obtain⟨q1,q2,q3,q4⟩:=FQ i W 0 (0,0) (0,0) h (by omega)
   have AH:=FO i W (eU 0 (0,0) (0,0)) (by omega)
   rw[c1,r1,r1,q1,q2,q3,zUb]
   have ih:=FQ r (i4 i W (eU 0 (0,0) (0,0))).2 (c+(0+2*i.sz+2)) (iT a (up (rh i (W.map (· /2)) (0,0)).1)) (iT b (up (rh i (W.map (· %2)) (0,0)).1)) q4 (by omega)
   refine⟨ih.1.trans ?_,ih.2⟩
   refine congrArg (fun n=>eU n _ _) ?_
   refine(?_:c+(0+2*i.sz+2)+2*r.sz=c+2*(i.sz+r.sz+1))
   omega
noncomputable abbrev DS:=List (Nat×Nat)×Nat
noncomputable def dst(M:List Nat)(X:List Nat)(s:DS)(t:Nat):Option DS:=
 if 12<s.1.length\/5<s.2 then none else
 if M.getD t 0=40 then some (s.1++[(0,0)],s.2+1)else
 match s.1.reverse with
 |l0::ar::rest=>if t=0\/s.2=0 then none else some (rest.reverse++[iT ar (up (if M.getD (t-1) 0=40 then lf (X.getD (s.2-1) 0)else l0))],s.2)
 |_=>none
noncomputable def nR(M X:List Nat):Nat->Option DS
 |0=>some ([(0,0)],0)
 |k+1=>(nR M X k).bind fun s=>dst M X s k
noncomputable def OA:Nat->List (List Nat)
 |0=> [[]]
 |n+1=>(OA n).flatMap fun B=> [0::B,1::B]
theorem zUp:((Fo.gen 5 5).all fun f=>(lS 5).all fun ms=>!(f.mk==cU ms)||(OA 5).all fun X=>nR (cU ms) X 10==some ([(rh f ((yM ms).map fun k=>X.getD k 0) (0,0)).1],5))=true:=by decide+kernel
noncomputable def dg(g:Nat×Nat):PV:= .list [pn g.1,pn g.2]
noncomputable def fm(xs:List Nat)(h:Nat):List Nat:=xs.map fun x=>x/h%2
noncomputable def dK(xs M:List Nat)(h:Nat)(E:PV×PV)(s:DS):List (Nat×PV):=[(18,E.1),(19,E.2),(2, .list (xs.map pn)),(4, .str M),(20,pn h),(21, .list (s.1.map dg)),(22, .int ((s.2:Int)-1))]
section
variable{U:Uc}{σ:List (Option PV)}{β:Option (Value×aj)}{xs M:List Nat}{h:Nat}{E:PV×PV}
theorem Va{i j:Nat}{l:List PV}{p:PV}(hl:At σ j (.list (l++[p])))(hs:l.length+1<=ag):den U (.iC i j) ⟨σ,β⟩=some (⟨(σ.set j (some (.list l))).set i (some p),β⟩, .next):=by
 refine(?_:((lB ⟨σ,β⟩ j).bind _).bind _=_)
 rw[HZ hl,As,if_pos (by rw[Ah];exact hs),List.getLast?_concat,K5]
 rfl
theorem Vb(a b:Nat):jC a b=min a b:=by unfold jC;split<;>omega
theorem OC(g:Nat×Nat):∀k<2,[pn g.1,pn g.2][k]?=some (pn (if k=0 then g.1 else g.2))
 |0,_=>rfl
 |1,_=>rfl
theorem yB0{l ar:Nat×Nat}(bu:σ.length=27)(Vc:At σ 24 (dg l))(h26:At σ 26 (dg ar)):ev U (.comp (.bin .Add (.idx (.var 26) (.var 27)) (.bi 3 (.cons (.idx (.var 24) (.var 27)) (.cons (.bin .Add (.bi 2 (.cons (.var 24) .nil)) (.lit (.int 1))) .nil)))) (.eD (.lit (.int 2))) .nil) σ=some (dg (iT ar (up l))):=by
 have q:dg (iT ar (up l))= .list ((Au 2).map fun k=>pn ((if k=0 then ar.1 else ar.2)+jC (if k=0 then l.1 else l.2) (FN [l.1,l.2]+1))):=by
  refine(?_:PV.list [pn (ar.1+(up l).1),pn (ar.2+(up l).2)]= .list [pn (ar.1+jC l.1 (min l.1 l.2+1)),pn (ar.2+jC l.2 (min l.1 l.2+1))])
  rw[Vb,Vb];rfl
 rw[q]
 refine kX (U:=U) (src:= .eD (.lit (.int 2))) (l:=Au 2) (it:=fun k=> [pn k]) (g:=fun k=>pn ((if k=0 then ar.1 else ar.2)+jC (if k=0 then l.1 else l.2) (FN [l.1,l.2]+1))) (qN (n:=2) rfl (by decide)) (by decide) fun k hk=>⟨?_,zO⟩
 have hk:=B7.mp hk
 have v:ev U (.var 27) (σ++[some (pn k)])=some (pn k):=zA (wY bu)
 exact wL (wB (zA h26.app) v (OC ar k hk) (show 2<=ag by decide)) (N5 (wB (zA Vc.app) v (OC l k hk) (show 2<=ag by decide)) (wL (UX (l:=[l.1,l.2]) (zA Vc.app) nofun) (AA (p:=pn 1))))
theorem zXl{t:Nat}(h23:At σ 23 (pn t))(ht:1<=t):ev U (.bin .Sub (.var 23) (.lit (.int 1))) σ=some (pn (t-1)):=z8 (zA h23) (AA (p:=pn 1)) ht
theorem Vd{e:PE}{t:Nat}(h4:At σ 4 (.str M))(hM:M.length=10)(he:ev U e σ=some (pn t))(ht:t<10):aZ U (.cmp .Eq (.idx (.var 4) e) (.lit (.str [40]))) σ=some (M.getD t 0==40):=by
 rw[U7 (y:=[40]) (uP (zA h4) he (tb 0 (hM▸ht)) (by rw[hM];decide)) rfl]
 simp
theorem zUx(hx:xs.length=5)(hM:M.length=10)(hh:0<h/\h<1073741824){s s':DS}{t:Nat}(ht:t<10)(e:dst M (fm xs h) s t=some s')(K:Kn 27 σ ((23,pn t)::dK xs M h E s)):
  ∃aJ,zU U (EU zu) ⟨σ,β⟩=some (⟨aJ,β⟩, .next)/\Kn 27 aJ (dK xs M h E s'):=by
 unfold dst at e
 by_cases hb:12<s.1.length\/5<s.2
 ·rw[if_pos hb]at e;exact nn e
 rw[if_neg hb]at e
 have t0:=Vd (U:=U) (K.get 4 _ rfl) hM (zA (K.get 23 _ rfl)) ht
 have hl:(s.1.map dg).length<=12:=by rw[An];omega
 refine(?_:∃aJ,zZ (den U _) aA _=_/\_)
 by_cases hm:M.getD t 0=40
 ·rw[if_pos hm]at e
  obtain rfl:=Aa e
  rw[hm]at t0
  have e1:den U (.aug .Add 22 (.lit (.int 1))) ⟨σ,β⟩=some (⟨σ.set 22 (some (.int (((s.2+1:Nat):Int)-1))),β⟩, .next):=by
   refine(?_:((σ[22]?).bind id).bind _=_)
   rw[K.get 22 _ rfl]
   refine(?_:some ((⟨σ.set 22 (some (.int ((s.2:Int)-1+1))),β⟩:Sg),Fl.next)=_)
   rw[show(s.2:Int)-1+1=((s.2+1:Nat):Int)-1 by omega]
  have K1:=K.set (i:=22) (by decide) (.int (((s.2+1:Nat):Int)-1))
  generalize σ.set 22 (some (.int (((s.2+1:Nat):Int)-1)))=bT at e1 K1
  have e2:=zy (U:=U) (β:=β) (e:= .list (.cons (.lit (.int 0)) (.cons (.lit (.int 0)) .nil))) (p:=dg (0,0)) (K1.get 21 _ rfl) rfl rfl (Ad hl (by decide))
  have K2:=K1.set (i:=21) (by decide) (.list (s.1.map dg++[dg (0,0)]))
  exact⟨_,pJ (gE t0 ((zG e1).trans (pJ e2))),K2.sub (fa rfl (fa rfl (fa rfl (fa rfl (fa rfl (fa (congrArg (some∘PV.list) (by rw[D5];rfl)) (fa rfl dO)))))))⟩
 ·rw[if_neg hm]at e
  rw[show(M.getD t 0==40)=false by simpa using hm]at t0
  cases hr:s.1.reverse with
  |nil=>rw[hr]at e;exact nn e
  |cons l0 q=>
   cases q with
   |nil=>rw[hr]at e;exact nn e
   |cons ar rest=>
    rw[hr]at e
    dsimp only at e
    by_cases hz:t=0\/s.2=0
    ·rw[if_pos hz]at e;exact nn e
    rw[if_neg hz]at e
    obtain rfl:=Aa e
    have hs:s.1=rest.reverse++[ar]++[l0]:=by
     have:=congrArg List.reverse hr
     rw[List.reverse_reverse]at this
     rw[this];simp
    have dq:s.1.map dg=(rest.reverse.map dg++[dg ar])++[dg l0]:=by rw[hs];simp
    have hlr:rest.length+2<=12:=((Dj).symm.trans (congrArg B3 hr):s.1.length=rest.length+2)▸Ci fun q=>hb (.inl q)
    have OD:At σ 21 (.list ((rest.reverse.map dg++[dg ar])++[dg l0])):=dq▸K.get 21 _ rfl
    have e1:=Va (U:=U) (β:=β) (i:=24) OD (by rw[Ah,An,Dj];exact Ad (show _<=12 by simp;omega) (by decide))
    have K1:=(K.set (i:=21) (by decide) (.list (rest.reverse.map dg++[dg ar]))).set (i:=24) (by decide) (dg l0)
    generalize(σ.set 21 (some (.list (rest.reverse.map dg++[dg ar])))).set 24 (some (dg l0))=bT at e1 K1
    have t1:=Vd (U:=U) (K1.get 4 _ rfl) hM (zXl (K1.get 23 _ rfl) (by omega)) (t:=t-1) (by omega)
    obtain⟨bR,e2,K2⟩:∃bR,den U (.ifs (.cmp .Eq (.idx (.var 4) (.bin .Sub (.var 23) (.lit (.int 1)))) (.lit (.str [40]))) (.cons (.assign 25 (.bin .Mod (.bin .FloorDiv (.idx (.var 2) (.var 22)) (.var 20)) (.lit (.int 2)))) (.cons (.assign 24 (.list (.cons (.var 25) (.cons (.bin .Sub (.lit (.int 1)) (.var 25)) .nil)))) .nil)) .nil) ⟨bT,β⟩=some (⟨bR,β⟩, .next)/\Kn 27 bR ((24,dg (if M.getD (t-1) 0=40 then lf ((fm xs h).getD (s.2-1) 0)else l0))::(21, .list (rest.reverse.map dg++[dg ar]))::(18,E.1)::(19,E.2)::(2, .list (xs.map pn))::(4, .str M)::(20,pn h)::[(22, .int ((s.2:Int)-1))]):=by
     by_cases hp:M.getD (t-1) 0=40
     ·rw[hp]at t1
      rw[if_pos hp]
      have NT:At bT 22 (pn (s.2-1)):=by have:=K1.get 22 _ rfl;rw[show((s.2:Int)-1)=((s.2-1:Nat):Int)by omega]at this;exact this
      have aX:s.2-1<xs.length:=by omega
      have sQ:(fm xs h).getD (s.2-1) 0=xs.getD (s.2-1) 0/h%2:=by
       unfold fm
       rw[A4,ng (fun x=>x/h%2) 0 aX];rfl
      have a1:den U (.assign 25 (.bin .Mod (.bin .FloorDiv (.idx (.var 2) (.var 22)) (.var 20)) (.lit (.int 2)))) ⟨bT,β⟩=some (⟨bT.set 25 (some (pn ((fm xs h).getD (s.2-1) 0))),β⟩, .next):=by
       rw[sQ]
       exact zD (jB (n:=2) (pK (wB (zA (K1.get 2 _ rfl)) (zA NT) (ng pn 0 aX) (by rw[An,hx];decide)) (zA (K1.get 20 _ rfl)) hh) rfl (by decide)) zO
      have K2:=K1.set (i:=25) (by decide) (pn ((fm xs h).getD (s.2-1) 0))
      have hle:(fm xs h).getD (s.2-1) 0<=1:=by rw[sQ];exact Jj (Bn _ (by decide))
      generalize(fm xs h).getD (s.2-1) 0=bb at a1 K2 hle⊢
      generalize bT.set 25 (some (pn bb))=bR at a1 K2
      have a2:den U (.assign 24 (.list (.cons (.var 25) (.cons (.bin .Sub (.lit (.int 1)) (.var 25)) .nil)))) ⟨bR,β⟩=some (⟨bR.set 24 (some (dg (lf bb))),β⟩, .next):=by
       refine zD (e:= .list _) ?_ rfl
       refine(?_:(((ev U (.var 25) bR).bind fun x=>((ev U (.bin .Sub (.lit (.int 1)) (.var 25)) bR).bind fun y=>(some []).map (y:: ·)).map (x:: ·))).bind _=_)
       rw[zA (K2.get 25 _ rfl),z8 (m:=1) rfl (zA (K2.get 25 _ rfl)) hle];rfl
      exact⟨_,gE t1 ((zG a1).trans (pJ a2)),(K2.set (i:=24) (by decide) (dg (lf bb))).sub (fa rfl (fa rfl (fa rfl (fa rfl (fa rfl (fa rfl (fa rfl (fa rfl dO))))))))⟩
     ·rw[if_neg hp]
      rw[show(M.getD (t-1) 0==40)=false by simpa using hp]at t1
      exact⟨_,fQ t1 rfl,K1.sub (fa rfl (fa rfl (fa rfl (fa rfl (fa rfl (fa rfl (fa rfl (fa rfl dO))))))))⟩
    generalize(if M.getD (t-1) 0=40 then lf ((fm xs h).getD (s.2-1) 0)else l0)=l at K2⊢
    have AI:(rest.reverse.map dg).length+1<=12:=by rw[An,Dj];omega
    have e3:=Va (U:=U) (β:=β) (i:=26) (K2.get 21 _ rfl) (Ad AI (by decide))
    have K3:=(K2.set (i:=21) (by decide) (.list (rest.reverse.map dg))).set (i:=26) (by decide) (dg ar)
    generalize(bR.set 21 (some (.list (rest.reverse.map dg)))).set 26 (some (dg ar))=cJ at e3 K3
    have e4:=zy (U:=U) (β:=β) (K3.get 21 _ rfl) (yB0 K3.len (K3.get 24 _ rfl) (K3.get 26 _ rfl)) rfl (Ad (Cy AI) (by decide))
    have K4:=K3.set (i:=21) (by decide) (.list (rest.reverse.map dg++[dg (iT ar (up l))]))
    exact⟨_,pJ (fQ t0 ((zG e1).trans<|(zG e2).trans<|(zG e3).trans (pJ e4))),K4.sub (fa rfl (fa rfl (fa rfl (fa rfl (fa rfl (fa (congrArg (some∘PV.list) (by rw[D5];rfl)) (fa rfl dO)))))))⟩
theorem Ve{M X:List Nat}:∀{n:Nat} {s:DS},nR M X n=some s->∀k,k<=n->∃s',nR M X k=some s'
 |0,s,h,k,hk=>⟨s,by rw[Nat.le_zero.mp hk];exact h⟩
 |n+1,s,h,k,hk=>by
  obtain⟨s1,e1,e2⟩:=wG h
  by_cases hn:k=n+1
  ·exact⟨s,hn▸h⟩
  ·exact Ve e1 k (by omega)
theorem zR0(hx:xs.length=5)(hM:M.length=10)(hh:0<h/\h<1073741824){s:DS}(hm:nR M (fm xs h) 10=some s)(K:Kn 27 σ (dK xs M h E ([(0,0)],0))):∃aJ,den U zu ⟨σ,β⟩=some (⟨aJ,β⟩, .next)/\Kn 27 aJ (dK xs M h E s):=by
 obtain⟨g,e,aJ,s',rfl,h',K'⟩:=Ux (i:=23) (n:=10) (f:=zU U (EU zu)) (g:=⟨σ,β⟩) (Inv:=fun k g=>∃σ s,g=⟨σ,β⟩/\nR M (fm xs h) k=some s/\Kn 27 σ (dK xs M h E s)) ⟨σ,_,rfl,rfl,K⟩ fun k g hk ⟨τ,s1,e,h1,K1⟩=>by
  subst e
  obtain⟨s2,h2⟩:=Ve hm (k+1) hk
  obtain⟨s1',q1,q2⟩:=wG h2
  obtain rfl:=Aa (q1.symm.trans h1)
  obtain⟨aJ,e',K'⟩:=zUx (U:=U) (β:=β) (σ:=τ.set 23 (some (pn k))) hx hM hh hk q2 (K1.set (by decide) _)
  exact⟨_,e',aJ,s2,rfl,h2,K'⟩
 obtain rfl:=Aa (h'.symm.trans hm)
 exact⟨aJ,(EV (n:=10) rfl (by decide)).trans e,K'⟩
end
noncomputable def AJ(q:Bool×Nat):Prop:=q.2≠10/\(q.1=false->jx q.2=false/\q.2≠92)
section
variable{U:Uc}{v it:Value}
theorem yDo(b:Bool){c:Nat}(hc:AJ (b,c))(ln:Int):nl (if b then 92 else c) ln=ln:=by
 unfold nl;rw[if_neg];cases b with
 |true=>exact(by decide:(92:Nat)≠10)
 |false=>exact hc.1
theorem yBu{tok:List Nat}{b:Bool}{c:Nat}{r:List Nat}{ln:Int}(hc:AJ (b,c))(h:tok.length+1<=ag):
  ∃p,qz U 0 1 3 (gS v it tok (some (.str [if b then 92 else c])) (if b then c::r else r) ln)=some (gS v it (tok++[c]) p r ln, .next):=by
 have n0:∀ln,nl c ln=ln:=fun ln=>by unfold nl;rw[if_neg hc.1]
 refine cu (some (.str [c])) ?_
 unfold qz
 cases b with
 |false=>
  simp only[D8,if_false]
  rw[zM (g₁:=gS v it tok (some (.str [c])) r ln)]
  ·exact S3 h
  ·unfold kO
   rw[uE,(hc.2 rfl).1]
   exact zM (SX (hc.2 rfl).2)
 |true=>
  simp only[if_true]
  rw[zM (g₁:=gS v it tok (some (.str [c])) r ln)]
  ·exact S3 h
  ·unfold kO
   rw[uE,show jx 92=false from rfl]
   refine(zM (SY)).trans ?_
   rw[n0];rfl
theorem Vf{w:Nat}(hw:jx w=true){rest:List Nat}:∀(l:List (Bool×Nat)) (tok:List Nat) (p:Option PV) (ln:Int) (n:Nat),(∀q∈l,AJ q)->tok.length+l.length<=ag->l.length<n->
  ∃p',gU false v 3 (qz U 0 1 3) n (gS v it tok p (enc l++w::rest) ln)=some (gS v it (tok++l.map (·.2)) p' rest (nl w ln), .ret (.str (tok++l.map (·.2))))
 |[],tok,p,ln,n+1,_,_,_=>by
  refine cu (some (.str [w])) ?_
  refine(?_:gU false v 3 (qz U 0 1 3) (n+1) (gS v it tok p (w::rest) ln)=_)
  rw[DQ]
  have:qz U 0 1 3 (gS v it tok (some (.str [w])) rest (nl w ln))=some (gS v it tok (some (.str [w])) rest (nl w ln), .ret (.str tok)):=by
   refine yU ?_
   unfold kO
   rw[uE,hw];rfl
  rw[this]
  simp
 |(b,c)::l,tok,p,ln,n+1,hg,hs,hn=>by
  have hc:=hg (b,c) (Aj ..)
  rw[S4,DQ,yDo b hc]
  simp only[Cg]at hs hn
  refine aH (yBu (U:=U) (v:=v) (it:=it) (tok:=tok) (b:=b) (c:=c) (r:=enc l++w::rest) (ln:=ln) hc (by exact xO)) fun mP fK=>?_
  rw[fK]
  obtain⟨tF,eZ⟩:=Vf hw l (tok++[c]) mP ln n (fun q hq=>hg q (Ai _ hq)) (by simp;exact zY) (by exact Hc ‹_›)
  refine cu tF ?_
  refine(?_:gU false v 3 (qz U 0 1 3) n _=_)
  rw[eZ];simp
theorem yCn{b:Bool}{c w:Nat}{l:List (Bool×Nat)}{rest:List Nat}{ln:Int}(hc:Nk c)(hw:jx w=true)(hg:∀q∈l,AJ q)(hs:l.length+1<=ag):
  ∃p',qA U 0 1 2 3 v it (gS v it [] (some (.str [if b then 92 else c])) (if b then c::(enc l++w::rest)else enc l++w::rest) ln)=some (gS v it (c::l.map (·.2)) p' rest (nl w ln), .ret (.str (c::l.map (·.2)))):=by
 have n0:∀ln,nl c ln=ln:=fun ln=>by unfold nl;rw[if_neg];rintro rfl;exact absurd hc.1 (by decide)
 obtain⟨p',e⟩:=Vf (U:=U) (v:=v) (it:=it) hw (rest:=rest) l [c] (some (.str [c])) ln ((enc l++w::rest).length+1) hg (by simp;exact xB) (by
  have:∀l:List (Bool×Nat),l.length<=(enc l).length:=by
   intro l
   induction l with
   |nil=>exact Bv _
   |cons q l ih=>
    obtain⟨b,c⟩:=q
    refine(?_:l.length+1<=((if b then [92,c]else [c])++enc l).length)
    cases b<;>simp<;>lia
  have:=this l
  simp;lia)
 refine cu p' ?_
 have tail:∀g,g=gS v it [] (some (.str [c])) (enc l++w::rest) ln->zZ (ou U .Add 1 (.var 3)) (zZ (nM false v 2 it 3 (qz U 0 1 3)) aA) g=some (gS v it (c::l.map (·.2)) p' rest (nl w ln), .ret (.str (c::l.map (·.2)))):=by
  rintro g rfl
  have e1:ou U .Add 1 (.var 3) (gS v it [] (some (.str [c])) (enc l++w::rest) ln)=some (gS v it [c] (some (.str [c])) (enc l++w::rest) ln, .next):=by
   exact S2 (a:=[]) (b:=[c]) rfl rfl (by simp[ag])
  rw[zM e1]
  refine yU ?_
  rw[Nl,e];simp
 unfold qA
 cases b with
 |false=>
  simp only[D8,if_false]
  have e1:kO (uo 0 3) (zZ (fun g=>some (g, .cont)) aA) aA (gS v it [] (some (.str [c])) (enc l++w::rest) ln)=some (gS v it [] (some (.str [c])) (enc l++w::rest) ln, .next):=(kP (t:=false) (uE.trans (by rw[hc.1]))).trans rfl
  rw[zM e1]
  refine yU ?_
  refine(kP (t:=false) (DR.trans (by simpa using hc.2.1))).trans ?_
  refine(zM (SX hc.2.2)).trans (tail _ rfl)
 |true=>
  simp only[if_true]
  have e1:kO (uo 0 3) (zZ (fun g=>some (g, .cont)) aA) aA (gS v it [] (some (.str [92])) (c::(enc l++w::rest)) ln)=some (gS v it [] (some (.str [92])) (c::(enc l++w::rest)) ln, .next):=(kP (t:=false) (uE.trans rfl)).trans rfl
  rw[zM e1]
  refine yU ?_
  refine(kP (t:=false) DR).trans ?_
  refine(zM SY).trans ?_
  rw[n0]
  exact tail _ rfl
theorem zYx{pre:List Nat}{b:Bool}{c w:Nat}{l:List (Bool×Nat)}{rest:List Nat}{ln:Int}(hp:pre.all jx=true)(hc:Nk c)(hw:jx w=true)(hg:∀q∈l,AJ q)(hs:l.length+1<=ag):
  jP U ⟨pre++(enc ((b,c)::l)++w::rest),ln,[]⟩ ⟨rest,nl w (jS pre ln),[]⟩ (c::l.map (·.2)):=fun v=>by
 refine .inr ⟨rfl,fun it=>?_⟩
 refine aH (Nm (U:=U) (v:=v) (it:=it) (rest:=enc ((b,c)::l)++w::rest) (n:=(enc ((b,c)::l)++w::rest).length+1) pre none ln hp) fun mP fK=>?_
 refine aH (yCn (U:=U) (v:=v) (it:=it) (b:=b) (rest:=rest) (ln:=jS pre ln) hc hw hg hs) fun tF eZ=>?_
 refine cu ([some (.obj v),some (.str (c::l.map (·.2))),some (.obj it),tF]) (zXd ?_)
 rw[Ah,C5,fK]
 rw[S4,DQ,zS3 b hc]
 rw[eZ];rfl
end
noncomputable def tG(w h:List Nat):List (Bool×Nat):=w.map fun c=>(h.contains c,c)
theorem zRh(w h:List Nat):enc (tG w h)=lT w h:=by
 induction w with
 |nil=>rfl
 |cons c w ih=>
  refine(?_:(if h.contains c then [92,c]else [c])++enc (tG w h)=_)
  rw[ih];rfl
theorem zUf:∀d<3,∀t<6,∀i<4,∀j<2,(((jY d (jX.getD t [])).getD i []).all fun c=>c !=10&&((qQ.getD j []).contains c||(!jx c&&c !=92)))=true:=by decide+kernel
theorem Vg{U:Uc}{tot:Nat}{xs:List Nat}:∀(L pre:List Nat) (ln:Int),pre.all jx=true->∃eh pP,qU (kS U) (ff tot) ⟨pre++iR tot xs L,ln,[]⟩ (L.map fun k=>xs.getD k 0%4) ⟨eh,pP,[]⟩/\eh.all jx=true/\jS eh pP=jS pre ln+L.length
 |[],pre,ln,hp=>⟨pre,ln,by rw[show iR tot xs []=[]from rfl,Bx];exact .nil _,hp,by simp⟩
 |k::L,pre,ln,hp=>by
  have hi:xs.getD k 0%4<4:=Bn _ (by decide)
  have hj:xs.getD k 0/4%2<2:=Bn _ (by decide)
  have hg:=zUf _ (qR tot) _ (pM tot) _ hi _ hj
  have hw:=uX tot _ hi
  have e1:iR tot xs (k::L)=enc ((false,46)::tG ((ff tot).getD (xs.getD k 0%4) []) (qQ.getD (xs.getD k 0/4%2) []))++13::(10::iR tot xs L):=by
   refine(?_:(46::fS tot xs k++[13,10])++iR tot xs L=46::enc _++_)
   rw[zRh]
   unfold fS
   simp
  have op:=zYx (U:=U) (pre:=pre) (b:=false) (c:=46) (w:=13) (l:=tG ((ff tot).getD (xs.getD k 0%4) []) (qQ.getD (xs.getD k 0/4%2) [])) (rest:=10::iR tot xs L) (ln:=ln) hp ⟨rfl,by decide,by decide⟩ rfl (fun q hq=>by
   obtain⟨c,hc,rfl⟩:=F1.mp hq
   obtain⟨h1,h2⟩:=Ba.mp (Ao.mp hg c hc)
   refine⟨bne_iff_ne.mp h1,fun hf=>?_⟩
   have hf:(qQ.getD (xs.getD k 0/4%2) []).contains c=false:=hf
   rw[hf,Bool.false_or]at h2
   obtain⟨h3,h4⟩:=Ba.mp h2
   exact⟨by simpa using h3,bne_iff_ne.mp h4⟩) (by unfold tG;rw[An];exact Ad (Du hw) (by decide))
  obtain⟨eh,pP,h1,h2,h3⟩:=Vg (U:=U) (tot:=tot) (xs:=xs) L [10] (nl 13 (jS pre ln)) rfl
  refine⟨eh,pP,?_,h2,?_⟩
  ·rw[Dp]
   refine .cons (b1:=⟨[10]++iR tot xs L,nl 13 (jS pre ln),[]⟩) ?_ hi h1
   rw[e1,S5 op]
   have:(tG ((ff tot).getD (xs.getD k 0%4) []) (qQ.getD (xs.getD k 0/4%2) [])).map (·.2)=(ff tot).getD (xs.getD k 0%4) []:=by unfold tG;rw[A9];exact List.map_id _
   rw[this];rfl
  ·rw[h3];simp only[jS,nl,Cg];simp;omega
theorem zXw:((lS 5).all fun ms=>zX (cU ms)&&[1,3,5,7,9].all fun t=>!zX ([40,41]++((cU ms).drop t++(cU ms).take t)++[40,41]))=true:=by decide+kernel
theorem yAh:((Fo.gen 5 5).all fun f=>(lS 5).all fun ms=>!(f.mk==cU ms)||ln f==(yM ms).length)=true:=by decide+kernel
theorem Vh:∀(n:Nat) (B:List Nat),B.length=n->(∀b∈B,b<2)->B∈OA n
 |0,B,h,_=>by rw[Ec h];exact .head _
 |n+1,[],h,_=>nomatch h
 |n+1,b::B,h,hb=>by
  refine Fq.mpr ⟨B,Vh n B (Iu h) (fun x hx=>hb x (.tail _ hx)),?_⟩
  have:=hb b (.head _)
  have:b=0\/b=1:=by omega
  rcases this with rfl|rfl
  ·exact .head _
  ·exact .tail _ (.head _)
theorem Vi{f:Fo}{ms:List Nat}(hf:f.sz=5)(hm:ms∈lS 5)(e:f.mk=cU ms){xs:List Nat}(hx:xs.length=5)(h:Nat):nR (cU ms) (fm xs h) 10=some ([(rh f ((yM ms).map fun k=>(fm xs h).getD k 0) (0,0)).1],5):=by
 have g:=Fo.ej 5 f (Cr hf)
 rw[hf]at g
 have k:=Ao.mp (Ao.mp zUp f g) ms hm
 rw[show(f.mk==cU ms)=true by rw[e];exact beq_self_eq_true _]at k
 exact eq_of_beq (Ao.mp k (fm xs h) (Vh 5 _ (by unfold fm;rw[An,hx]) fun b hb=>by
  obtain⟨x,_,rfl⟩:=F1.mp hb
  exact Bn _ (by decide)))
theorem yCc{f:Fo}{ms:List Nat}(hf:f.sz=5)(hm:ms∈lS 5)(e:f.mk=cU ms):ln f=(yM ms).length:=by
 have g:=Fo.ej 5 f (Cr hf)
 rw[hf]at g
 have k:=Ao.mp (Ao.mp yAh f g) ms hm
 rw[show(f.mk==cU ms)=true by rw[e];exact beq_self_eq_true _]at k
 exact eq_of_beq k
theorem zX1{f:Fo}(hf:f.sz=5){W:List Nat}(hW:∀m∈W,m<4)(hl:ln f<=W.length):(gq f W).1=eU 10 (rh f (W.map (· /2)) (0,0)).1 (rh f (W.map (· %2)) (0,0)).1:=by
 have hz:f.sz≠0:=by omega
 unfold gq ln at*
 rw[if_neg hz]at hl⊢
 have:=(FQ f W 0 (0,0) (0,0) hW hl).1
 rw[hf]at this
 exact this
section
variable{U:Uc}{σ:List (Option PV)}{β:Option (Value×aj)}{xs M:List Nat}{h:Nat}
theorem zZ9{due:List Nat}{g:Nat×Nat}(bu:σ.length=27)(NR:At σ 19 (.list (due.map pn)))(hd:due.length=4)(NS:At σ 20 (pn h))(hh:0<h/\h<1073741824)(OD:At σ 21 (.list [dg g])):
  den U NM ⟨σ,β⟩=some (⟨σ.set 19 (some (.list (((Au 4).map fun w=>due.getD w 0+(if w/h%2=0 then g.1 else g.2)).map pn))),β⟩, .next):=by
 refine zD (e:= .comp _ _ _) ?_ (show fresh (.comp _ _ _) (.list (((Au 4).map fun w=>due.getD w 0+(if w/h%2=0 then g.1 else g.2)).map pn))=true from wR fun x _=>zO)
 refine(kX (U:=U) (src:= .eD (.lit (.int 4))) (l:=Au 4) (it:=fun w=> [pn w]) (g:=fun w=>pn (due.getD w 0+(if w/h%2=0 then g.1 else g.2))) (qN (n:=4) rfl (by decide)) (by decide) fun w hw=>⟨?_,zO⟩).trans (by rw[A9];rfl)
 have hw:=B7.mp hw
 have v:ev U (.var 27) (σ++[some (pn w)])=some (pn w):=zA (wY bu)
 exact wL (wB (zA NR.app) v (ng pn 0 (hd▸hw)) (by rw[An,hd];decide)) (wB (l:=[pn g.1,pn g.2]) (wB (l:=[dg g]) (n:=0) (zA OD.app) rfl rfl (show 1<=ag by decide)) (jB (n:=2) (pK v (zA NS.app) hh) rfl (by decide)) (OC g _ (Bn _ (by decide))) (show 2<=ag by decide))
noncomputable def hK(xs M due:List Nat)(told:PV):List (Nat×PV):=[(2, .list (xs.map pn)),(4, .str M),(18,told),(19, .list (due.map pn))]
noncomputable def FR(U:Uc):Den:=zZ (yX 21 (DT U NN)) (zZ (den U NL) (zZ (den U zu) (zZ (den U NM) aA)))
theorem Vj(hx:xs.length=5)(hM:M.length=10)(hh:0<h/\h<1073741824){g:Nat×Nat}(hm:nR M (fm xs h) 10=some ([g],5)){due:List Nat}{told:PV}(hd:due.length=4)(K:Kn 27 σ (hK xs M due told)):
  ∃aJ,FR U ⟨σ.set 20 (some (pn h)),β⟩=some (⟨aJ,β⟩, .next)/\Kn 27 aJ (hK xs M ((Au 4).map fun w=>due.getD w 0+(if w/h%2=0 then g.1 else g.2)) told):=by
 have K0:=K.set (i:=20) (by decide) (pn h)
 generalize σ.set 20 (some (pn h))=FJ at K0
 have e1:yX 21 (DT U NN) ⟨FJ,β⟩=some (⟨FJ.set 21 (some (.list ([(0,0)].map dg))),β⟩, .next):=rfl
 have K1:=K0.set (i:=21) (by decide) (.list ([(0,0)].map dg))
 generalize FJ.set 21 (some (.list ([(0,0)].map dg)))=bT at e1 K1
 have e2:den U NL ⟨bT,β⟩=some (⟨bT.set 22 (some (.int (((0:Nat):Int)-1))),β⟩, .next):=zD (e:= .neg (.lit (.int 1))) rfl rfl
 have K2:=K1.set (i:=22) (by decide) (.int (((0:Nat):Int)-1))
 generalize bT.set 22 (some (.int (((0:Nat):Int)-1)))=bR at e2 K2
 obtain⟨cJ,e3,K3⟩:=zR0 (U:=U) (β:=β) (E:=(told, .list (due.map pn))) hx hM hh hm (K2.sub (fa rfl (fa rfl (fa rfl (fa rfl (fa rfl (fa rfl (fa rfl dO))))))))
 have e4:=zZ9 (U:=U) (β:=β) K3.len (K3.get 19 _ rfl) hd (K3.get 20 _ rfl) hh (K3.get 21 _ rfl)
 refine⟨_,(zM e1).trans<|(zM e2).trans<|(zM e3).trans<|(zM e4).trans rfl,(K3.set (i:=19) (by decide) _).sub (fa rfl (fa rfl (fa rfl (fa rfl dO))))⟩
theorem zVp(a b:Nat×Nat):((Au 4).map fun w=>((Au 4).map fun w=> [10,10,10,10].getD w 0+(if w/2%2=0 then a.1 else a.2)).getD w 0+(if w/1%2=0 then b.1 else b.2))=eU 10 a b:=rfl
theorem zWp(hx:xs.length=5)(hM:M.length=10){a b:Nat×Nat}(ha:nR M (fm xs 2) 10=some ([a],5))(hb:nR M (fm xs 1) 10=some ([b],5)){told:PV}(K:Kn 27 σ (hK xs M [10,10,10,10] told)):
  ∃aJ,TK U ⟨σ,β⟩=some (⟨aJ,β⟩, .next)/\Kn 27 aJ (hK xs M (eU 10 a b) told):=by
 obtain⟨bT,e1,K1⟩:=Vj (U:=U) (β:=β) hx hM (h:=2) (by decide) ha (due:=[10,10,10,10]) rfl K
 obtain⟨bR,e2,K2⟩:=Vj (U:=U) (β:=β) hx hM (h:=1) (by decide) hb (by rw[An];rfl) K1
 rw[zVp]at K2
 refine⟨bR,?_,K2⟩
 refine(?_:wE [20] (FR U) [[pn 2],[pn 1]] ⟨σ,β⟩=_)
 refine(?_:(FR U ⟨σ.set 20 (some (pn 2)),β⟩).bind _=_)
 rw[e1]
 refine(?_:(FR U ⟨bT.set 20 (some (pn 1)),β⟩).bind _=_)
 rw[e2];rfl
end
theorem zNo(l:List Nat):(Au l.length).map (fun k=>l.getD k 0)=l:=by
 refine List.ext_getElem (by rw[An,F9]) fun k h1 h2=>?_
 rw[List.getElem_map,List.getElem_range,A4,Aw h2];rfl
theorem zWr{M:List Nat}(hM:M.length=10)(th:List Nat)(q t:Nat):cv (nQ M th q t)=M:=by
 unfold cv nQ
 rw[A9,<-hM]
 exact zNo M
theorem zX9(M:List Nat)(tot q t:Nat)(ht:t<10):g7 (nQ M (gZ tot) q t)<=nq (gZ tot):=by
 unfold g7 nQ
 rw[List.countP_map]
 have h:=zXs (tot%9) (Bn _ (by decide)) (q%10) (Bn _ (by decide)) t ht
 have e:∀k,nj (gZ tot) (q%10) t k=nj (gZ tot) q t k:=fun k=>by unfold nj;rw[Nat.mod_mod,Nat.mod_add_mod]
 refine Ad (Cr ?_) h
 refine List.countP_congr fun k _=>?_
 rw[show things.getD (tot%9) []=gZ tot from rfl,e k];rfl
theorem OE(tot:Nat):gZ tot∈things:=by
 have:∀k<9,things.getD k []∈things:=by decide
 exact this _ (Bn _ (by decide))
theorem Vk(tot:Nat):gp tot<10:=by
 have:=Bn tot (show 0<5 by decide)
 unfold gp;omega
theorem zYq(tot:Nat):gp tot∈[1,3,5,7,9]:=by
 have:∀k<5,1+k*2∈[1,3,5,7,9]:=by decide
 exact this _ (Bn _ (by decide))
theorem zZq{ms:List Nat}(h:ms∈lS 5):zX (cU ms)=true/\∀t∈[1,3,5,7,9],zX ([40,41]++((cU ms).drop t++(cU ms).take t)++[40,41])=false:=by
 obtain⟨h1,h2⟩:=Ba.mp (Ao.mp zXw ms h)
 exact⟨h1,fun t ht=>by simpa using Ao.mp h2 t ht⟩
theorem Vl:∀l:List Nat,tQ (l.map pn) (l.map pn)=some true
 |[]=>rfl
 |x::l=>by
  refine(?_:((some ((x:Int)==(x:Int))).bind fun a=>(tQ (l.map pn) (l.map pn)).map fun b=>a&&b)=_)
  rw[Vl l,beq_self_eq_true];rfl
theorem yBt(l:List Nat):vEq (.list (l.map pn)) (.list (l.map pn))=some true:=by
 refine(?_:(if((l.map pn).length==(l.map pn).length)=true then tQ (l.map pn) (l.map pn)else some false)=_)
 rw[if_pos (beq_self_eq_true _),Vl]
section
variable{U U₃:Uc}{σ:List (Option PV)}{β:Option (Value×aj)}{xs:List Nat}{u:Value}
theorem zW6{a b:PE}{l m:List PV}(ha:ev U a σ=some (.list l))(hb:ev U b σ=some (.list m))(hs:l.length+m.length<=ag):ev U (.bin .Add a b) σ=some (.list (l++m)):=by
 refine(?_:(ev U a σ).bind _=_)
 refine zK ha ?_
 refine zK hb ?_
 exact if_pos hs
theorem zYu(gF:∀s:List Nat,s.length<=900->U 3 [.str s]=some (.bool (zX s))){th:List Nat}(bY:th∈things)(ht:th.length<=5){d:DL}(hp:par (cv d))(hc:g7 d<=nq th)(hl:d.length=10)(gC:At σ 10 (.list ((dT th d).map .str)))(OF:zX (cv d)=true):den U NH ⟨σ,β⟩=some (⟨σ,β⟩, .next):=by
 have jl:=Ox ht (d:=d) (by omega)
 have e:ev U (.uc 3 (.cons (.me 0 (.lit (.str [])) (.cons (.var 10) .nil)) .nil)) σ=some (.bool true):=by
  refine(z9 (s7 (zA gC) (Ad jl (by decide))) (gF _ (by rw[Gs];exact Ad jl (by decide)))).trans ?_
  rw[Ow bY hp hc,OF]
 refine(?_:den U (.ifs (.cmp .IsNot _ (.lit (.bool true))) _ .nil) _=_)
 exact fQ (Uv (x:=true) (y:=true) e rfl) rfl
theorem zXu(gF:∀s:List Nat,s.length<=900->U 3 [.str s]=some (.bool (zX s))){th:List Nat}(bY:th∈things)(ht:th.length<=5){d:DL}{t:Nat}(hp:par (cv d))(hc:g7 d<=nq th)(hl:d.length=10)(gC:At σ 10 (.list ((dT th d).map .str)))(h9:At σ 9 (pn t))(mO:t<=10)(OF:zX ([40,41]++((cv d).drop t++(cv d).take t)++[40,41])=false):den U NI ⟨σ,β⟩=some (⟨σ,β⟩, .next):=by
 have ij:((dT th d).map PV.str).length=10:=by unfold dT;rw[An,An,hl]
 have hsz:((dT th d).map PV.str).length<=ag:=ij▸(by decide)
 have rot:ev U (.bin .Add (.bI (.var 10) (.yes (.var 9)) .no .no) (.bI (.var 10) .no (.yes (.var 9)) .no)) σ=some (.list ((dT th (d.drop t++d.take t)).map .str)):=by
  refine(zW6 (UU (zA gC) (zA h9) hsz (ij▸mO)) (UT (zA gC) (zA h9) hsz (ij▸mO)) ?_).trans ?_
  ·rw[Bw,Cu,ij];exact Ad (m:=20) (by omega) (by decide)
  ·unfold dT;rw[D5,D5,Ep,Eb,Ep,Eb]
 have jl:=Ox ht (d:=d.drop t++d.take t) (by rw[Ah,Bw,Cu,hl];omega)
 have jn:=s7 rot (Ad jl (by decide))
 have fl:(dT th (d.drop t++d.take t)).flatten.length<=84:=by rw[Gs];exact jl
 have cat:=pL (pL (a:= .lit (.str [40,41])) (m:=[40,41]) rfl jn (Ad (Dg fl 2) (by decide))) (b:= .lit (.str [40,41])) (n:=[40,41]) rfl (by rw[Ah];exact Ad (By (Dg fl 2) 2) (by decide))
 have q:∀D:DL,[40,41]++(dT th D).flatten++[40,41]=(dT th ([(40,false),(41,false)]++D++[(40,false),(41,false)])).flatten:=fun D=>by
  rw[Ov,Ov,Cw,Cw];rfl
 have qm:cv ([(40,false),(41,false)]++(d.drop t++d.take t)++[(40,false),(41,false)])=[40,41]++((cv d).drop t++(cv d).take t)++[40,41]:=by
  rw[AG,AG,AG];unfold cv;rw[Ep,Eb];rfl
 have e:ev U (.uc 3 (.cons (.bin .Add (.bin .Add (.lit (.str [40,41])) (.me 0 (.lit (.str [])) (.cons (.bin .Add (.bI (.var 10) (.yes (.var 9)) .no .no) (.bI (.var 10) .no (.yes (.var 9)) .no)) .nil))) (.lit (.str [40,41]))) .nil)) σ=some (.bool false):=by
  refine(z9 cat (gF _ (by rw[Ah,Ah];exact Ad (By (Dg fl 2) 2) (by decide)))).trans ?_
  rw[q,Ow bY (by
   rw[qm]
   refine par.app (par.app (fun c hc=>?_) (par.app (fun c hc=>hp c (Ih hc)) (fun c hc=>hp c (Gm hc)))) (fun c hc=>?_)
   all_goals simpa using hc) (by
   unfold g7 at*
   rw[G5,G5,G5]
   have:=G5 (p:=fun z:Nat×Bool=>z.2) (l₁:=d.take t) (l₂:=d.drop t)
   rw[List.take_append_drop]at this
   simp only[List.countP_cons,List.countP_nil]
   simp
   omega),qm,OF]
 refine(?_:den U (.ifs (.cmp .IsNot _ (.lit (.bool false))) _ .nil) _=_)
 exact fQ (Uv (x:=false) (y:=false) e rfl) rfl
theorem zWo{pre:List Nat}{ln:Int}{L:List Nat}(hp:pre.all jx=true)(hl:jS pre ln=1+L.length)(hL:L.length<=10)(h5:At σ 5 (.list (L.map pn)))(h17:At σ 17 (.obj u)):∃b',NO U (kS U₃) 17 EO ⟨σ,some (u,⟨pre,ln,[]⟩)⟩=some (⟨σ,some (u,b')⟩, .next):=by
 refine⟨⟨[],jS pre ln,[]⟩,?_⟩
 refine(?_:(ia _ 17).bind _=_)
 refine zK (aO h17) ?_
 refine(?_:(kS U₃ _).bind _=_)
 rw[S5 (zSf (ln:=ln) hp),As]
 have e:ev U EO σ=some (pn (1+L.length)):=by
  have:=TY (U:=U) (zA h5) (by rw[An];exact Ad hL (by decide))
  rw[An]at this
  exact wL (m:=1) rfl this
 refine(?_:(ev U EO σ).bind _=_)
 rw[e,As]
 refine xT ?_ rfl
 refine(?_:(true&&((some ((jS pre ln:Int)==((1+L.length:Nat):Int))).map (!·)==some false))=true)
 rw[hl,show((1:Int)+(L.length:Int))=((1+L.length:Nat):Int)by omega,beq_self_eq_true];rfl
theorem zU3(gF:∀s:List Nat,s.length<=900->U 3 [.str s]=some (.bool (zX s)))(hx:xs.length=5)(K:Kn 27 σ ((17, .obj u)::bK xs)):
  ∃g',NQ U (kS U₃) (nO U (kS U₃) 6) ⟨σ,some (u,⟨iR xs.sum xs (yM (bD xs 5)),1,[]⟩)⟩=some (g', .ret (.bool true)):=by
 have fv:=uW xs 5 (Bv _)
 have hlen:=tm xs 5
 have hM:(cU (bD xs 5)).length=10:=by rw[Ob,hlen,UB _ fv]
 have aX:∀k∈yM (bD xs 5),k<5:=fun k hk=>hlen▸UE hk
 have JR:(yM (bD xs 5)).length<=5:=Ad (Oc _) (Cr hlen)
 obtain⟨f,hf,ef⟩:=yCu fv
 have FT:=zWr hM (gZ xs.sum) (xs.sum/9) (gp xs.sum)
 have tH:=zX9 (cU (bD xs 5)) xs.sum (xs.sum/9) (gp xs.sum) (Vk _)
 have r5:=yCc hf fv ef
 obtain⟨eh,pP,hT,uz,qa⟩:=Vg (U:=U₃) (tot:=xs.sum) (xs:=xs) (yM (bD xs 5)) [] 1 rfl
 rw[F5]at hT
 have FU:((yM (bD xs 5)).map fun k=>xs.getD k 0%4).length=ln f:=by rw[An,r5]
 obtain⟨b',e1,Vm⟩:=U8 (U:=U) (v:=u) (fget:=kS U₃) (tot:=xs.sum) (bE:=⟨eh,pP,[]⟩) gF (OE xs.sum) (FI _) 6 f (nQ (cU (bD xs 5)) (gZ xs.sum) (xs.sum/9) (gp xs.sum)) _ _ (by omega) (by omega) (FT.trans ef.symm) tH hT (Cr FU.symm)
 have hr:=U3 f ((yM (bD xs 5)).map fun k=>xs.getD k 0%4) (Cr FU.symm)
 have OG:(gq f ((yM (bD xs 5)).map fun k=>xs.getD k 0%4)).2=[]:=Ec (Nat.add_eq_right.mp (hr.trans FU))
 rw[OG]at Vm
 have hb:b'=⟨eh,pP,[]⟩:=by cases Vm;rfl
 subst hb
 have told:=zX1 hf (W:=(yM (bD xs 5)).map fun k=>xs.getD k 0%4) (fun m hm=>by obtain⟨k,_,rfl⟩:=F1.mp hm;exact Bn _ (by decide)) (Cr FU.symm)
 have hB:∀h,(yM (bD xs 5)).map (fun k=>(fm xs h).getD k 0)=(yM (bD xs 5)).map fun k=>xs.getD k 0/h%2:=fun h=>Cv fun k hk=>by
  unfold fm
  rw[A4,ng (fun x=>x/h%2) 0 (hx▸aX k hk)];rfl
 have b2:(((yM (bD xs 5)).map fun k=>xs.getD k 0%4).map (· /2))=(yM (bD xs 5)).map (fun k=>(fm xs 2).getD k 0):=by
  rw[hB,A9]
  exact Cv fun k _=>by exact Nat.mod_mul_right_div_self (xs.getD k 0) 2 2
 have b1:(((yM (bD xs 5)).map fun k=>xs.getD k 0%4).map (· %2))=(yM (bD xs 5)).map (fun k=>(fm xs 1).getD k 0):=by
  rw[hB,A9]
  exact Cv fun k _=>by exact(Nat.mod_mod_of_dvd _ (by decide:2∣4)).trans (by rw[Nat.div_one])
 rw[b2,b1]at told
 have m2:=Vi hf fv ef hx 2
 have m1:=Vi hf fv ef hx 1
 generalize(rh f ((yM (bD xs 5)).map fun k=>(fm xs 2).getD k 0) (0,0)).1=a at told m2
 generalize(rh f ((yM (bD xs 5)).map fun k=>(fm xs 1).getD k 0) (0,0)).1=c at told m1
 rw[told]at e1
 have OH:=K.get 10 _ rfl
 rw[yA2]at OH
 have sl:∀i p,At σ i p->iY i ⟨σ,some (u,⟨iR xs.sum xs (yM (bD xs 5)),1,[]⟩)⟩=some p:=fun i p h=>by
  refine(?_:(σ[i]?).bind id=_)
  rw[h];rfl
 have Vn:TJ (nO U (kS U₃) 6) ⟨σ,some (u,⟨iR xs.sum xs (yM (bD xs 5)),1,[]⟩)⟩=some (⟨σ.set 18 (some (.list ((eU 10 a c).map pn))),some (u,⟨eh,pP,[]⟩)⟩, .next):=by
  refine(?_:(uK _ 17 (iY 10) (iY 16) (iY 13) _).bind _=_)
  refine zK (a:=(⟨σ,some (u,⟨eh,pP,[]⟩)⟩, .list ((eU 10 a c).map pn))) ?_ rfl
  refine(?_:(iY 10 _).bind _=_)
  refine zK (sl 10 _ OH) ?_
  refine zK (aO (K.get 17 _ rfl)) ?_
  refine zK (sl 16 _ (K.get 16 _ rfl)) ?_
  refine zK (sl 13 _ (K.get 13 _ rfl)) ?_
  refine(?_:(nO U (kS U₃) 6 u _ ik _ _).map _=_)
  rw[e1];rfl
 have K1:=K.set (i:=18) (by decide) (.list ((eU 10 a c).map pn))
 have tI:At (σ.set 18 (some (.list ((eU 10 a c).map pn)))) 10 _:=OH.set (by decide)
 generalize σ.set 18 (some (.list ((eU 10 a c).map pn)))=bT at Vn K1 tI
 obtain⟨oe,e17⟩:=zWo (U:=U) (U₃:=U₃) (u:=u) (L:=yM (bD xs 5)) uz (by rw[qa];rfl) (Ad JR (by decide)) (K1.get 5 _ rfl) (K1.get 17 _ rfl)
 have AK:par (cv (nQ (cU (bD xs 5)) (gZ xs.sum) (xs.sum/9) (gp xs.sum))):=by rw[FT,<-ef];exact f.par
 have Vo:(nQ (cU (bD xs 5)) (gZ xs.sum) (xs.sum/9) (gp xs.sum)).length=10:=by unfold nQ;rw[An,F9]
 have ck:=zZq fv
 have e18:=zYu (U:=U) (β:=some (u,oe)) gF (OE _) (FI _) AK tH Vo tI (by rw[FT];exact ck.1)
 have e19:=zXu (U:=U) (β:=some (u,oe)) gF (OE _) (FI _) AK tH Vo tI (K1.get 9 _ rfl) (Cj (Vk _)) (by rw[FT];exact ck.2 _ (zYq _))
 have Vp:den U NJ ⟨bT,some (u,oe)⟩=some (⟨bT.set 19 (some (.list ([10,10,10,10].map pn))),some (u,oe)⟩, .next):=zD (e:= .list _) rfl rfl
 have K2:=K1.set (i:=19) (by decide) (.list ([10,10,10,10].map pn))
 generalize bT.set 19 (some (.list ([10,10,10,10].map pn)))=bR at Vp K2
 obtain⟨cJ,e21,K3⟩:=zWp (U:=U) (β:=some (u,oe)) hx hM m2 m1 (told:= .list ((eU 10 a c).map pn)) (K2.sub (fa rfl (fa rfl (fa rfl (fa rfl dO)))))
 have e22:den U NK ⟨cJ,some (u,oe)⟩=some (⟨cJ,some (u,oe)⟩, .ret (.bool true)):=by
  refine UC ?_ rfl
  refine(?_:(ev U (.var 18) cJ).bind _=_)
  refine zK (zA (K3.get 18 _ rfl)) ?_
  refine zK (zA (K3.get 19 _ rfl)) ?_
  refine(?_:(vEq (.list ((eU 10 a c).map pn)) (.list ((eU 10 a c).map pn))).map PV.bool=_)
  rw[yBt];rfl
 exact⟨_,(zM Vn).trans<|(zM e17).trans<|(zM e18).trans<|(zM e19).trans<|(zM Vp).trans<|(zM e21).trans (yU e22)⟩
end
theorem OI{h h':Ap}{a:Addr}{m:Str->Option Value}(hn:h.Ns a m)(k:∀o,h.get? a=some o->h'.get? a=some o):h'.Ns a m:=
 let⟨o,es,ep,e,r⟩:=hn;⟨o,es,ep,k o e,r⟩
theorem zO2{h h':Ap}(x:h.NoLimit)(k:∀o,h.get? cStatics=some o->h'.get? cStatics=some o):h'.NoLimit:=
 let⟨mc,a,b⟩:=x;⟨mc,OI a k,b⟩
noncomputable def FV:Option Obj->Array DictEntry
 |some ⟨_,_, .dict es _,_⟩=>es
 |_=> #[]
noncomputable def Vq(es:Array DictEntry):Bool:=es.toList.all fun e=>match e.key with| .str _ _=>true|_=>false
theorem zO6{es:Array DictEntry}(h:Vq es=true):StrKeys es:=fun e he=>by
 have:=Ao.mp h e (Array.mem_toList_iff.mpr he)
 split at this
 ·next n t q=>exact⟨n,t,q⟩
 ·exact ft this
theorem qV{h:Ap}{a:Addr}{m:Str->Option Value}{o:Obj}(hn:h.Ns a m)(e:h.get? a=some o)(x:Str):m x=nsFind (FV (some o)) x:=by
 refine i5 hn fun o' es ep e' hd _ hm=>?_
 rw[e]at e';obtain rfl:=Aa e'
 obtain⟨oc,od,CO,sl⟩:=o
 dsimp only at hd
 subst hd
 exact(hm x).symm
noncomputable def yBe:Option Obj->Bool
 |some ⟨_,_, .dict _ _,_⟩=>true
 |_=>false
theorem yCf{K:Frag}{h:Ap}{a:Addr}(X:K.In h)(hd:yBe (K.lookup a)=true)(hk:Vq (FV (K.lookup a))=true):h.Ns a (nsFind (FV (K.lookup a))):=by
 cases hl:K.lookup a with
 |none=>rw[hl]at hd;exact ft hd
 |some o=>
  rw[hl]at hd hk
  obtain⟨oc,od,CO,sl⟩:=o
  cases CO with
  |dict es ep=>exact⟨_,es,ep,X _ _ hl,rfl,zO6 hk,fun _=>rfl⟩
  |_=>exact ft hd
noncomputable def Vr:Option Obj->Value
 |some ⟨_,_, .func fd,_⟩=>fd.pyModule
 |_=> .none
noncomputable def Vs:Option Obj->Value
 |some ⟨_,_, .func fd,_⟩=>fd.doc
 |_=> .none
noncomputable def FW:Option Obj->Option Str
 |some ⟨_,_, .fields vs,_⟩=>match(vs[1]?:Option Value)with
  |some (.str q _)=>some q
  |_=>none
 |_=>none
theorem Vt{K:Frag}{h:Ap}{c:Addr}{q:Str}(X:K.In h)(hc:FW (K.lookup c)=some q):h.CodeRec (.ref c) q:=by
 cases hl:K.lookup c with
 |none=>rw[hl]at hc;exact nn hc
 |some o=>
  rw[hl]at hc
  unfold FW at hc
  split at hc
  ·next vs _ q1=>
   obtain rfl:=Aa q1
   split at hc
   ·next q2 t e=>obtain rfl:=Aa hc;exact⟨c,_,vs,t,rfl,X _ _ hl,rfl,e⟩
   ·exact nn hc
  ·exact nn hc
theorem nS{K:Frag}{h:Ap}(X:K.In h){p:Program}{a c:Addr}{i:Nat}(hs:(K.lookup a).map (·.data)=some (.func (docDef (v7 p i) (v5 p i) (yN p i) (lG p i) (Vr (K.lookup a)) (.ref c) (Vs (K.lookup a)))))
  (hc:FW (K.lookup c)=some (v7 p i)):fe p h a i:=by
 refine aB (Bp.mp hs) fun o e1 e2=>?_
 exact⟨o,_,_,_,X _ _ e1,e2,Vt X hc⟩
noncomputable def yCs:Option Obj->Value
 |some o=>o.cls
 |_=> .none
theorem OJ{K:Frag}{h:Ap}(X:K.In h){p:Program}{a c:Addr}{i j:Nat}{qual:Str}(hs:(K.lookup a).map (·.data)=some (.func (Ig (yx p i j) qual (yw p i j) (Ta p i j) (qK p i j) (Vr (K.lookup a)) (.ref c) (Vs (K.lookup a)) .none)))
  (hf:yCs (K.lookup a)= .type "function") (hc:FW (K.lookup c)=some qual):DV p h a i j qual:=by
 refine aB (Bp.mp hs) fun o e1 e2=>?_
 rw[e1]at hf
 exact⟨o,_,_,_,X _ _ e1,hf,e2,Vt X hc⟩
theorem zRt{K:Frag}{h h':Ap}{P:Addr}(X:K.In h)(hP:K.lookup P=none)(k:∀a o,a∉ [P]->h.get? a=some o->h'.get? a=some o):K.In h':=fun a o e=>k a o (fun q=>by rw[Ae.mp q,hP]at e;exact nn e) (X a o e)
end Internal
section
open PySem PySem.W PyProof.Rows
set_option maxHeartbeats 8000000
theorem Internal.okB:OpenLaw.wellSaid PySem.Challenge.rw_uc0011_02=true:=by decide+kernel
local macro_rules | `(tactic|o_law)=> `(tactic|refine holds_law Internal.okB fun said=>?_)
open_top Internal.hdW for PySem.Challenge.rw_uc0011_02
end
namespace Internal
open PySem PySem.W PySem.Calls PyProof.Rows
theorem hfB{mg mb:Str->Option Value}{w:Co}{h:Ap}(X:(hdW.heap_1 w.params).In h)(hg:h.Ns mainGlobals mg)(hb:h.Ns builtinsNs mb)(hl:h.NoLimit)(hbm:h.BuiltinsAt mg 134):gm mg mb h where
 g:=hg
 b:=hb
 lim:=hl
 yy:=nS (c:=124) X (by kernel_rfl) (by kernel_rfl)
 yz:=nS (c:=131) X (by kernel_rfl) (by kernel_rfl)
 uG:=nS (c:=44) X (by kernel_rfl) (by kernel_rfl)
 y0:=nS (c:=51) X (by kernel_rfl) (by kernel_rfl)
 y6:=nS (c:=58) X (by kernel_rfl) (by kernel_rfl)
 mR:=nS (c:=117) X (by kernel_rfl) (by kernel_rfl)
 mS:=nS (c:=138) X (by kernel_rfl) (by kernel_rfl)
 mT:=nS (c:=143) X (by kernel_rfl) (by kernel_rfl)
 kU:=nS (c:=148) X (by kernel_rfl) (by kernel_rfl)
 cls:=⟨⟨_,_,_,_,_,_,_,_,_,_,_,_,X 97 _ rfl⟩,⟨_,yCf X (a:=96) (by kernel_rfl) (by kernel_rfl),by kernel_rfl,by kernel_rfl,by kernel_rfl,by kernel_rfl,by kernel_rfl,by kernel_rfl,by kernel_rfl,by kernel_rfl,by kernel_rfl,by kernel_rfl,by kernel_rfl⟩⟩
 DW:=OJ (c:=72) X (by kernel_rfl) (by kernel_rfl) (by kernel_rfl)
 y7:=OJ (c:=79) X (by kernel_rfl) (by kernel_rfl) (by kernel_rfl)
 y8:=OJ (c:=86) X (by kernel_rfl) (by kernel_rfl) (by kernel_rfl)
 pE:=⟨_,_,_,_,_,_,X 106 _ rfl,rfl,rfl,rfl,rfl,rfl,rfl,X 105 _ rfl,rfl,by decide+kernel⟩
 pG:=⟨_,_,_,_,_,_,X 111 _ rfl,rfl,rfl,rfl,rfl,rfl,rfl,X 110 _ rfl,rfl,by decide+kernel⟩
 code:=⟨_,_,X 139 _ rfl,rfl,rfl⟩
 hd:=codeHd_of_K X (by kernel_rfl)
 bm:=hbm
theorem gaB{mg mb:Str->Option Value}{w:Co}{h:Ap}{loose:List Str}{nt:ExcName->Option Value}(X:(hdW.heap_1 w.params).In h)(T:Top hdW.view_1 loose nt mg mb h):jU mg mb:=by
 have m:∀x,mg x=nsFind (FV ((hdW.heap_1 w.params).lookup 3)) x:=fun x=>qV T.g (X 3 _ rfl) x
 have nb:∀x:Str,x≠ "__name__" ->mb x=bootBuiltins x:=T.builtins
 have ci:∀{x:Str} {i:Int},valOf hdW.view_1 x=some (.int i)->∃t,mg x=some (.int i t):=fun e=>by
  refine aB (T.const _ _ e) fun v e1 r=>?_
  cases r h with
  |int _ t=>exact⟨t,e1⟩
 have cs:∀{x u:Str},valOf hdW.view_1 x=some (.str u)->∃t,mg x=some (.str u t):=fun e=>by
  refine aB (T.const _ _ e) fun v e1 r=>?_
  cases r h with
  |str _ t=>exact⟨t,e1⟩
 exact {
  i1:=ci (by kernel_rfl)
  i2:=ci (by kernel_rfl)
  i3:=ci (by kernel_rfl)
  f0:=(m _).trans (by kernel_rfl)
  f1:=(m _).trans (by kernel_rfl)
  f2:=(m _).trans (by kernel_rfl)
  f3:=(m _).trans (by kernel_rfl)
  f4:=(m _).trans (by kernel_rfl)
  f5:=(m _).trans (by kernel_rfl)
  f6:=(m _).trans (by kernel_rfl)
  f7:=(m _).trans (by kernel_rfl)
  f8:=(m _).trans (by kernel_rfl)
  f9:=(m _).trans (by kernel_rfl)
  r1:=(m _).trans (by kernel_rfl)
  r2:=(m _).trans (by kernel_rfl)
  crlf:=cs (by kernel_rfl)
  no:=fa ((m _).trans (by kernel_rfl)) (fa ((m _).trans (by kernel_rfl)) (fa ((m _).trans (by kernel_rfl)) (fa ((m _).trans (by kernel_rfl)) (fa ((m _).trans (by kernel_rfl)) (fa ((m _).trans (by kernel_rfl)) (fa ((m _).trans (by kernel_rfl)) (fa ((m _).trans (by kernel_rfl)) (fa ((m _).trans (by kernel_rfl)) (dO)))))))))
  y9:=(nb _ (by decide+kernel)).trans (by kernel_rfl)
  za:=(nb _ (by decide+kernel)).trans (by kernel_rfl)
  ze:=(nb _ (by decide+kernel)).trans (by kernel_rfl)
  zg:=(nb _ (by decide+kernel)).trans (by kernel_rfl)
  mU:=(nb _ (by decide+kernel)).trans (by kernel_rfl)
  mV:=(nb _ (by decide+kernel)).trans (by kernel_rfl)
  mW:=(nb _ (by decide+kernel)).trans (by kernel_rfl)
  zh:=(nb _ (by decide+kernel)).trans (by kernel_rfl)
  qL:=(nb _ (by decide+kernel)).trans (by kernel_rfl)}
theorem Vu{h:Ap}:∀{vs:List Value} {is:List Int},H7 vs is->ao h (is.map .int) vs []
 |_,_, .nil=> .nil
 |_,_, .cons i t r=>by
  have:=ao.cons (h:=h) (VR.int i t) (Vu r)
  exact this
section
variable{mg mb:Str->Option Value}(w:Co)(G:jU mg mb)
theorem uB1(a b:List Nat)(c:Nat)(qx:small a)(ha:a.length<=40)(iG:small b)(hb:b.length<=40):(W6 w G).U 1 [.str a, .str b,pn c]=some (pn (te a b c)):=
 zYb (U:=(W1 w G).U) (fun x y hx hy=>yBn (fun _ _=>none) hx hy) qx ha iG hb
theorem uB3(s:List Nat)(hs:s.length<=900):(W6 w G).U 3 [.str s]=some (.bool (zX s)):=
 zRx (U:=(W3 w G).U) (zSr (U:=(W2 w G).U) hs)
theorem uB4(l:List Nat)(hl:l.length<=100000):(W6 w G).U 4 [.str l]=some (.str (kR l)):=by
 refine(?_:(if l.length<=100000 then some (PV.str (kR l))else none)=_)
 exact xT hl rfl
theorem uB5(a h:List Nat)(ha:a.length<=1000):(W6 w G).U 5 [.str a, .str h]=some (.str (lT a h)):=zRr (U:=(W5 w G).U) ha
include G in
theorem zYe{s:Ab}{v:Value}{ns:List Addr}{is:List Int}(hlen:is.length<=1000)(A:Am)(aP:wO 13 A)(eS:∀h:Ap,(∀a o,a∉ [134]->s.heap.get? a=some o->h.get? a=some o)->gm mg mb h)(hf:fe PB s.heap 154 23)(hP:s.heap.get? 134=some (G4 #[]))
  (hv:VR s.heap (.list (is.map .int)) v ns) (cb:134∉ns):
  Ca (Af PB w) A (.call (.ref 154) ⟨[v],[]⟩) (fun res s'=>res= .ok (.ret (.bool true))/\yZ s s'/\(∀a o,a≠134->s.heap.get? a=some o->s'.heap.get? a=some o)/\∃ps,s'.heap.get? 134=some (G4 ps)) s:=by
 obtain⟨xs,cg,hx,hA,eL⟩:=zZz (U:=(W6 w G).U) (β:=some (.none,fc)) (σ:=some (.list (is.map .int))::A0 26 none) (is:=is) rfl hlen rfl
 have bl:(FH xs.sum).length<=10:=by
  have:∀k<6,(jX.getD k []).length<=10:=by decide
  exact this _ (pM xs.sum)
 have h9:=zZ7 (U:=(W6 w G).U) (β:=some (.none,fc)) eL.len (eL.get 3 _ rfl) (eL.get 11 _ rfl) bl
 have OK:=eL.set (i:=12) (by decide) (.list ((ff xs.sum).map .str))
 obtain⟨jV,hB,AL⟩:=yAf (U:=(W6 w G).U) (β:=some (.none,fc)) (uB1 w G) (uB4 w G) (uB5 w G) hx OK
 refine zYo w G (fget:=kS (W3 w G).U) (fun b b' r h=>zW0 h) aP eS hf hP hv cb hA h9 hB (AL.get 15 _ rfl) ?_ fun u=>zU3 (U:=(W6 w G).U) (uB3 w G) hx (AL.set (i:=17) (by decide) (.obj u))
 unfold iR
 rw[Li]
 refine Ad (qP _ 15 _ fun k _=>?_) (Ad (Ee 15 (Ad (Oc _) (Cr (tm xs 5)))) (by decide))
 refine(?_:(46::fS xs.sum xs k++[13,10]).length<=15)
 rw[Ah]
 exact By (Du (AD ..)) 2
end
theorem zXf{aa s':Ab}{c:ClaimW}{cl:Str->Option Addr}{nt:ExcName->Option Value}{args:List WData}{cc P:Addr}{ps:Array Value}(hr:∀x,c.raises args x=false)(hp:c.post args (.bool true) args=true)
  (hS:yZ aa s') (hk:∀a o,a≠P->aa.heap.get? a=some o->s'.heap.get? a=some o) (hc:Mn aa.heap cc P) (hP:aa.heap.get? P=some (G4 #[])) (mI:s'.heap.get? P=some (G4 ps)) (hg:aa.gens= #[]):
  GoodWG c cl nt args aa (.ok (.ret (.bool true))) s':=by
 obtain⟨h,t,g,rfl,hx⟩:=hS
 refine OQ (.inl ⟨_,_,_,rfl,hr, .bool true,hp,fun _=>⟨Eu,fun a ha=>nomatch ha⟩⟩) ⟨fun b o e=>?_,fun b o e=>?_⟩ rfl (hx.bare (.of_eq hg))
 ·by_cases hb:b=P
  ·subst hb
   rw[hP]at e;obtain rfl:=Aa e
   exact .inr (.inl ⟨(hc.tab hP).isCodeTable,rfl, #[],ps,rfl,by rw[Array.empty_append];exact mI⟩)
  ·exact .inl (hk b o hb e)
 ·by_cases hb:b=P
  ·subst hb;exact⟨_,mI⟩
  ·exact cu o (hk b o hb e)
theorem zUr{P:Params}{h:Ap}{a:Addr}{vs:List Value}{xs:List WData}(hL:h.IsList a vs.toArray)(w1:Well P h (.ref a) (.list xs)):h.PlainList a vs.toArray:=by
 cases w1 with
 |list e _=>
  obtain⟨o,e2,_,n,e3⟩:=hL
  rw[e]at e2;obtain rfl:=Aa e2
  cases e3
  exact cu _ e
theorem nu{w:Co}{aa:Ab}{mg mb:Str->Option Value}{loose:List Str}{nt:ExcName->Option Value}{c:ClaimW}{cl:Str->Option Addr}{AM:ExcName->Option Value}{args:List WData}{a:Addr}{vs:List Value}{is:List Int}{xs:List WData}
  (KX:(hdW.heap_1 w.params).In aa.heap) (hP:aa.heap.get? 134=some (G4 #[])) (T:Top hdW.view_1 loose nt mg mb aa.heap) (hg:aa.gens= #[]) (hL:aa.heap.IsList a vs.toArray) (w1:Well w.params aa.heap (.ref a) (.list xs)) (hI:H7 vs is) (hlen:is.length<=1000)
  (hr:∀x,c.raises args x=false) (hp:c.post args (.bool true) args=true):
  Ca (Af PB w) callerA (.call (.ref 154) ⟨[.ref a],[]⟩) (GoodWG c cl AM args aa) aa:=by
 have cj:=zUr hL w1
 have ne:∀{b:Addr} {o:Obj},aa.heap.get? b=some o->o.cls≠ .none->b≠134:=fun e hc q=>by
  rw[q,hP]at e;obtain rfl:=Aa e;exact hc rfl
 have eS:∀h:Ap,(∀b o,b∉ [134]->aa.heap.get? b=some o->h.get? b=some o)->gm mg mb h:=fun h k=>by
  have X':=zRt KX (P:=134) (by kernel_rfl) k
  refine u2 T.bmain fun bm ob m1 m2 m3 m4 m5 m6=>?_
  refine hfB X' (OI T.g fun o e=>k _ _ (by decide) e) (OI T.b fun o e=>k _ _ (by decide) e) (zO2 T.nolimit fun o e=>k _ _ (by decide) e) ⟨bm,ob,m1,m2,?_,?_,k _ _ ?_ m3,m4,m5,m6⟩
  ·intro q
   have e3:=KX 3 _ rfl
   rw[q]at m3
   have:aa.heap.get? 3=some ob:=m3
   rw[e3]at this
   obtain rfl:=Aa this
   injection m4 with q2
   exact absurd q2 (by decide)
  ·exact ne m3 (by rw[m4];nofun)
  ·intro q
   exact ne m3 (by rw[m4];nofun) (Ae.mp q)
 refine E9 (zYe w (gaB KX T) hlen callerA ⟨rfl,by decide+kernel,by decide+kernel⟩ eS (nS (c:=153) KX (by kernel_rfl) (by kernel_rfl)) hP (.list cj (Vu hI)) ?_) fun res s' uU=>?_
 ·intro q
  refine aH cj fun n e=>?_
  exact ne e nofun (Ae.mp q).symm
 ·obtain⟨rfl,hS,hk,ps,mI⟩:=uU
  exact zXf hr hp hS hk (codeHd_of_K (c:=138) (P:=134) KX (by kernel_rfl)) hP mI hg
end Internal
open PySem PySem.W PyProof.Rows
set_option maxRecDepth 100000 in
set_option maxHeartbeats 8000000 in
theorem PySem.Challenge.cw_uc0011_02_holds : PySem.Challenge.rw_uc0011_02.Holds := by
 refine Internal.hdW ?_
 k_fill
 intro w s₀ aa mg mb G Y fa o pm cd doc dV kV ho hd gN hD hmg hg args vals as oS OL w6 hwl O1
 have KX:=km_in_of Y
 have hT8:=km_tabs_of Y
 refine Ground.open G ?_
 intro T B D TE TW
 wrow_args oS OL w6 hwl O1
 rename_i is _ _ _ _ _ _ _ aL vs _ hL _ w1 _ hI _ hlen _
 have e1:mg "law" =some (.ref 154):=(Internal.qV T.g (KX 3 _ rfl) _).trans (by kernel_rfl)
 have e2:fa=154:=by
  have e3:mg "law" =some (.ref fa):=hmg
  rw[e1]at e3
  cases e3;rfl
 subst e2
 refine enter_call ?_
 exact Internal.nu KX (hT8 134 (.head _)) T hg hL w1 hI (by omega) (fun _=>rfl) (by wrow_post)
